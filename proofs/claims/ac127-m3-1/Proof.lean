import JvmDerived
import JvmDerived.Pilot.@@N@@Statement
import JvmDerived.Pilot.@@N@@Code
set_option linter.unusedVariables false
set_option linter.unusedSimpArgs false
namespace Jvm.RoadKit
open Sem ClassFile Op Lib Jvm.Stand Jvm.Free Jvm.LawKit
section New
variable {p : Program} {l : Launch} {e : Env} {R : Room} {s : State} {m : MethodId} {args : Array Value} {below : List Frame} {meth : Method} {c : Code} {T : State} {locs : List Loc} {cells slots : Nat}
theorem own_retV (X : Stand p l e R s m args below meth c T locs cells slots) (hx : p.tables.exec = Jvm.exec) {pc : Nat} {Ls : Array Slot} {w : Value} {rest : List Value} {t : FieldType} (hret : meth.sig.returnType = some t) (ht : t.isReference = true) (hw : w.isRef = true)
    (hd : decode c.code pc = .ok (.areturn, 1)) {fs : List Frame} (hl : ∀ (f : JFrame) (acts : List Action), f.method = m → f.locked = none → f.entered = [] → (doReturn e (T.setTop f) acts (some w)).1 = T.setFrames fs) :
    Steps p.tables e below (T.setTop (mkF m pc Ls (w :: rest))) (T.setFrames fs) :=
  retOut X hx hret (by cases t <;> first | rfl | cases ht) (Or.inr (Or.inr (Or.inr (Or.inr ⟨rfl, ht, hw⟩)))) hd hl
theorem own_retI (X : Stand p l e R s m args below meth c T locs cells slots) (hx : p.tables.exec = Jvm.exec) {pc : Nat} {Ls : Array Slot} {z : Int32} {rest : List Value} (hret : meth.sig.returnType = some .int)
    (hd : decode c.code pc = .ok (.ireturn, 1)) {fs : List Frame} (hl : ∀ (f : JFrame) (acts : List Action), f.method = m → f.locked = none → f.entered = [] → (doReturn e (T.setTop f) acts (some (.int z))).1 = T.setFrames fs) :
    Steps p.tables e below (T.setTop (mkF m pc Ls (.int z :: rest))) (T.setFrames fs) :=
  retOut X hx hret rfl (Or.inl ⟨rfl, Or.inl rfl, z, rfl⟩) hd hl
theorem own_retL (X : Stand p l e R s m args below meth c T locs cells slots) (hx : p.tables.exec = Jvm.exec) {pc : Nat} {Ls : Array Slot} {z : Int64} {rest : List Value} (hret : meth.sig.returnType = some .long)
    (hd : decode c.code pc = .ok (.lreturn, 1)) {fs : List Frame} (hl : ∀ (f : JFrame) (acts : List Action), f.method = m → f.locked = none → f.entered = [] → (doReturn e (T.setTop f) acts (some (.long z))).1 = T.setFrames fs) :
    Steps p.tables e below (T.setTop (mkF m pc Ls (.long z :: rest))) (T.setFrames fs) :=
  retOut X hx hret rfl (Or.inr (Or.inl ⟨rfl, rfl, z, rfl⟩)) hd hl
theorem own_go {tb : Tables} {e : Env} {below : List Frame} {A A' : State} {P : State → Outcome → Prop} (st : ∀ t, Steps tb e below A' t → Steps tb e below A t) (h : ∃ s₂ o, Steps tb e below A' s₂ ∧ P s₂ o) : ∃ s₂ o, Steps tb e below A s₂ ∧ P s₂ o :=
  let ⟨s₂, o, h1, h2⟩ := h
  ⟨s₂, o, st _ h1, h2⟩
theorem own_fld_inj {Z : State} {h : Heap} {a : Addr} {C n d : String} {v w : Value} (F : Fld Z h a C n d v) (G : Fld Z h a C n d w) : v = w := by
  obtain ⟨c1, cf1, k1, i1, f1, p1, p2, -, -, -, -, p5⟩ := F
  obtain ⟨c2, cf2, k2, i2, f2, q1, q2, -, -, -, -, q5⟩ := G
  rw [p1] at q1; cases q1
  rw [p2] at q2; cases q2
  have := p5.symm.trans q5
  simpa using this
theorem own_fld_ne {Z : State} {h : Heap} {a b : Addr} {C n d : String} {i j : Int32} (F : Fld Z h a C n d (.int i)) (G : Fld Z h b C n d (.int j)) (hij : ¬ i = j) : ¬ a = b := fun q => by
  subst q
  exact hij (Value.int.inj (own_fld_inj F G))
theorem own_keep_ext {h h' : Heap} (K : Keep h h' []) : Ext h h' := ⟨K.1, fun a c q => K.2.1 a c q nin0⟩
theorem own_sta_keep {Z : State} {h h' : Heap} {C n d K : String} {v : Value} {a : Addr} (F : Sta Z h C n d v) (k : Keep h h' [a]) (E : Exa Z h a K) : Sta Z h' C n d v := by
  obtain ⟨cf, i, kk, f, st, cell, h1, h2, h3, h4, h5, h6, h7⟩ := F
  refine ⟨cf, i, kk, f, st, cell, h1, h2, h3, h4, k.2.1 _ _ h5 (ninS (fun q => ?_) nin0), h6, h7⟩
  obtain ⟨cell', k', g1, -, -, g4, -⟩ := E
  subst q
  cases h5.symm.trans g1
  rw [h6] at g4; cases g4
theorem own_ext_trans {h h' h'' : Heap} (E : Ext h h') (F : Ext h' h'') : Ext h h'' := ⟨Nat.le_trans E.1 F.1, fun a c q => F.2 a c (E.2 a c q)⟩
theorem own_ext_keep {h h' h'' : Heap} {ws : List Addr} (E : Ext h h') (K : Keep h' h'' ws) (q : ∀ x ∈ ws, h.size ≤ x) : Ext h h'' :=
  ⟨Nat.le_trans E.1 K.1, fun a c r => K.2.1 a c (E.2 a c r) fun z => absurd (Array.getElem?_eq_some_iff.mp r).1 (Nat.not_lt.mpr (q a z))⟩
theorem own_ext_wr {h h' h'' : Heap} {b : Addr} {sl : Nat} {v : Value} (E : Ext h h') (W : Wr h' h'' b sl v) (q : h.size ≤ b) : Ext h h'' :=
  own_ext_keep E (Keep.of_wr W) fun x hx => by cases List.mem_singleton.mp hx; exact q
end New
end Jvm.RoadKit
namespace Jvm.Pilot.@@N@@
open Jvm Jvm.ClassFile Sem Op Lib Jvm.Free Jvm.Stand Jvm.LawKit Jvm.RoadKit Bundle Jvm.Pilot.@@N@@.Jvm.D
def pk (w_LESS w_LESS_OR_EQUAL w_EQUAL w_NOT_EQUAL w_GREATER_OR_EQUAL w_GREATER : Addr) (k : Int32) : Addr := if k = (0 : Int32) then w_LESS else if k = (1 : Int32) then w_LESS_OR_EQUAL else if k = (2 : Int32) then w_EQUAL else if k = (3 : Int32) then w_NOT_EQUAL else if k = (4 : Int32) then w_GREATER_OR_EQUAL else w_GREATER
def ng (w_LESS w_LESS_OR_EQUAL w_EQUAL w_NOT_EQUAL w_GREATER_OR_EQUAL w_GREATER : Addr) (k : Int32) : Addr := if k = (0 : Int32) then w_GREATER_OR_EQUAL else if k = (1 : Int32) then w_GREATER else if k = (2 : Int32) then w_NOT_EQUAL else if k = (3 : Int32) then w_EQUAL else if k = (4 : Int32) then w_LESS else w_LESS_OR_EQUAL
def pkO (k : Int32) : Int32 := if k = (0 : Int32) then (0 : Int32) else if k = (1 : Int32) then (1 : Int32) else if k = (2 : Int32) then (2 : Int32) else if k = (3 : Int32) then (3 : Int32) else if k = (4 : Int32) then (4 : Int32) else (5 : Int32)
def mean (w_LESS w_LESS_OR_EQUAL w_EQUAL w_NOT_EQUAL w_GREATER_OR_EQUAL w_GREATER a : Addr) (c : Int32) : Int32 := if a = w_LESS then (if c < (0 : Int32) then 1 else 0) else if a = w_LESS_OR_EQUAL then (if (0 : Int32) < c then 0 else 1) else if a = w_EQUAL then (if c = (0 : Int32) then 1 else 0) else if a = w_NOT_EQUAL then (if c = (0 : Int32) then 0 else 1) else if a = w_GREATER_OR_EQUAL then (if c < (0 : Int32) then 0 else 1) else if a = w_GREATER then (if (0 : Int32) < c then 1 else 0) else 0
theorem pk_exa {Z : State} {h : Heap} {C : String} {w_LESS w_LESS_OR_EQUAL w_EQUAL w_NOT_EQUAL w_GREATER_OR_EQUAL w_GREATER : Addr} (k : Int32) (e0 : Exa Z h w_LESS C) (e1 : Exa Z h w_LESS_OR_EQUAL C) (e2 : Exa Z h w_EQUAL C) (e3 : Exa Z h w_NOT_EQUAL C) (e4 : Exa Z h w_GREATER_OR_EQUAL C) (e5 : Exa Z h w_GREATER C) : Exa Z h (pk w_LESS w_LESS_OR_EQUAL w_EQUAL w_NOT_EQUAL w_GREATER_OR_EQUAL w_GREATER k) C := by
  unfold pk
  repeat' split
  all_goals assumption
theorem pk_ord {Z : State} {h : Heap} {w_LESS w_LESS_OR_EQUAL w_EQUAL w_NOT_EQUAL w_GREATER_OR_EQUAL w_GREATER : Addr} (k : Int32) (e0 : Fld Z h w_LESS "java/lang/Enum" "ordinal" "I" (.int (0 : Int32))) (e1 : Fld Z h w_LESS_OR_EQUAL "java/lang/Enum" "ordinal" "I" (.int (1 : Int32))) (e2 : Fld Z h w_EQUAL "java/lang/Enum" "ordinal" "I" (.int (2 : Int32))) (e3 : Fld Z h w_NOT_EQUAL "java/lang/Enum" "ordinal" "I" (.int (3 : Int32))) (e4 : Fld Z h w_GREATER_OR_EQUAL "java/lang/Enum" "ordinal" "I" (.int (4 : Int32))) (e5 : Fld Z h w_GREATER "java/lang/Enum" "ordinal" "I" (.int (5 : Int32))) : Fld Z h (pk w_LESS w_LESS_OR_EQUAL w_EQUAL w_NOT_EQUAL w_GREATER_OR_EQUAL w_GREATER k) "java/lang/Enum" "ordinal" "I" (.int (pkO k)) := by
  unfold pk pkO
  repeat' split
  all_goals assumption
theorem pkO_in (k : Int32) : pkO k = 0 ∨ pkO k = 1 ∨ pkO k = 2 ∨ pkO k = 3 ∨ pkO k = 4 ∨ pkO k = 5 := by
  unfold pkO
  repeat' split
  all_goals decide
theorem own_key {w_LESS w_LESS_OR_EQUAL w_EQUAL w_NOT_EQUAL w_GREATER_OR_EQUAL w_GREATER : Addr} (n0_1 : ¬ w_LESS = w_LESS_OR_EQUAL) (n0_2 : ¬ w_LESS = w_EQUAL) (n0_3 : ¬ w_LESS = w_NOT_EQUAL) (n0_4 : ¬ w_LESS = w_GREATER_OR_EQUAL) (n0_5 : ¬ w_LESS = w_GREATER) (n1_0 : ¬ w_LESS_OR_EQUAL = w_LESS) (n1_2 : ¬ w_LESS_OR_EQUAL = w_EQUAL) (n1_3 : ¬ w_LESS_OR_EQUAL = w_NOT_EQUAL) (n1_4 : ¬ w_LESS_OR_EQUAL = w_GREATER_OR_EQUAL) (n1_5 : ¬ w_LESS_OR_EQUAL = w_GREATER) (n2_0 : ¬ w_EQUAL = w_LESS) (n2_1 : ¬ w_EQUAL = w_LESS_OR_EQUAL) (n2_3 : ¬ w_EQUAL = w_NOT_EQUAL) (n2_4 : ¬ w_EQUAL = w_GREATER_OR_EQUAL) (n2_5 : ¬ w_EQUAL = w_GREATER) (n3_0 : ¬ w_NOT_EQUAL = w_LESS) (n3_1 : ¬ w_NOT_EQUAL = w_LESS_OR_EQUAL) (n3_2 : ¬ w_NOT_EQUAL = w_EQUAL) (n3_4 : ¬ w_NOT_EQUAL = w_GREATER_OR_EQUAL) (n3_5 : ¬ w_NOT_EQUAL = w_GREATER) (n4_0 : ¬ w_GREATER_OR_EQUAL = w_LESS) (n4_1 : ¬ w_GREATER_OR_EQUAL = w_LESS_OR_EQUAL) (n4_2 : ¬ w_GREATER_OR_EQUAL = w_EQUAL) (n4_3 : ¬ w_GREATER_OR_EQUAL = w_NOT_EQUAL) (n4_5 : ¬ w_GREATER_OR_EQUAL = w_GREATER) (n5_0 : ¬ w_GREATER = w_LESS) (n5_1 : ¬ w_GREATER = w_LESS_OR_EQUAL) (n5_2 : ¬ w_GREATER = w_EQUAL) (n5_3 : ¬ w_GREATER = w_NOT_EQUAL) (n5_4 : ¬ w_GREATER = w_GREATER_OR_EQUAL) (k c : Int32) : mean w_LESS w_LESS_OR_EQUAL w_EQUAL w_NOT_EQUAL w_GREATER_OR_EQUAL w_GREATER (ng w_LESS w_LESS_OR_EQUAL w_EQUAL w_NOT_EQUAL w_GREATER_OR_EQUAL w_GREATER (pkO k)) c = (if mean w_LESS w_LESS_OR_EQUAL w_EQUAL w_NOT_EQUAL w_GREATER_OR_EQUAL w_GREATER (pk w_LESS w_LESS_OR_EQUAL w_EQUAL w_NOT_EQUAL w_GREATER_OR_EQUAL w_GREATER k) c = (0 : Int32) then 1 else 0) := by
  unfold pk pkO
  repeat' split
  all_goals simp_all [mean, ng]
theorem d3_0 : decode jdk_37_method_2_code 0 = .ok (.aload_n 0, 1) := by decide +kernel
theorem d3_1 : decode jdk_37_method_2_code 1 = .ok (.getfield 7, 3) := by decide +kernel
theorem d3_4 : decode jdk_37_method_2_code 4 = .ok (.ireturn, 1) := by decide +kernel
theorem pn_3 : plainName "java/lang/Enum" = true := by first | (simp [plainName, overriddenIn]; done) | decide +kernel
theorem ef_3 (m : MethodId) (r0 : Addr) : entryFrame m #[(.ref r0)] 1 = mkF m 0 #[.val (.ref r0)] [] := by first | (simp [entryFrame, mkF, argsToLocals, Value.category]; done) | rfl
def Q3 (Z : State) (r0 : Addr) (ko : Int32) (h0 : Heap) (n0 : Nat) (v : Option Value) (h : Heap) (L : List Loc) : Prop := v = some (.int ko) ∧ Fr n0 L ∧ h = h0
set_option maxRecDepth 65536 in
set_option maxHeartbeats 40000000 in
theorem rm3 (l : Launch) (Z : State) (a0 : Array Value) (hw : ∀ d ∈ tables_1, d.before a0 Z = true) (ws : List Jvm.Cond) (r0 : Addr) (ko : Int32) (h0 : Heap) (n0 : Nat) (Z0 : n0 ≤ h0.size) (F1 : Fld Z h0 r0 "java/lang/Enum" "ordinal" "I" (.int ko)) :
    MetFree l (⟨"java/lang/Enum", "ordinal", "()I"⟩ : MethodName) (head1 (Jvm.Cond.code (⟨"java/lang/Enum", "ordinal", "()I"⟩ : MethodName) jdk_37_method_2_code 1 (some .int) :: ws) ({ frames := 0, cells := 0, slots := 0, locals := 0 } : Room)) (fun a U => a = #[(.ref r0)] ∧ Z.Warmed39 U.vm ∧ U.heap = h0) (fun _ _ _ _ _ => True) (fun _ U o U' => ∃ v L, o = .returned v ∧ Q3 Z r0 ko h0 n0 v U'.heap L ∧ FrameEnd U o U' L ({ frames := 0, cells := 0, slots := 0, locals := 0 } : Room).cells ({ frames := 0, cells := 0, slots := 0, locals := 0 } : Room).slots) := by
  refine MetFree.of_bodySF (plainFor_of_name pn_3) hisR ?_
  intro p e s m args below meth c s₁ Bd hml0 hP hK
  obtain ⟨rfl, hZ, hh⟩ := hP
  have hx := Bd.exec
  have hby := Bd.bytes
  have hml : c.maxLocals = 1 := hml0
  have hown : s.vm.findClass "java/lang/Enum" = some m.cls := findClass_of_methodNamed Bd.named
  have hnm := (name_of_methodNamed Bd.named Bd.method).1
  have X0 : Stand p l e ({ frames := 0, cells := 0, slots := 0, locals := 0 } : Room) s m #[(.ref r0)] below meth c s₁ [] 0 0 := Stand.of_body Bd
  have e0 : s₁.heap = h0 := by rw [← hh, Bd.state]; rfl
  have N0 := Fr.nil n0
  refine own_go (A' := (s₁.setTop (mkF m 0 #[.val (.ref r0)] []))) (fun t k => castTop (ef_3 m r0) k) ?_
  obtain ⟨T1, X1, e1, st1⟩ := getF X0 hx hZ hown (host := "") (Or.inl (hw _ (List.mem_of_getElem? (i := 20) rfl))) Via.refl e0 F1 (g := (mkF m 1 #[.val (.ref r0)] [(.ref r0)])) rfl rfl (hb hby d3_1)
  refine own_go (A' := (T1.setTop (mkF m 4 #[.val (.ref r0)] [(.int ko)]))) (fun t k => ?_) ?_
  · show Steps p.tables e below (s₁.setTop (mkF m 0 #[.val (.ref r0)] [])) _
    refine XS.aloadN X0.here hx rfl (hb hby d3_0) rfl rfl ?_
    show Steps p.tables e below (s₁.setTop (mkF m 1 #[.val (.ref r0)] [(.ref r0)])) _
    refine st1 _ ?_
    exact k
  obtain ⟨fs, hr, hrun, hended, hW, hsame⟩ := X1.leave (v := some (.int ko)) (fun h => by rw [Bd.returns] at h; cases h)
  refine ⟨_, _, ?_, hrun, hended, _, _, rfl, ?_, ⟨_, rfl⟩, hW, hsame.mono (by decide) (by decide)⟩
  · show Steps p.tables e below (T1.setTop (mkF m 4 #[.val (.ref r0)] [(.int ko)])) _
    exact own_retI X1 hx Bd.returns (hb hby d3_4) hr
  · show Q3 Z r0 ko h0 n0 _ _ _
    exact ⟨rfl, N0, e1⟩
theorem d1_0 : decode method_3_code 0 = .ok (.iload_n 0, 1) := by decide +kernel
theorem d1_1 : decode method_3_code 1 = .ok (.ifCond .ne 7, 3) := by decide +kernel
theorem d1_4 : decode method_3_code 4 = .ok (.getstatic 24, 3) := by decide +kernel
theorem d1_7 : decode method_3_code 7 = .ok (.areturn, 1) := by decide +kernel
theorem d1_8 : decode method_3_code 8 = .ok (.iload_n 0, 1) := by decide +kernel
theorem d1_9 : decode method_3_code 9 = .ok (.iconst 1, 1) := by decide +kernel
theorem d1_10 : decode method_3_code 10 = .ok (.if_icmp .ne 7, 3) := by decide +kernel
theorem d1_13 : decode method_3_code 13 = .ok (.getstatic 28, 3) := by decide +kernel
theorem d1_16 : decode method_3_code 16 = .ok (.areturn, 1) := by decide +kernel
theorem d1_17 : decode method_3_code 17 = .ok (.iload_n 0, 1) := by decide +kernel
theorem d1_18 : decode method_3_code 18 = .ok (.iconst 2, 1) := by decide +kernel
theorem d1_19 : decode method_3_code 19 = .ok (.if_icmp .ne 7, 3) := by decide +kernel
theorem d1_22 : decode method_3_code 22 = .ok (.getstatic 31, 3) := by decide +kernel
theorem d1_25 : decode method_3_code 25 = .ok (.areturn, 1) := by decide +kernel
theorem d1_26 : decode method_3_code 26 = .ok (.iload_n 0, 1) := by decide +kernel
theorem d1_27 : decode method_3_code 27 = .ok (.iconst 3, 1) := by decide +kernel
theorem d1_28 : decode method_3_code 28 = .ok (.if_icmp .ne 7, 3) := by decide +kernel
theorem d1_31 : decode method_3_code 31 = .ok (.getstatic 34, 3) := by decide +kernel
theorem d1_34 : decode method_3_code 34 = .ok (.areturn, 1) := by decide +kernel
theorem d1_35 : decode method_3_code 35 = .ok (.iload_n 0, 1) := by decide +kernel
theorem d1_36 : decode method_3_code 36 = .ok (.iconst 4, 1) := by decide +kernel
theorem d1_37 : decode method_3_code 37 = .ok (.if_icmp .ne 7, 3) := by decide +kernel
theorem d1_40 : decode method_3_code 40 = .ok (.getstatic 37, 3) := by decide +kernel
theorem d1_43 : decode method_3_code 43 = .ok (.areturn, 1) := by decide +kernel
theorem d1_44 : decode method_3_code 44 = .ok (.getstatic 40, 3) := by decide +kernel
theorem d1_47 : decode method_3_code 47 = .ok (.areturn, 1) := by decide +kernel
theorem pn_1 : plainName "com/example/pathwarden/pathwarden/flow/RelationNegatedPinLaw" = true := by first | (simp [plainName, overriddenIn]; done) | decide +kernel
theorem ef_1 (m : MethodId) (p0 : Int32) : entryFrame m #[(.int p0)] 1 = mkF m 0 #[.val (.int p0)] [] := by first | (simp [entryFrame, mkF, argsToLocals, Value.category]; done) | rfl
def Q1 (Z : State) (p0 : Int32) (w_LESS : Addr) (w_GREATER_OR_EQUAL : Addr) (w_LESS_OR_EQUAL : Addr) (w_EQUAL : Addr) (w_NOT_EQUAL : Addr) (w_GREATER : Addr) (h0 : Heap) (n0 : Nat) (v : Option Value) (h : Heap) (L : List Loc) : Prop := v = some (.ref (pk w_LESS w_LESS_OR_EQUAL w_EQUAL w_NOT_EQUAL w_GREATER_OR_EQUAL w_GREATER p0)) ∧ Fr n0 L ∧ h = h0
set_option maxRecDepth 65536 in
set_option maxHeartbeats 40000000 in
theorem rm1 (l : Launch) (Z : State) (a0 : Array Value) (hw : ∀ d ∈ tables_1, d.before a0 Z = true) (ws : List Jvm.Cond) (p0 : Int32) (w_LESS : Addr) (w_GREATER_OR_EQUAL : Addr) (w_LESS_OR_EQUAL : Addr) (w_EQUAL : Addr) (w_NOT_EQUAL : Addr) (w_GREATER : Addr) (h0 : Heap) (n0 : Nat) (Z0 : n0 ≤ h0.size) (S_LESS : Sta Z h0 "com/example/pathwarden/pathwarden/flow/Relation" "LESS" "Lcom/example/pathwarden/pathwarden/flow/Relation;" (.ref w_LESS)) (S_GREATER_OR_EQUAL : Sta Z h0 "com/example/pathwarden/pathwarden/flow/Relation" "GREATER_OR_EQUAL" "Lcom/example/pathwarden/pathwarden/flow/Relation;" (.ref w_GREATER_OR_EQUAL)) (S_LESS_OR_EQUAL : Sta Z h0 "com/example/pathwarden/pathwarden/flow/Relation" "LESS_OR_EQUAL" "Lcom/example/pathwarden/pathwarden/flow/Relation;" (.ref w_LESS_OR_EQUAL)) (S_EQUAL : Sta Z h0 "com/example/pathwarden/pathwarden/flow/Relation" "EQUAL" "Lcom/example/pathwarden/pathwarden/flow/Relation;" (.ref w_EQUAL)) (S_NOT_EQUAL : Sta Z h0 "com/example/pathwarden/pathwarden/flow/Relation" "NOT_EQUAL" "Lcom/example/pathwarden/pathwarden/flow/Relation;" (.ref w_NOT_EQUAL)) (S_GREATER : Sta Z h0 "com/example/pathwarden/pathwarden/flow/Relation" "GREATER" "Lcom/example/pathwarden/pathwarden/flow/Relation;" (.ref w_GREATER)) (E_LESS : Exa Z h0 w_LESS "com/example/pathwarden/pathwarden/flow/Relation") (E_GREATER_OR_EQUAL : Exa Z h0 w_GREATER_OR_EQUAL "com/example/pathwarden/pathwarden/flow/Relation") (E_LESS_OR_EQUAL : Exa Z h0 w_LESS_OR_EQUAL "com/example/pathwarden/pathwarden/flow/Relation") (E_EQUAL : Exa Z h0 w_EQUAL "com/example/pathwarden/pathwarden/flow/Relation") (E_NOT_EQUAL : Exa Z h0 w_NOT_EQUAL "com/example/pathwarden/pathwarden/flow/Relation") (E_GREATER : Exa Z h0 w_GREATER "com/example/pathwarden/pathwarden/flow/Relation") (O_LESS_ordinal : Fld Z h0 w_LESS "java/lang/Enum" "ordinal" "I" (.int (0 : Int32))) (O_GREATER_OR_EQUAL_ordinal : Fld Z h0 w_GREATER_OR_EQUAL "java/lang/Enum" "ordinal" "I" (.int (4 : Int32))) (O_LESS_OR_EQUAL_ordinal : Fld Z h0 w_LESS_OR_EQUAL "java/lang/Enum" "ordinal" "I" (.int (1 : Int32))) (O_EQUAL_ordinal : Fld Z h0 w_EQUAL "java/lang/Enum" "ordinal" "I" (.int (2 : Int32))) (O_NOT_EQUAL_ordinal : Fld Z h0 w_NOT_EQUAL "java/lang/Enum" "ordinal" "I" (.int (3 : Int32))) (O_GREATER_ordinal : Fld Z h0 w_GREATER "java/lang/Enum" "ordinal" "I" (.int (5 : Int32))) :
    MetFree l (⟨"com/example/pathwarden/pathwarden/flow/RelationNegatedPinLaw", "pick", "(I)Lcom/example/pathwarden/pathwarden/flow/Relation;"⟩ : MethodName) (head1 (Jvm.Cond.code (⟨"com/example/pathwarden/pathwarden/flow/RelationNegatedPinLaw", "pick", "(I)Lcom/example/pathwarden/pathwarden/flow/Relation;"⟩ : MethodName) method_3_code 1 (some (.object "com/example/pathwarden/pathwarden/flow/Relation")) :: ws) ({ frames := 0, cells := 0, slots := 0, locals := 0 } : Room)) (fun a U => a = #[(.int p0)] ∧ Z.Warmed39 U.vm ∧ U.heap = h0) (fun _ _ _ _ _ => True) (fun _ U o U' => ∃ v L, o = .returned v ∧ Q1 Z p0 w_LESS w_GREATER_OR_EQUAL w_LESS_OR_EQUAL w_EQUAL w_NOT_EQUAL w_GREATER h0 n0 v U'.heap L ∧ FrameEnd U o U' L ({ frames := 0, cells := 0, slots := 0, locals := 0 } : Room).cells ({ frames := 0, cells := 0, slots := 0, locals := 0 } : Room).slots) := by
  refine MetFree.of_bodySF (plainFor_of_name pn_1) hisR ?_
  intro p e s m args below meth c s₁ Bd hml0 hP hK
  obtain ⟨rfl, hZ, hh⟩ := hP
  have hx := Bd.exec
  have hby := Bd.bytes
  have hml : c.maxLocals = 1 := hml0
  have hown : s.vm.findClass "com/example/pathwarden/pathwarden/flow/RelationNegatedPinLaw" = some m.cls := findClass_of_methodNamed Bd.named
  have hnm := (name_of_methodNamed Bd.named Bd.method).1
  have X0 : Stand p l e ({ frames := 0, cells := 0, slots := 0, locals := 0 } : Room) s m #[(.int p0)] below meth c s₁ [] 0 0 := Stand.of_body Bd
  have e0 : s₁.heap = h0 := by rw [← hh, Bd.state]; rfl
  have N0 := Fr.nil n0
  refine own_go (A' := (s₁.setTop (mkF m 0 #[.val (.int p0)] []))) (fun t k => castTop (ef_1 m p0) k) ?_
  refine own_go (A' := (s₁.setTop (mkF m 1 #[.val (.int p0)] [(.int p0)]))) (fun t k => ?_) ?_
  · show Steps p.tables e below (s₁.setTop (mkF m 0 #[.val (.int p0)] [])) _
    refine XS.iloadN X0.here hx rfl (hb hby d1_0) rfl ?_
    exact k
  by_cases hc2 : p0 = (0 : Int32)
  · -- hc2: yes
    refine own_go (A' := (s₁.setTop (mkF m 4 #[.val (.int p0)] []))) (fun t k => XS.ifNo X0.here hx rfl (hb hby d1_1) rfl ((if0 _ _).trans (teq hc2).2) k) ?_
    obtain ⟨T3, X3, e3, st3⟩ := getS2 X0 hx hZ hown (host := "") (Or.inl (hw _ (List.mem_of_getElem? (i := 5) rfl))) Via.refl e0 S_LESS (g := (mkF m 4 #[.val (.int p0)] [])) rfl (hb hby d1_4)
    refine own_go (A' := (T3.setTop (mkF m 7 #[.val (.int p0)] [(.ref w_LESS)]))) (fun t k => ?_) ?_
    · show Steps p.tables e below (s₁.setTop (mkF m 4 #[.val (.int p0)] [])) _
      refine st3 _ ?_
      exact k
    obtain ⟨fs, hr, hrun, hended, hW, hsame⟩ := X3.leave (v := some (.ref w_LESS)) (fun h => by rw [Bd.returns] at h; cases h)
    refine ⟨_, _, ?_, hrun, hended, _, _, rfl, ?_, ⟨_, rfl⟩, hW, hsame.mono (by decide) (by decide)⟩
    · show Steps p.tables e below (T3.setTop (mkF m 7 #[.val (.int p0)] [(.ref w_LESS)])) _
      exact own_retV X3 hx Bd.returns rfl rfl (hb hby d1_7) hr
    · show Q1 Z p0 w_LESS w_GREATER_OR_EQUAL w_LESS_OR_EQUAL w_EQUAL w_NOT_EQUAL w_GREATER h0 n0 _ _ _
      exact ⟨(by rw [pk, if_pos hc2]), N0, e3⟩
  · -- hc2: no
    refine own_go (A' := (s₁.setTop (mkF m 8 #[.val (.int p0)] []))) (fun t k => XS.ifYes X0.here hx rfl (pc0 := 1) (pc' := 8) rfl (hb hby d1_1) rfl ((if0 _ _).trans (feq hc2).2) (by decide) (by decide) k) ?_
    refine own_go (A' := (s₁.setTop (mkF m 10 #[.val (.int p0)] [(.int (1 : Int32)), (.int p0)]))) (fun t k => ?_) ?_
    · show Steps p.tables e below (s₁.setTop (mkF m 8 #[.val (.int p0)] [])) _
      refine XS.iloadN X0.here hx rfl (hb hby d1_8) rfl ?_
      show Steps p.tables e below (s₁.setTop (mkF m 9 #[.val (.int p0)] [(.int p0)])) _
      refine XS.iconst X0.here hx rfl (hb hby d1_9) ?_
      exact k
    by_cases hc4 : p0 = (1 : Int32)
    · -- hc4: yes
      refine own_go (A' := (s₁.setTop (mkF m 13 #[.val (.int p0)] []))) (fun t k => XS.icmpNo X0.here hx rfl (hb hby d1_10) rfl (teq hc4).2 k) ?_
      obtain ⟨T5, X5, e5, st5⟩ := getS2 X0 hx hZ hown (host := "") (Or.inl (hw _ (List.mem_of_getElem? (i := 27) rfl))) Via.refl e0 S_LESS_OR_EQUAL (g := (mkF m 13 #[.val (.int p0)] [])) rfl (hb hby d1_13)
      refine own_go (A' := (T5.setTop (mkF m 16 #[.val (.int p0)] [(.ref w_LESS_OR_EQUAL)]))) (fun t k => ?_) ?_
      · show Steps p.tables e below (s₁.setTop (mkF m 13 #[.val (.int p0)] [])) _
        refine st5 _ ?_
        exact k
      obtain ⟨fs, hr, hrun, hended, hW, hsame⟩ := X5.leave (v := some (.ref w_LESS_OR_EQUAL)) (fun h => by rw [Bd.returns] at h; cases h)
      refine ⟨_, _, ?_, hrun, hended, _, _, rfl, ?_, ⟨_, rfl⟩, hW, hsame.mono (by decide) (by decide)⟩
      · show Steps p.tables e below (T5.setTop (mkF m 16 #[.val (.int p0)] [(.ref w_LESS_OR_EQUAL)])) _
        exact own_retV X5 hx Bd.returns rfl rfl (hb hby d1_16) hr
      · show Q1 Z p0 w_LESS w_GREATER_OR_EQUAL w_LESS_OR_EQUAL w_EQUAL w_NOT_EQUAL w_GREATER h0 n0 _ _ _
        exact ⟨(by rw [pk, if_neg hc2, if_pos hc4]), N0, e5⟩
    · -- hc4: no
      refine own_go (A' := (s₁.setTop (mkF m 17 #[.val (.int p0)] []))) (fun t k => XS.icmpYes X0.here hx rfl (pc0 := 10) (pc' := 17) rfl (hb hby d1_10) rfl (feq hc4).2 (by decide) (by decide) k) ?_
      refine own_go (A' := (s₁.setTop (mkF m 19 #[.val (.int p0)] [(.int (2 : Int32)), (.int p0)]))) (fun t k => ?_) ?_
      · show Steps p.tables e below (s₁.setTop (mkF m 17 #[.val (.int p0)] [])) _
        refine XS.iloadN X0.here hx rfl (hb hby d1_17) rfl ?_
        show Steps p.tables e below (s₁.setTop (mkF m 18 #[.val (.int p0)] [(.int p0)])) _
        refine XS.iconst X0.here hx rfl (hb hby d1_18) ?_
        exact k
      by_cases hc6 : p0 = (2 : Int32)
      · -- hc6: yes
        refine own_go (A' := (s₁.setTop (mkF m 22 #[.val (.int p0)] []))) (fun t k => XS.icmpNo X0.here hx rfl (hb hby d1_19) rfl (teq hc6).2 k) ?_
        obtain ⟨T7, X7, e7, st7⟩ := getS2 X0 hx hZ hown (host := "") (Or.inl (hw _ (List.mem_of_getElem? (i := 29) rfl))) Via.refl e0 S_EQUAL (g := (mkF m 22 #[.val (.int p0)] [])) rfl (hb hby d1_22)
        refine own_go (A' := (T7.setTop (mkF m 25 #[.val (.int p0)] [(.ref w_EQUAL)]))) (fun t k => ?_) ?_
        · show Steps p.tables e below (s₁.setTop (mkF m 22 #[.val (.int p0)] [])) _
          refine st7 _ ?_
          exact k
        obtain ⟨fs, hr, hrun, hended, hW, hsame⟩ := X7.leave (v := some (.ref w_EQUAL)) (fun h => by rw [Bd.returns] at h; cases h)
        refine ⟨_, _, ?_, hrun, hended, _, _, rfl, ?_, ⟨_, rfl⟩, hW, hsame.mono (by decide) (by decide)⟩
        · show Steps p.tables e below (T7.setTop (mkF m 25 #[.val (.int p0)] [(.ref w_EQUAL)])) _
          exact own_retV X7 hx Bd.returns rfl rfl (hb hby d1_25) hr
        · show Q1 Z p0 w_LESS w_GREATER_OR_EQUAL w_LESS_OR_EQUAL w_EQUAL w_NOT_EQUAL w_GREATER h0 n0 _ _ _
          exact ⟨(by rw [pk, if_neg hc2, if_neg hc4, if_pos hc6]), N0, e7⟩
      · -- hc6: no
        refine own_go (A' := (s₁.setTop (mkF m 26 #[.val (.int p0)] []))) (fun t k => XS.icmpYes X0.here hx rfl (pc0 := 19) (pc' := 26) rfl (hb hby d1_19) rfl (feq hc6).2 (by decide) (by decide) k) ?_
        refine own_go (A' := (s₁.setTop (mkF m 28 #[.val (.int p0)] [(.int (3 : Int32)), (.int p0)]))) (fun t k => ?_) ?_
        · show Steps p.tables e below (s₁.setTop (mkF m 26 #[.val (.int p0)] [])) _
          refine XS.iloadN X0.here hx rfl (hb hby d1_26) rfl ?_
          show Steps p.tables e below (s₁.setTop (mkF m 27 #[.val (.int p0)] [(.int p0)])) _
          refine XS.iconst X0.here hx rfl (hb hby d1_27) ?_
          exact k
        by_cases hc8 : p0 = (3 : Int32)
        · -- hc8: yes
          refine own_go (A' := (s₁.setTop (mkF m 31 #[.val (.int p0)] []))) (fun t k => XS.icmpNo X0.here hx rfl (hb hby d1_28) rfl (teq hc8).2 k) ?_
          obtain ⟨T9, X9, e9, st9⟩ := getS2 X0 hx hZ hown (host := "") (Or.inl (hw _ (List.mem_of_getElem? (i := 31) rfl))) Via.refl e0 S_NOT_EQUAL (g := (mkF m 31 #[.val (.int p0)] [])) rfl (hb hby d1_31)
          refine own_go (A' := (T9.setTop (mkF m 34 #[.val (.int p0)] [(.ref w_NOT_EQUAL)]))) (fun t k => ?_) ?_
          · show Steps p.tables e below (s₁.setTop (mkF m 31 #[.val (.int p0)] [])) _
            refine st9 _ ?_
            exact k
          obtain ⟨fs, hr, hrun, hended, hW, hsame⟩ := X9.leave (v := some (.ref w_NOT_EQUAL)) (fun h => by rw [Bd.returns] at h; cases h)
          refine ⟨_, _, ?_, hrun, hended, _, _, rfl, ?_, ⟨_, rfl⟩, hW, hsame.mono (by decide) (by decide)⟩
          · show Steps p.tables e below (T9.setTop (mkF m 34 #[.val (.int p0)] [(.ref w_NOT_EQUAL)])) _
            exact own_retV X9 hx Bd.returns rfl rfl (hb hby d1_34) hr
          · show Q1 Z p0 w_LESS w_GREATER_OR_EQUAL w_LESS_OR_EQUAL w_EQUAL w_NOT_EQUAL w_GREATER h0 n0 _ _ _
            exact ⟨(by rw [pk, if_neg hc2, if_neg hc4, if_neg hc6, if_pos hc8]), N0, e9⟩
        · -- hc8: no
          refine own_go (A' := (s₁.setTop (mkF m 35 #[.val (.int p0)] []))) (fun t k => XS.icmpYes X0.here hx rfl (pc0 := 28) (pc' := 35) rfl (hb hby d1_28) rfl (feq hc8).2 (by decide) (by decide) k) ?_
          refine own_go (A' := (s₁.setTop (mkF m 37 #[.val (.int p0)] [(.int (4 : Int32)), (.int p0)]))) (fun t k => ?_) ?_
          · show Steps p.tables e below (s₁.setTop (mkF m 35 #[.val (.int p0)] [])) _
            refine XS.iloadN X0.here hx rfl (hb hby d1_35) rfl ?_
            show Steps p.tables e below (s₁.setTop (mkF m 36 #[.val (.int p0)] [(.int p0)])) _
            refine XS.iconst X0.here hx rfl (hb hby d1_36) ?_
            exact k
          by_cases hc10 : p0 = (4 : Int32)
          · -- hc10: yes
            refine own_go (A' := (s₁.setTop (mkF m 40 #[.val (.int p0)] []))) (fun t k => XS.icmpNo X0.here hx rfl (hb hby d1_37) rfl (teq hc10).2 k) ?_
            obtain ⟨T11, X11, e11, st11⟩ := getS2 X0 hx hZ hown (host := "") (Or.inl (hw _ (List.mem_of_getElem? (i := 33) rfl))) Via.refl e0 S_GREATER_OR_EQUAL (g := (mkF m 40 #[.val (.int p0)] [])) rfl (hb hby d1_40)
            refine own_go (A' := (T11.setTop (mkF m 43 #[.val (.int p0)] [(.ref w_GREATER_OR_EQUAL)]))) (fun t k => ?_) ?_
            · show Steps p.tables e below (s₁.setTop (mkF m 40 #[.val (.int p0)] [])) _
              refine st11 _ ?_
              exact k
            obtain ⟨fs, hr, hrun, hended, hW, hsame⟩ := X11.leave (v := some (.ref w_GREATER_OR_EQUAL)) (fun h => by rw [Bd.returns] at h; cases h)
            refine ⟨_, _, ?_, hrun, hended, _, _, rfl, ?_, ⟨_, rfl⟩, hW, hsame.mono (by decide) (by decide)⟩
            · show Steps p.tables e below (T11.setTop (mkF m 43 #[.val (.int p0)] [(.ref w_GREATER_OR_EQUAL)])) _
              exact own_retV X11 hx Bd.returns rfl rfl (hb hby d1_43) hr
            · show Q1 Z p0 w_LESS w_GREATER_OR_EQUAL w_LESS_OR_EQUAL w_EQUAL w_NOT_EQUAL w_GREATER h0 n0 _ _ _
              exact ⟨(by rw [pk, if_neg hc2, if_neg hc4, if_neg hc6, if_neg hc8, if_pos hc10]), N0, e11⟩
          · -- hc10: no
            refine own_go (A' := (s₁.setTop (mkF m 44 #[.val (.int p0)] []))) (fun t k => XS.icmpYes X0.here hx rfl (pc0 := 37) (pc' := 44) rfl (hb hby d1_37) rfl (feq hc10).2 (by decide) (by decide) k) ?_
            obtain ⟨T12, X12, e12, st12⟩ := getS2 X0 hx hZ hown (host := "") (Or.inl (hw _ (List.mem_of_getElem? (i := 38) rfl))) Via.refl e0 S_GREATER (g := (mkF m 44 #[.val (.int p0)] [])) rfl (hb hby d1_44)
            refine own_go (A' := (T12.setTop (mkF m 47 #[.val (.int p0)] [(.ref w_GREATER)]))) (fun t k => ?_) ?_
            · show Steps p.tables e below (s₁.setTop (mkF m 44 #[.val (.int p0)] [])) _
              refine st12 _ ?_
              exact k
            obtain ⟨fs, hr, hrun, hended, hW, hsame⟩ := X12.leave (v := some (.ref w_GREATER)) (fun h => by rw [Bd.returns] at h; cases h)
            refine ⟨_, _, ?_, hrun, hended, _, _, rfl, ?_, ⟨_, rfl⟩, hW, hsame.mono (by decide) (by decide)⟩
            · show Steps p.tables e below (T12.setTop (mkF m 47 #[.val (.int p0)] [(.ref w_GREATER)])) _
              exact own_retV X12 hx Bd.returns rfl rfl (hb hby d1_47) hr
            · show Q1 Z p0 w_LESS w_GREATER_OR_EQUAL w_LESS_OR_EQUAL w_EQUAL w_NOT_EQUAL w_GREATER h0 n0 _ _ _
              exact ⟨(by rw [pk, if_neg hc2, if_neg hc4, if_neg hc6, if_neg hc8, if_neg hc10]), N0, e12⟩
theorem pd_0 : parseMethodDescriptor "()I" = some ⟨[], some .int⟩ := by decide +kernel
theorem d2_0 : decode prog_107_method_5_code 0 = .ok (.aload_n 0, 1) := by decide +kernel
theorem d2_1 : decode prog_107_method_5_code 1 = .ok (.invokevirtual 41, 3) := by decide +kernel
theorem d2_4 : decode prog_107_method_5_code 4 = .ok (.tableswitch 40 0 5 #[50, 56, 62, 68, 74, 80], 40) := by decide +kernel
theorem d2_54 : decode prog_107_method_5_code 54 = .ok (.getstatic 16, 3) := by decide +kernel
theorem d2_57 : decode prog_107_method_5_code 57 = .ok (.goto 30, 3) := by decide +kernel
theorem d2_60 : decode prog_107_method_5_code 60 = .ok (.getstatic 19, 3) := by decide +kernel
theorem d2_63 : decode prog_107_method_5_code 63 = .ok (.goto 24, 3) := by decide +kernel
theorem d2_66 : decode prog_107_method_5_code 66 = .ok (.getstatic 13, 3) := by decide +kernel
theorem d2_69 : decode prog_107_method_5_code 69 = .ok (.goto 18, 3) := by decide +kernel
theorem d2_72 : decode prog_107_method_5_code 72 = .ok (.getstatic 10, 3) := by decide +kernel
theorem d2_75 : decode prog_107_method_5_code 75 = .ok (.goto 12, 3) := by decide +kernel
theorem d2_78 : decode prog_107_method_5_code 78 = .ok (.getstatic 3, 3) := by decide +kernel
theorem d2_81 : decode prog_107_method_5_code 81 = .ok (.goto 6, 3) := by decide +kernel
theorem d2_84 : decode prog_107_method_5_code 84 = .ok (.getstatic 7, 3) := by decide +kernel
theorem d2_87 : decode prog_107_method_5_code 87 = .ok (.areturn, 1) := by decide +kernel
theorem pn_2 : plainName "com/example/pathwarden/pathwarden/flow/Relation" = true := by first | (simp [plainName, overriddenIn]; done) | decide +kernel
theorem ef_2 (m : MethodId) (r0 : Addr) : entryFrame m #[(.ref r0)] 1 = mkF m 0 #[.val (.ref r0)] [] := by first | (simp [entryFrame, mkF, argsToLocals, Value.category]; done) | rfl
def Q2 (Z : State) (r0 : Addr) (w_LESS : Addr) (w_GREATER_OR_EQUAL : Addr) (w_LESS_OR_EQUAL : Addr) (w_EQUAL : Addr) (w_NOT_EQUAL : Addr) (w_GREATER : Addr) (ko : Int32) (h0 : Heap) (n0 : Nat) (v : Option Value) (h : Heap) (L : List Loc) : Prop := v = some (.ref (ng w_LESS w_LESS_OR_EQUAL w_EQUAL w_NOT_EQUAL w_GREATER_OR_EQUAL w_GREATER ko)) ∧ Fr n0 L ∧ h = h0
set_option maxRecDepth 65536 in
set_option maxHeartbeats 40000000 in
theorem rm2 (l : Launch) (Z : State) (a0 : Array Value) (hw : ∀ d ∈ tables_1, d.before a0 Z = true) (ws : List Jvm.Cond) (r0 : Addr) (w_LESS : Addr) (w_GREATER_OR_EQUAL : Addr) (w_LESS_OR_EQUAL : Addr) (w_EQUAL : Addr) (w_NOT_EQUAL : Addr) (w_GREATER : Addr) (ko : Int32) (h0 : Heap) (n0 : Nat) (Z0 : n0 ≤ h0.size) (S_LESS : Sta Z h0 "com/example/pathwarden/pathwarden/flow/Relation" "LESS" "Lcom/example/pathwarden/pathwarden/flow/Relation;" (.ref w_LESS)) (S_GREATER_OR_EQUAL : Sta Z h0 "com/example/pathwarden/pathwarden/flow/Relation" "GREATER_OR_EQUAL" "Lcom/example/pathwarden/pathwarden/flow/Relation;" (.ref w_GREATER_OR_EQUAL)) (S_LESS_OR_EQUAL : Sta Z h0 "com/example/pathwarden/pathwarden/flow/Relation" "LESS_OR_EQUAL" "Lcom/example/pathwarden/pathwarden/flow/Relation;" (.ref w_LESS_OR_EQUAL)) (S_EQUAL : Sta Z h0 "com/example/pathwarden/pathwarden/flow/Relation" "EQUAL" "Lcom/example/pathwarden/pathwarden/flow/Relation;" (.ref w_EQUAL)) (S_NOT_EQUAL : Sta Z h0 "com/example/pathwarden/pathwarden/flow/Relation" "NOT_EQUAL" "Lcom/example/pathwarden/pathwarden/flow/Relation;" (.ref w_NOT_EQUAL)) (S_GREATER : Sta Z h0 "com/example/pathwarden/pathwarden/flow/Relation" "GREATER" "Lcom/example/pathwarden/pathwarden/flow/Relation;" (.ref w_GREATER)) (E_LESS : Exa Z h0 w_LESS "com/example/pathwarden/pathwarden/flow/Relation") (E_GREATER_OR_EQUAL : Exa Z h0 w_GREATER_OR_EQUAL "com/example/pathwarden/pathwarden/flow/Relation") (E_LESS_OR_EQUAL : Exa Z h0 w_LESS_OR_EQUAL "com/example/pathwarden/pathwarden/flow/Relation") (E_EQUAL : Exa Z h0 w_EQUAL "com/example/pathwarden/pathwarden/flow/Relation") (E_NOT_EQUAL : Exa Z h0 w_NOT_EQUAL "com/example/pathwarden/pathwarden/flow/Relation") (E_GREATER : Exa Z h0 w_GREATER "com/example/pathwarden/pathwarden/flow/Relation") (O_LESS_ordinal : Fld Z h0 w_LESS "java/lang/Enum" "ordinal" "I" (.int (0 : Int32))) (O_GREATER_OR_EQUAL_ordinal : Fld Z h0 w_GREATER_OR_EQUAL "java/lang/Enum" "ordinal" "I" (.int (4 : Int32))) (O_LESS_OR_EQUAL_ordinal : Fld Z h0 w_LESS_OR_EQUAL "java/lang/Enum" "ordinal" "I" (.int (1 : Int32))) (O_EQUAL_ordinal : Fld Z h0 w_EQUAL "java/lang/Enum" "ordinal" "I" (.int (2 : Int32))) (O_NOT_EQUAL_ordinal : Fld Z h0 w_NOT_EQUAL "java/lang/Enum" "ordinal" "I" (.int (3 : Int32))) (O_GREATER_ordinal : Fld Z h0 w_GREATER "java/lang/Enum" "ordinal" "I" (.int (5 : Int32))) (F1 : Fld Z h0 r0 "java/lang/Enum" "ordinal" "I" (.int ko)) (E1 : Exa Z h0 r0 "com/example/pathwarden/pathwarden/flow/Relation") (hko : ko = 0 ∨ ko = 1 ∨ ko = 2 ∨ ko = 3 ∨ ko = 4 ∨ ko = 5) :
    MetFree l (⟨"com/example/pathwarden/pathwarden/flow/Relation", "negated", "()Lcom/example/pathwarden/pathwarden/flow/Relation;"⟩ : MethodName) (head1 (Jvm.Cond.code (⟨"com/example/pathwarden/pathwarden/flow/Relation", "negated", "()Lcom/example/pathwarden/pathwarden/flow/Relation;"⟩ : MethodName) prog_107_method_5_code 1 (some (.object "com/example/pathwarden/pathwarden/flow/Relation")) :: ws) ({ frames := 1, cells := 0, slots := 0, locals := 12 } : Room)) (fun a U => a = #[(.ref r0)] ∧ Z.Warmed39 U.vm ∧ U.heap = h0) (fun _ _ _ _ _ => True) (fun _ U o U' => ∃ v L, o = .returned v ∧ Q2 Z r0 w_LESS w_GREATER_OR_EQUAL w_LESS_OR_EQUAL w_EQUAL w_NOT_EQUAL w_GREATER ko h0 n0 v U'.heap L ∧ FrameEnd U o U' L ({ frames := 1, cells := 0, slots := 0, locals := 12 } : Room).cells ({ frames := 1, cells := 0, slots := 0, locals := 12 } : Room).slots) := by
  refine MetFree.of_bodySF (plainFor_of_name pn_2) hisR ?_
  intro p e s m args below meth c s₁ Bd hml0 hP hK
  obtain ⟨rfl, hZ, hh⟩ := hP
  have hx := Bd.exec
  have hby := Bd.bytes
  have hml : c.maxLocals = 1 := hml0
  have hown : s.vm.findClass "com/example/pathwarden/pathwarden/flow/Relation" = some m.cls := findClass_of_methodNamed Bd.named
  have hnm := (name_of_methodNamed Bd.named Bd.method).1
  have X0 : Stand p l e ({ frames := 1, cells := 0, slots := 0, locals := 12 } : Room) s m #[(.ref r0)] below meth c s₁ [] 0 0 := Stand.of_body Bd
  have e0 : s₁.heap = h0 := by rw [← hh, Bd.state]; rfl
  have N0 := Fr.nil n0
  refine own_go (A' := (s₁.setTop (mkF m 0 #[.val (.ref r0)] []))) (fun t k => castTop (ef_2 m r0) k) ?_
  obtain ⟨cq13, kq13, q13a, q13b, q13c⟩ := isOf hZ e0 E1
  obtain ⟨_, _, ⟨T13, L13, k13, n13⟩, -, X13, ⟨Lc13, hQ13, l13, y13, z13⟩, st13⟩ := X0.virtualBackUp hx (x := (⟨"com/example/pathwarden/pathwarden/flow/Relation", "ordinal", "()I"⟩ : MethodName)) (y := (⟨"java/lang/Enum", "ordinal", "()I"⟩ : MethodName)) (owner := "java/lang/Enum") hown (mvT hZ (hw _ (List.mem_of_getElem? (i := 13) rfl))) (mvT hZ (hw _ (List.mem_of_getElem? (i := 14) rfl))) (mvT hZ (hw _ (List.mem_of_getElem? (i := 15) rfl))) (by decide) (mvT hZ (hw _ (List.mem_of_getElem? (i := 17) rfl))) (mvT hZ (hw _ (List.mem_of_getElem? (i := 16) rfl))) (backOf (W := 0) (rm3 l Z a0 hw [] r0 ko h0 n0 Z0 F1) hZ (hw _ (List.mem_of_getElem? (i := 19) rfl)) (hw _ (List.mem_of_getElem? (i := 18) rfl)) (by decide) (by decide)) q13a q13c (g := (mkF m 1 #[.val (.ref r0)] [(.ref r0)])) rfl (by rw [hml]; rfl) (Steps.refl _) (argsL := []) (rest := []) (lenOf pd_0 rfl) rfl (by show 2 * 0 + _ ≤ _; exact Nat.le_of_eq rfl) (hb hby d2_1) (fun _ _ => ⟨rfl, e0, (by decide : 0 + 0 ≤ _), (by decide : 0 + 0 ≤ _)⟩)
  dsimp only [Pt.U, Pt.locs, Pt.cells, Pt.slots] at X13 l13 y13 z13 st13 hQ13
  subst l13 y13 z13
  obtain ⟨rfl, N13q, e13⟩ := hQ13
  have N13 := Fr.app N0 N13q
  refine own_go (A' := (T13.setTop (mkF m 4 #[.val (.ref r0)] [(.int ko)]))) (fun t k => ?_) ?_
  · show Steps p.tables e below (s₁.setTop (mkF m 0 #[.val (.ref r0)] [])) _
    refine XS.aloadN X0.here hx rfl (hb hby d2_0) rfl rfl ?_
    show Steps p.tables e below (s₁.setTop (mkF m 1 #[.val (.ref r0)] [(.ref r0)])) _
    refine st13.trans ?_
    exact k
  by_cases hc14 : ko = (0 : Int32)
  · -- hc14: yes
    refine own_go (A' := (T13.setTop (mkF m 54 #[.val (.ref r0)] []))) (fun t k => XS.tswIn X13.here hx rfl (o := 50) (pc0 := 4) (pc' := 54) rfl (hb hby d2_4) rfl (by rw [hc14]; decide) (by rw [hc14]; decide) (by decide) (by decide) k) ?_
    obtain ⟨T15, X15, e15, st15⟩ := getS2 X13 hx hZ hown (host := "") (Or.inl (hw _ (List.mem_of_getElem? (i := 22) rfl))) Via.refl e13 S_GREATER_OR_EQUAL (g := (mkF m 54 #[.val (.ref r0)] [])) rfl (hb hby d2_54)
    refine own_go (A' := (T15.setTop (mkF m 87 #[.val (.ref r0)] [(.ref w_GREATER_OR_EQUAL)]))) (fun t k => ?_) ?_
    · show Steps p.tables e below (T13.setTop (mkF m 54 #[.val (.ref r0)] [])) _
      refine st15 _ ?_
      show Steps p.tables e below (T15.setTop (mkF m 57 #[.val (.ref r0)] [(.ref w_GREATER_OR_EQUAL)])) _
      refine XS.goto X15.here hx rfl (pc0 := 57) (pc' := 87) rfl (hb hby d2_57) (by decide) (by decide) ?_
      exact k
    obtain ⟨fs, hr, hrun, hended, hW, hsame⟩ := X15.leave (v := some (.ref w_GREATER_OR_EQUAL)) (fun h => by rw [Bd.returns] at h; cases h)
    refine ⟨_, _, ?_, hrun, hended, _, _, rfl, ?_, ⟨_, rfl⟩, hW, hsame.mono (by decide) (by decide)⟩
    · show Steps p.tables e below (T15.setTop (mkF m 87 #[.val (.ref r0)] [(.ref w_GREATER_OR_EQUAL)])) _
      exact own_retV X15 hx Bd.returns rfl rfl (hb hby d2_87) hr
    · show Q2 Z r0 w_LESS w_GREATER_OR_EQUAL w_LESS_OR_EQUAL w_EQUAL w_NOT_EQUAL w_GREATER ko h0 n0 _ _ _
      exact ⟨(by rw [ng, if_pos hc14]), N13, e15⟩
  · -- hc14: no
    by_cases hc16 : ko = (1 : Int32)
    · -- hc16: yes
      refine own_go (A' := (T13.setTop (mkF m 60 #[.val (.ref r0)] []))) (fun t k => XS.tswIn X13.here hx rfl (o := 56) (pc0 := 4) (pc' := 60) rfl (hb hby d2_4) rfl (by rw [hc16]; decide) (by rw [hc16]; decide) (by decide) (by decide) k) ?_
      obtain ⟨T17, X17, e17, st17⟩ := getS2 X13 hx hZ hown (host := "") (Or.inl (hw _ (List.mem_of_getElem? (i := 36) rfl))) Via.refl e13 S_GREATER (g := (mkF m 60 #[.val (.ref r0)] [])) rfl (hb hby d2_60)
      refine own_go (A' := (T17.setTop (mkF m 87 #[.val (.ref r0)] [(.ref w_GREATER)]))) (fun t k => ?_) ?_
      · show Steps p.tables e below (T13.setTop (mkF m 60 #[.val (.ref r0)] [])) _
        refine st17 _ ?_
        show Steps p.tables e below (T17.setTop (mkF m 63 #[.val (.ref r0)] [(.ref w_GREATER)])) _
        refine XS.goto X17.here hx rfl (pc0 := 63) (pc' := 87) rfl (hb hby d2_63) (by decide) (by decide) ?_
        exact k
      obtain ⟨fs, hr, hrun, hended, hW, hsame⟩ := X17.leave (v := some (.ref w_GREATER)) (fun h => by rw [Bd.returns] at h; cases h)
      refine ⟨_, _, ?_, hrun, hended, _, _, rfl, ?_, ⟨_, rfl⟩, hW, hsame.mono (by decide) (by decide)⟩
      · show Steps p.tables e below (T17.setTop (mkF m 87 #[.val (.ref r0)] [(.ref w_GREATER)])) _
        exact own_retV X17 hx Bd.returns rfl rfl (hb hby d2_87) hr
      · show Q2 Z r0 w_LESS w_GREATER_OR_EQUAL w_LESS_OR_EQUAL w_EQUAL w_NOT_EQUAL w_GREATER ko h0 n0 _ _ _
        exact ⟨(by rw [ng, if_neg hc14, if_pos hc16]), N13, e17⟩
    · -- hc16: no
      by_cases hc18 : ko = (2 : Int32)
      · -- hc18: yes
        refine own_go (A' := (T13.setTop (mkF m 66 #[.val (.ref r0)] []))) (fun t k => XS.tswIn X13.here hx rfl (o := 62) (pc0 := 4) (pc' := 66) rfl (hb hby d2_4) rfl (by rw [hc18]; decide) (by rw [hc18]; decide) (by decide) (by decide) k) ?_
        obtain ⟨T19, X19, e19, st19⟩ := getS2 X13 hx hZ hown (host := "") (Or.inl (hw _ (List.mem_of_getElem? (i := 34) rfl))) Via.refl e13 S_NOT_EQUAL (g := (mkF m 66 #[.val (.ref r0)] [])) rfl (hb hby d2_66)
        refine own_go (A' := (T19.setTop (mkF m 87 #[.val (.ref r0)] [(.ref w_NOT_EQUAL)]))) (fun t k => ?_) ?_
        · show Steps p.tables e below (T13.setTop (mkF m 66 #[.val (.ref r0)] [])) _
          refine st19 _ ?_
          show Steps p.tables e below (T19.setTop (mkF m 69 #[.val (.ref r0)] [(.ref w_NOT_EQUAL)])) _
          refine XS.goto X19.here hx rfl (pc0 := 69) (pc' := 87) rfl (hb hby d2_69) (by decide) (by decide) ?_
          exact k
        obtain ⟨fs, hr, hrun, hended, hW, hsame⟩ := X19.leave (v := some (.ref w_NOT_EQUAL)) (fun h => by rw [Bd.returns] at h; cases h)
        refine ⟨_, _, ?_, hrun, hended, _, _, rfl, ?_, ⟨_, rfl⟩, hW, hsame.mono (by decide) (by decide)⟩
        · show Steps p.tables e below (T19.setTop (mkF m 87 #[.val (.ref r0)] [(.ref w_NOT_EQUAL)])) _
          exact own_retV X19 hx Bd.returns rfl rfl (hb hby d2_87) hr
        · show Q2 Z r0 w_LESS w_GREATER_OR_EQUAL w_LESS_OR_EQUAL w_EQUAL w_NOT_EQUAL w_GREATER ko h0 n0 _ _ _
          exact ⟨(by rw [ng, if_neg hc14, if_neg hc16, if_pos hc18]), N13, e19⟩
      · -- hc18: no
        by_cases hc20 : ko = (3 : Int32)
        · -- hc20: yes
          refine own_go (A' := (T13.setTop (mkF m 72 #[.val (.ref r0)] []))) (fun t k => XS.tswIn X13.here hx rfl (o := 68) (pc0 := 4) (pc' := 72) rfl (hb hby d2_4) rfl (by rw [hc20]; decide) (by rw [hc20]; decide) (by decide) (by decide) k) ?_
          obtain ⟨T21, X21, e21, st21⟩ := getS2 X13 hx hZ hown (host := "") (Or.inl (hw _ (List.mem_of_getElem? (i := 40) rfl))) Via.refl e13 S_EQUAL (g := (mkF m 72 #[.val (.ref r0)] [])) rfl (hb hby d2_72)
          refine own_go (A' := (T21.setTop (mkF m 87 #[.val (.ref r0)] [(.ref w_EQUAL)]))) (fun t k => ?_) ?_
          · show Steps p.tables e below (T13.setTop (mkF m 72 #[.val (.ref r0)] [])) _
            refine st21 _ ?_
            show Steps p.tables e below (T21.setTop (mkF m 75 #[.val (.ref r0)] [(.ref w_EQUAL)])) _
            refine XS.goto X21.here hx rfl (pc0 := 75) (pc' := 87) rfl (hb hby d2_75) (by decide) (by decide) ?_
            exact k
          obtain ⟨fs, hr, hrun, hended, hW, hsame⟩ := X21.leave (v := some (.ref w_EQUAL)) (fun h => by rw [Bd.returns] at h; cases h)
          refine ⟨_, _, ?_, hrun, hended, _, _, rfl, ?_, ⟨_, rfl⟩, hW, hsame.mono (by decide) (by decide)⟩
          · show Steps p.tables e below (T21.setTop (mkF m 87 #[.val (.ref r0)] [(.ref w_EQUAL)])) _
            exact own_retV X21 hx Bd.returns rfl rfl (hb hby d2_87) hr
          · show Q2 Z r0 w_LESS w_GREATER_OR_EQUAL w_LESS_OR_EQUAL w_EQUAL w_NOT_EQUAL w_GREATER ko h0 n0 _ _ _
            exact ⟨(by rw [ng, if_neg hc14, if_neg hc16, if_neg hc18, if_pos hc20]), N13, e21⟩
        · -- hc20: no
          by_cases hc22 : ko = (4 : Int32)
          · -- hc22: yes
            refine own_go (A' := (T13.setTop (mkF m 78 #[.val (.ref r0)] []))) (fun t k => XS.tswIn X13.here hx rfl (o := 74) (pc0 := 4) (pc' := 78) rfl (hb hby d2_4) rfl (by rw [hc22]; decide) (by rw [hc22]; decide) (by decide) (by decide) k) ?_
            obtain ⟨T23, X23, e23, st23⟩ := getS2 X13 hx hZ hown (host := "") (Or.inl (hw _ (List.mem_of_getElem? (i := 35) rfl))) Via.refl e13 S_LESS (g := (mkF m 78 #[.val (.ref r0)] [])) rfl (hb hby d2_78)
            refine own_go (A' := (T23.setTop (mkF m 87 #[.val (.ref r0)] [(.ref w_LESS)]))) (fun t k => ?_) ?_
            · show Steps p.tables e below (T13.setTop (mkF m 78 #[.val (.ref r0)] [])) _
              refine st23 _ ?_
              show Steps p.tables e below (T23.setTop (mkF m 81 #[.val (.ref r0)] [(.ref w_LESS)])) _
              refine XS.goto X23.here hx rfl (pc0 := 81) (pc' := 87) rfl (hb hby d2_81) (by decide) (by decide) ?_
              exact k
            obtain ⟨fs, hr, hrun, hended, hW, hsame⟩ := X23.leave (v := some (.ref w_LESS)) (fun h => by rw [Bd.returns] at h; cases h)
            refine ⟨_, _, ?_, hrun, hended, _, _, rfl, ?_, ⟨_, rfl⟩, hW, hsame.mono (by decide) (by decide)⟩
            · show Steps p.tables e below (T23.setTop (mkF m 87 #[.val (.ref r0)] [(.ref w_LESS)])) _
              exact own_retV X23 hx Bd.returns rfl rfl (hb hby d2_87) hr
            · show Q2 Z r0 w_LESS w_GREATER_OR_EQUAL w_LESS_OR_EQUAL w_EQUAL w_NOT_EQUAL w_GREATER ko h0 n0 _ _ _
              exact ⟨(by rw [ng, if_neg hc14, if_neg hc16, if_neg hc18, if_neg hc20, if_pos hc22]), N13, e23⟩
          · -- hc22: no
            by_cases hc24 : ko = (5 : Int32)
            · -- hc24: yes
              refine own_go (A' := (T13.setTop (mkF m 84 #[.val (.ref r0)] []))) (fun t k => XS.tswIn X13.here hx rfl (o := 80) (pc0 := 4) (pc' := 84) rfl (hb hby d2_4) rfl (by rw [hc24]; decide) (by rw [hc24]; decide) (by decide) (by decide) k) ?_
              obtain ⟨T25, X25, e25, st25⟩ := getS2 X13 hx hZ hown (host := "") (Or.inl (hw _ (List.mem_of_getElem? (i := 39) rfl))) Via.refl e13 S_LESS_OR_EQUAL (g := (mkF m 84 #[.val (.ref r0)] [])) rfl (hb hby d2_84)
              refine own_go (A' := (T25.setTop (mkF m 87 #[.val (.ref r0)] [(.ref w_LESS_OR_EQUAL)]))) (fun t k => ?_) ?_
              · show Steps p.tables e below (T13.setTop (mkF m 84 #[.val (.ref r0)] [])) _
                refine st25 _ ?_
                exact k
              obtain ⟨fs, hr, hrun, hended, hW, hsame⟩ := X25.leave (v := some (.ref w_LESS_OR_EQUAL)) (fun h => by rw [Bd.returns] at h; cases h)
              refine ⟨_, _, ?_, hrun, hended, _, _, rfl, ?_, ⟨_, rfl⟩, hW, hsame.mono (by decide) (by decide)⟩
              · show Steps p.tables e below (T25.setTop (mkF m 87 #[.val (.ref r0)] [(.ref w_LESS_OR_EQUAL)])) _
                exact own_retV X25 hx Bd.returns rfl rfl (hb hby d2_87) hr
              · show Q2 Z r0 w_LESS w_GREATER_OR_EQUAL w_LESS_OR_EQUAL w_EQUAL w_NOT_EQUAL w_GREATER ko h0 n0 _ _ _
                exact ⟨(by rw [ng, if_neg hc14, if_neg hc16, if_neg hc18, if_neg hc20, if_neg hc22]), N13, e25⟩
            · -- hc24: no
              exact absurd hko (by simp only [hc14, hc16, hc18, hc20, hc22, hc24, or_self, not_false_eq_true])
theorem d4_0 : decode method_4_code 0 = .ok (.aload_n 0, 1) := by decide +kernel
theorem d4_1 : decode method_4_code 1 = .ok (.getstatic 24, 3) := by decide +kernel
theorem d4_4 : decode method_4_code 4 = .ok (.if_acmp .ne 13, 3) := by decide +kernel
theorem d4_7 : decode method_4_code 7 = .ok (.iload_n 1, 1) := by decide +kernel
theorem d4_8 : decode method_4_code 8 = .ok (.ifCond .ge 7, 3) := by decide +kernel
theorem d4_11 : decode method_4_code 11 = .ok (.iconst 1, 1) := by decide +kernel
theorem d4_12 : decode method_4_code 12 = .ok (.goto 4, 3) := by decide +kernel
theorem d4_15 : decode method_4_code 15 = .ok (.iconst 0, 1) := by decide +kernel
theorem d4_16 : decode method_4_code 16 = .ok (.ireturn, 1) := by decide +kernel
theorem d4_17 : decode method_4_code 17 = .ok (.aload_n 0, 1) := by decide +kernel
theorem d4_18 : decode method_4_code 18 = .ok (.getstatic 28, 3) := by decide +kernel
theorem d4_21 : decode method_4_code 21 = .ok (.if_acmp .ne 13, 3) := by decide +kernel
theorem d4_24 : decode method_4_code 24 = .ok (.iload_n 1, 1) := by decide +kernel
theorem d4_25 : decode method_4_code 25 = .ok (.ifCond .gt 7, 3) := by decide +kernel
theorem d4_28 : decode method_4_code 28 = .ok (.iconst 1, 1) := by decide +kernel
theorem d4_29 : decode method_4_code 29 = .ok (.goto 4, 3) := by decide +kernel
theorem d4_32 : decode method_4_code 32 = .ok (.iconst 0, 1) := by decide +kernel
theorem d4_33 : decode method_4_code 33 = .ok (.ireturn, 1) := by decide +kernel
theorem d4_34 : decode method_4_code 34 = .ok (.aload_n 0, 1) := by decide +kernel
theorem d4_35 : decode method_4_code 35 = .ok (.getstatic 31, 3) := by decide +kernel
theorem d4_38 : decode method_4_code 38 = .ok (.if_acmp .ne 13, 3) := by decide +kernel
theorem d4_41 : decode method_4_code 41 = .ok (.iload_n 1, 1) := by decide +kernel
theorem d4_42 : decode method_4_code 42 = .ok (.ifCond .ne 7, 3) := by decide +kernel
theorem d4_45 : decode method_4_code 45 = .ok (.iconst 1, 1) := by decide +kernel
theorem d4_46 : decode method_4_code 46 = .ok (.goto 4, 3) := by decide +kernel
theorem d4_49 : decode method_4_code 49 = .ok (.iconst 0, 1) := by decide +kernel
theorem d4_50 : decode method_4_code 50 = .ok (.ireturn, 1) := by decide +kernel
theorem d4_51 : decode method_4_code 51 = .ok (.aload_n 0, 1) := by decide +kernel
theorem d4_52 : decode method_4_code 52 = .ok (.getstatic 34, 3) := by decide +kernel
theorem d4_55 : decode method_4_code 55 = .ok (.if_acmp .ne 13, 3) := by decide +kernel
theorem d4_58 : decode method_4_code 58 = .ok (.iload_n 1, 1) := by decide +kernel
theorem d4_59 : decode method_4_code 59 = .ok (.ifCond .eq 7, 3) := by decide +kernel
theorem d4_62 : decode method_4_code 62 = .ok (.iconst 1, 1) := by decide +kernel
theorem d4_63 : decode method_4_code 63 = .ok (.goto 4, 3) := by decide +kernel
theorem d4_66 : decode method_4_code 66 = .ok (.iconst 0, 1) := by decide +kernel
theorem d4_67 : decode method_4_code 67 = .ok (.ireturn, 1) := by decide +kernel
theorem d4_68 : decode method_4_code 68 = .ok (.aload_n 0, 1) := by decide +kernel
theorem d4_69 : decode method_4_code 69 = .ok (.getstatic 37, 3) := by decide +kernel
theorem d4_72 : decode method_4_code 72 = .ok (.if_acmp .ne 13, 3) := by decide +kernel
theorem d4_75 : decode method_4_code 75 = .ok (.iload_n 1, 1) := by decide +kernel
theorem d4_76 : decode method_4_code 76 = .ok (.ifCond .lt 7, 3) := by decide +kernel
theorem d4_79 : decode method_4_code 79 = .ok (.iconst 1, 1) := by decide +kernel
theorem d4_80 : decode method_4_code 80 = .ok (.goto 4, 3) := by decide +kernel
theorem d4_83 : decode method_4_code 83 = .ok (.iconst 0, 1) := by decide +kernel
theorem d4_84 : decode method_4_code 84 = .ok (.ireturn, 1) := by decide +kernel
theorem d4_85 : decode method_4_code 85 = .ok (.aload_n 0, 1) := by decide +kernel
theorem d4_86 : decode method_4_code 86 = .ok (.getstatic 40, 3) := by decide +kernel
theorem d4_89 : decode method_4_code 89 = .ok (.if_acmp .ne 13, 3) := by decide +kernel
theorem d4_92 : decode method_4_code 92 = .ok (.iload_n 1, 1) := by decide +kernel
theorem d4_93 : decode method_4_code 93 = .ok (.ifCond .le 7, 3) := by decide +kernel
theorem d4_96 : decode method_4_code 96 = .ok (.iconst 1, 1) := by decide +kernel
theorem d4_97 : decode method_4_code 97 = .ok (.goto 4, 3) := by decide +kernel
theorem d4_100 : decode method_4_code 100 = .ok (.iconst 0, 1) := by decide +kernel
theorem d4_101 : decode method_4_code 101 = .ok (.ireturn, 1) := by decide +kernel
theorem d4_102 : decode method_4_code 102 = .ok (.iconst 0, 1) := by decide +kernel
theorem d4_103 : decode method_4_code 103 = .ok (.ireturn, 1) := by decide +kernel
theorem pn_4 : plainName "com/example/pathwarden/pathwarden/flow/RelationNegatedPinLaw" = true := by first | (simp [plainName, overriddenIn]; done) | decide +kernel
theorem ef_4 (m : MethodId) (r0 : Addr) (p1 : Int32) : entryFrame m #[(.ref r0), (.int p1)] 2 = mkF m 0 #[.val (.ref r0), .val (.int p1)] [] := by first | (simp [entryFrame, mkF, argsToLocals, Value.category]; done) | rfl
def Q4 (Z : State) (r0 : Addr) (p1 : Int32) (w_LESS : Addr) (w_GREATER_OR_EQUAL : Addr) (w_LESS_OR_EQUAL : Addr) (w_EQUAL : Addr) (w_NOT_EQUAL : Addr) (w_GREATER : Addr) (h0 : Heap) (n0 : Nat) (v : Option Value) (h : Heap) (L : List Loc) : Prop := v = some (.int (mean w_LESS w_LESS_OR_EQUAL w_EQUAL w_NOT_EQUAL w_GREATER_OR_EQUAL w_GREATER r0 p1)) ∧ Fr n0 L ∧ h = h0
set_option maxRecDepth 65536 in
set_option maxHeartbeats 40000000 in
theorem rm4 (l : Launch) (Z : State) (a0 : Array Value) (hw : ∀ d ∈ tables_1, d.before a0 Z = true) (ws : List Jvm.Cond) (r0 : Addr) (p1 : Int32) (w_LESS : Addr) (w_GREATER_OR_EQUAL : Addr) (w_LESS_OR_EQUAL : Addr) (w_EQUAL : Addr) (w_NOT_EQUAL : Addr) (w_GREATER : Addr) (h0 : Heap) (n0 : Nat) (Z0 : n0 ≤ h0.size) (S_LESS : Sta Z h0 "com/example/pathwarden/pathwarden/flow/Relation" "LESS" "Lcom/example/pathwarden/pathwarden/flow/Relation;" (.ref w_LESS)) (S_GREATER_OR_EQUAL : Sta Z h0 "com/example/pathwarden/pathwarden/flow/Relation" "GREATER_OR_EQUAL" "Lcom/example/pathwarden/pathwarden/flow/Relation;" (.ref w_GREATER_OR_EQUAL)) (S_LESS_OR_EQUAL : Sta Z h0 "com/example/pathwarden/pathwarden/flow/Relation" "LESS_OR_EQUAL" "Lcom/example/pathwarden/pathwarden/flow/Relation;" (.ref w_LESS_OR_EQUAL)) (S_EQUAL : Sta Z h0 "com/example/pathwarden/pathwarden/flow/Relation" "EQUAL" "Lcom/example/pathwarden/pathwarden/flow/Relation;" (.ref w_EQUAL)) (S_NOT_EQUAL : Sta Z h0 "com/example/pathwarden/pathwarden/flow/Relation" "NOT_EQUAL" "Lcom/example/pathwarden/pathwarden/flow/Relation;" (.ref w_NOT_EQUAL)) (S_GREATER : Sta Z h0 "com/example/pathwarden/pathwarden/flow/Relation" "GREATER" "Lcom/example/pathwarden/pathwarden/flow/Relation;" (.ref w_GREATER)) (E_LESS : Exa Z h0 w_LESS "com/example/pathwarden/pathwarden/flow/Relation") (E_GREATER_OR_EQUAL : Exa Z h0 w_GREATER_OR_EQUAL "com/example/pathwarden/pathwarden/flow/Relation") (E_LESS_OR_EQUAL : Exa Z h0 w_LESS_OR_EQUAL "com/example/pathwarden/pathwarden/flow/Relation") (E_EQUAL : Exa Z h0 w_EQUAL "com/example/pathwarden/pathwarden/flow/Relation") (E_NOT_EQUAL : Exa Z h0 w_NOT_EQUAL "com/example/pathwarden/pathwarden/flow/Relation") (E_GREATER : Exa Z h0 w_GREATER "com/example/pathwarden/pathwarden/flow/Relation") (O_LESS_ordinal : Fld Z h0 w_LESS "java/lang/Enum" "ordinal" "I" (.int (0 : Int32))) (O_GREATER_OR_EQUAL_ordinal : Fld Z h0 w_GREATER_OR_EQUAL "java/lang/Enum" "ordinal" "I" (.int (4 : Int32))) (O_LESS_OR_EQUAL_ordinal : Fld Z h0 w_LESS_OR_EQUAL "java/lang/Enum" "ordinal" "I" (.int (1 : Int32))) (O_EQUAL_ordinal : Fld Z h0 w_EQUAL "java/lang/Enum" "ordinal" "I" (.int (2 : Int32))) (O_NOT_EQUAL_ordinal : Fld Z h0 w_NOT_EQUAL "java/lang/Enum" "ordinal" "I" (.int (3 : Int32))) (O_GREATER_ordinal : Fld Z h0 w_GREATER "java/lang/Enum" "ordinal" "I" (.int (5 : Int32))) :
    MetFree l (⟨"com/example/pathwarden/pathwarden/flow/RelationNegatedPinLaw", "meaning", "(Lcom/example/pathwarden/pathwarden/flow/Relation;I)Z"⟩ : MethodName) (head1 (Jvm.Cond.code (⟨"com/example/pathwarden/pathwarden/flow/RelationNegatedPinLaw", "meaning", "(Lcom/example/pathwarden/pathwarden/flow/Relation;I)Z"⟩ : MethodName) method_4_code 2 (some .boolean) :: ws) ({ frames := 0, cells := 0, slots := 0, locals := 0 } : Room)) (fun a U => a = #[(.ref r0), (.int p1)] ∧ Z.Warmed39 U.vm ∧ U.heap = h0) (fun _ _ _ _ _ => True) (fun _ U o U' => ∃ v L, o = .returned v ∧ Q4 Z r0 p1 w_LESS w_GREATER_OR_EQUAL w_LESS_OR_EQUAL w_EQUAL w_NOT_EQUAL w_GREATER h0 n0 v U'.heap L ∧ FrameEnd U o U' L ({ frames := 0, cells := 0, slots := 0, locals := 0 } : Room).cells ({ frames := 0, cells := 0, slots := 0, locals := 0 } : Room).slots) := by
  refine MetFree.of_bodySF (plainFor_of_name pn_4) hisR ?_
  intro p e s m args below meth c s₁ Bd hml0 hP hK
  obtain ⟨rfl, hZ, hh⟩ := hP
  have hx := Bd.exec
  have hby := Bd.bytes
  have hml : c.maxLocals = 2 := hml0
  have hown : s.vm.findClass "com/example/pathwarden/pathwarden/flow/RelationNegatedPinLaw" = some m.cls := findClass_of_methodNamed Bd.named
  have hnm := (name_of_methodNamed Bd.named Bd.method).1
  have X0 : Stand p l e ({ frames := 0, cells := 0, slots := 0, locals := 0 } : Room) s m #[(.ref r0), (.int p1)] below meth c s₁ [] 0 0 := Stand.of_body Bd
  have e0 : s₁.heap = h0 := by rw [← hh, Bd.state]; rfl
  have N0 := Fr.nil n0
  refine own_go (A' := (s₁.setTop (mkF m 0 #[.val (.ref r0), .val (.int p1)] []))) (fun t k => castTop (ef_4 m r0 p1) k) ?_
  obtain ⟨T26, X26, e26, st26⟩ := getS2 X0 hx hZ hown (host := "") (Or.inl (hw _ (List.mem_of_getElem? (i := 5) rfl))) Via.refl e0 S_LESS (g := (mkF m 1 #[.val (.ref r0), .val (.int p1)] [(.ref r0)])) rfl (hb hby d4_1)
  refine own_go (A' := (T26.setTop (mkF m 4 #[.val (.ref r0), .val (.int p1)] [(.ref w_LESS), (.ref r0)]))) (fun t k => ?_) ?_
  · show Steps p.tables e below (s₁.setTop (mkF m 0 #[.val (.ref r0), .val (.int p1)] [])) _
    refine XS.aloadN X0.here hx rfl (hb hby d4_0) rfl rfl ?_
    show Steps p.tables e below (s₁.setTop (mkF m 1 #[.val (.ref r0), .val (.int p1)] [(.ref r0)])) _
    refine st26 _ ?_
    exact k
  by_cases hc27 : r0 = w_LESS
  · -- hc27: yes
    refine own_go (A' := (T26.setTop (mkF m 7 #[.val (.ref r0), .val (.int p1)] []))) (fun t k => Jvm.RoadKit.acmp (g := (mkF m 4 #[.val (.ref r0), .val (.int p1)] [(.ref w_LESS), (.ref r0)])) X26 hx rfl rfl rfl (pc0 := 4) (pc' := 7) (same := true) rfl (hb hby d4_4) rfl (decide_eq_true (congrArg Value.ref hc27)) (by decide) (by decide) k) ?_
    refine own_go (A' := (T26.setTop (mkF m 8 #[.val (.ref r0), .val (.int p1)] [(.int p1)]))) (fun t k => ?_) ?_
    · show Steps p.tables e below (T26.setTop (mkF m 7 #[.val (.ref r0), .val (.int p1)] [])) _
      refine XS.iloadN X26.here hx rfl (hb hby d4_7) rfl ?_
      exact k
    by_cases hc28 : p1 < (0 : Int32)
    · -- hc28: yes
      refine own_go (A' := (T26.setTop (mkF m 11 #[.val (.ref r0), .val (.int p1)] []))) (fun t k => XS.ifNo X26.here hx rfl (hb hby d4_8) rfl ((if0 _ _).trans (tlt hc28).2.1) k) ?_
      refine own_go (A' := (T26.setTop (mkF m 16 #[.val (.ref r0), .val (.int p1)] [(.int (1 : Int32))]))) (fun t k => ?_) ?_
      · show Steps p.tables e below (T26.setTop (mkF m 11 #[.val (.ref r0), .val (.int p1)] [])) _
        refine XS.iconst X26.here hx rfl (hb hby d4_11) ?_
        show Steps p.tables e below (T26.setTop (mkF m 12 #[.val (.ref r0), .val (.int p1)] [(.int (1 : Int32))])) _
        refine XS.goto X26.here hx rfl (pc0 := 12) (pc' := 16) rfl (hb hby d4_12) (by decide) (by decide) ?_
        exact k
      obtain ⟨fs, hr, hrun, hended, hW, hsame⟩ := X26.leave (v := some (.int (1 : Int32))) (fun h => by rw [Bd.returns] at h; cases h)
      refine ⟨_, _, ?_, hrun, hended, _, _, rfl, ?_, ⟨_, rfl⟩, hW, hsame.mono (by decide) (by decide)⟩
      · show Steps p.tables e below (T26.setTop (mkF m 16 #[.val (.ref r0), .val (.int p1)] [(.int (1 : Int32))])) _
        exact retN X26 hx (t := .boolean) Bd.returns (by simp) (hb hby d4_16) hr
      · show Q4 Z r0 p1 w_LESS w_GREATER_OR_EQUAL w_LESS_OR_EQUAL w_EQUAL w_NOT_EQUAL w_GREATER h0 n0 _ _ _
        exact ⟨(by rw [mean, if_pos hc27, if_pos hc28]), N0, e26⟩
    · -- hc28: no
      refine own_go (A' := (T26.setTop (mkF m 15 #[.val (.ref r0), .val (.int p1)] []))) (fun t k => XS.ifYes X26.here hx rfl (pc0 := 8) (pc' := 15) rfl (hb hby d4_8) rfl ((if0 _ _).trans (flt hc28).2.1) (by decide) (by decide) k) ?_
      refine own_go (A' := (T26.setTop (mkF m 16 #[.val (.ref r0), .val (.int p1)] [(.int (0 : Int32))]))) (fun t k => ?_) ?_
      · show Steps p.tables e below (T26.setTop (mkF m 15 #[.val (.ref r0), .val (.int p1)] [])) _
        refine XS.iconst X26.here hx rfl (hb hby d4_15) ?_
        exact k
      obtain ⟨fs, hr, hrun, hended, hW, hsame⟩ := X26.leave (v := some (.int (0 : Int32))) (fun h => by rw [Bd.returns] at h; cases h)
      refine ⟨_, _, ?_, hrun, hended, _, _, rfl, ?_, ⟨_, rfl⟩, hW, hsame.mono (by decide) (by decide)⟩
      · show Steps p.tables e below (T26.setTop (mkF m 16 #[.val (.ref r0), .val (.int p1)] [(.int (0 : Int32))])) _
        exact retN X26 hx (t := .boolean) Bd.returns (by simp) (hb hby d4_16) hr
      · show Q4 Z r0 p1 w_LESS w_GREATER_OR_EQUAL w_LESS_OR_EQUAL w_EQUAL w_NOT_EQUAL w_GREATER h0 n0 _ _ _
        exact ⟨(by rw [mean, if_pos hc27, if_neg hc28]), N0, e26⟩
  · -- hc27: no
    refine own_go (A' := (T26.setTop (mkF m 17 #[.val (.ref r0), .val (.int p1)] []))) (fun t k => Jvm.RoadKit.acmp (g := (mkF m 4 #[.val (.ref r0), .val (.int p1)] [(.ref w_LESS), (.ref r0)])) X26 hx rfl rfl rfl (pc0 := 4) (pc' := 17) (same := false) rfl (hb hby d4_4) rfl (decide_eq_false fun q => hc27 (Value.ref.inj q)) (by decide) (by decide) k) ?_
    obtain ⟨T29, X29, e29, st29⟩ := getS2 X26 hx hZ hown (host := "") (Or.inl (hw _ (List.mem_of_getElem? (i := 27) rfl))) Via.refl e26 S_LESS_OR_EQUAL (g := (mkF m 18 #[.val (.ref r0), .val (.int p1)] [(.ref r0)])) rfl (hb hby d4_18)
    refine own_go (A' := (T29.setTop (mkF m 21 #[.val (.ref r0), .val (.int p1)] [(.ref w_LESS_OR_EQUAL), (.ref r0)]))) (fun t k => ?_) ?_
    · show Steps p.tables e below (T26.setTop (mkF m 17 #[.val (.ref r0), .val (.int p1)] [])) _
      refine XS.aloadN X26.here hx rfl (hb hby d4_17) rfl rfl ?_
      show Steps p.tables e below (T26.setTop (mkF m 18 #[.val (.ref r0), .val (.int p1)] [(.ref r0)])) _
      refine st29 _ ?_
      exact k
    by_cases hc30 : r0 = w_LESS_OR_EQUAL
    · -- hc30: yes
      refine own_go (A' := (T29.setTop (mkF m 24 #[.val (.ref r0), .val (.int p1)] []))) (fun t k => Jvm.RoadKit.acmp (g := (mkF m 21 #[.val (.ref r0), .val (.int p1)] [(.ref w_LESS_OR_EQUAL), (.ref r0)])) X29 hx rfl rfl rfl (pc0 := 21) (pc' := 24) (same := true) rfl (hb hby d4_21) rfl (decide_eq_true (congrArg Value.ref hc30)) (by decide) (by decide) k) ?_
      refine own_go (A' := (T29.setTop (mkF m 25 #[.val (.ref r0), .val (.int p1)] [(.int p1)]))) (fun t k => ?_) ?_
      · show Steps p.tables e below (T29.setTop (mkF m 24 #[.val (.ref r0), .val (.int p1)] [])) _
        refine XS.iloadN X29.here hx rfl (hb hby d4_24) rfl ?_
        exact k
      by_cases hc31 : (0 : Int32) < p1
      · -- hc31: yes
        refine own_go (A' := (T29.setTop (mkF m 32 #[.val (.ref r0), .val (.int p1)] []))) (fun t k => XS.ifYes X29.here hx rfl (pc0 := 25) (pc' := 32) rfl (hb hby d4_25) rfl ((if0 _ _).trans (tlt hc31).2.2.1) (by decide) (by decide) k) ?_
        refine own_go (A' := (T29.setTop (mkF m 33 #[.val (.ref r0), .val (.int p1)] [(.int (0 : Int32))]))) (fun t k => ?_) ?_
        · show Steps p.tables e below (T29.setTop (mkF m 32 #[.val (.ref r0), .val (.int p1)] [])) _
          refine XS.iconst X29.here hx rfl (hb hby d4_32) ?_
          exact k
        obtain ⟨fs, hr, hrun, hended, hW, hsame⟩ := X29.leave (v := some (.int (0 : Int32))) (fun h => by rw [Bd.returns] at h; cases h)
        refine ⟨_, _, ?_, hrun, hended, _, _, rfl, ?_, ⟨_, rfl⟩, hW, hsame.mono (by decide) (by decide)⟩
        · show Steps p.tables e below (T29.setTop (mkF m 33 #[.val (.ref r0), .val (.int p1)] [(.int (0 : Int32))])) _
          exact retN X29 hx (t := .boolean) Bd.returns (by simp) (hb hby d4_33) hr
        · show Q4 Z r0 p1 w_LESS w_GREATER_OR_EQUAL w_LESS_OR_EQUAL w_EQUAL w_NOT_EQUAL w_GREATER h0 n0 _ _ _
          exact ⟨(by rw [mean, if_neg hc27, if_pos hc30, if_pos hc31]), N0, e29⟩
      · -- hc31: no
        refine own_go (A' := (T29.setTop (mkF m 28 #[.val (.ref r0), .val (.int p1)] []))) (fun t k => XS.ifNo X29.here hx rfl (hb hby d4_25) rfl ((if0 _ _).trans (flt hc31).2.2.1) k) ?_
        refine own_go (A' := (T29.setTop (mkF m 33 #[.val (.ref r0), .val (.int p1)] [(.int (1 : Int32))]))) (fun t k => ?_) ?_
        · show Steps p.tables e below (T29.setTop (mkF m 28 #[.val (.ref r0), .val (.int p1)] [])) _
          refine XS.iconst X29.here hx rfl (hb hby d4_28) ?_
          show Steps p.tables e below (T29.setTop (mkF m 29 #[.val (.ref r0), .val (.int p1)] [(.int (1 : Int32))])) _
          refine XS.goto X29.here hx rfl (pc0 := 29) (pc' := 33) rfl (hb hby d4_29) (by decide) (by decide) ?_
          exact k
        obtain ⟨fs, hr, hrun, hended, hW, hsame⟩ := X29.leave (v := some (.int (1 : Int32))) (fun h => by rw [Bd.returns] at h; cases h)
        refine ⟨_, _, ?_, hrun, hended, _, _, rfl, ?_, ⟨_, rfl⟩, hW, hsame.mono (by decide) (by decide)⟩
        · show Steps p.tables e below (T29.setTop (mkF m 33 #[.val (.ref r0), .val (.int p1)] [(.int (1 : Int32))])) _
          exact retN X29 hx (t := .boolean) Bd.returns (by simp) (hb hby d4_33) hr
        · show Q4 Z r0 p1 w_LESS w_GREATER_OR_EQUAL w_LESS_OR_EQUAL w_EQUAL w_NOT_EQUAL w_GREATER h0 n0 _ _ _
          exact ⟨(by rw [mean, if_neg hc27, if_pos hc30, if_neg hc31]), N0, e29⟩
    · -- hc30: no
      refine own_go (A' := (T29.setTop (mkF m 34 #[.val (.ref r0), .val (.int p1)] []))) (fun t k => Jvm.RoadKit.acmp (g := (mkF m 21 #[.val (.ref r0), .val (.int p1)] [(.ref w_LESS_OR_EQUAL), (.ref r0)])) X29 hx rfl rfl rfl (pc0 := 21) (pc' := 34) (same := false) rfl (hb hby d4_21) rfl (decide_eq_false fun q => hc30 (Value.ref.inj q)) (by decide) (by decide) k) ?_
      obtain ⟨T32, X32, e32, st32⟩ := getS2 X29 hx hZ hown (host := "") (Or.inl (hw _ (List.mem_of_getElem? (i := 29) rfl))) Via.refl e29 S_EQUAL (g := (mkF m 35 #[.val (.ref r0), .val (.int p1)] [(.ref r0)])) rfl (hb hby d4_35)
      refine own_go (A' := (T32.setTop (mkF m 38 #[.val (.ref r0), .val (.int p1)] [(.ref w_EQUAL), (.ref r0)]))) (fun t k => ?_) ?_
      · show Steps p.tables e below (T29.setTop (mkF m 34 #[.val (.ref r0), .val (.int p1)] [])) _
        refine XS.aloadN X29.here hx rfl (hb hby d4_34) rfl rfl ?_
        show Steps p.tables e below (T29.setTop (mkF m 35 #[.val (.ref r0), .val (.int p1)] [(.ref r0)])) _
        refine st32 _ ?_
        exact k
      by_cases hc33 : r0 = w_EQUAL
      · -- hc33: yes
        refine own_go (A' := (T32.setTop (mkF m 41 #[.val (.ref r0), .val (.int p1)] []))) (fun t k => Jvm.RoadKit.acmp (g := (mkF m 38 #[.val (.ref r0), .val (.int p1)] [(.ref w_EQUAL), (.ref r0)])) X32 hx rfl rfl rfl (pc0 := 38) (pc' := 41) (same := true) rfl (hb hby d4_38) rfl (decide_eq_true (congrArg Value.ref hc33)) (by decide) (by decide) k) ?_
        refine own_go (A' := (T32.setTop (mkF m 42 #[.val (.ref r0), .val (.int p1)] [(.int p1)]))) (fun t k => ?_) ?_
        · show Steps p.tables e below (T32.setTop (mkF m 41 #[.val (.ref r0), .val (.int p1)] [])) _
          refine XS.iloadN X32.here hx rfl (hb hby d4_41) rfl ?_
          exact k
        by_cases hc34 : p1 = (0 : Int32)
        · -- hc34: yes
          refine own_go (A' := (T32.setTop (mkF m 45 #[.val (.ref r0), .val (.int p1)] []))) (fun t k => XS.ifNo X32.here hx rfl (hb hby d4_42) rfl ((if0 _ _).trans (teq hc34).2) k) ?_
          refine own_go (A' := (T32.setTop (mkF m 50 #[.val (.ref r0), .val (.int p1)] [(.int (1 : Int32))]))) (fun t k => ?_) ?_
          · show Steps p.tables e below (T32.setTop (mkF m 45 #[.val (.ref r0), .val (.int p1)] [])) _
            refine XS.iconst X32.here hx rfl (hb hby d4_45) ?_
            show Steps p.tables e below (T32.setTop (mkF m 46 #[.val (.ref r0), .val (.int p1)] [(.int (1 : Int32))])) _
            refine XS.goto X32.here hx rfl (pc0 := 46) (pc' := 50) rfl (hb hby d4_46) (by decide) (by decide) ?_
            exact k
          obtain ⟨fs, hr, hrun, hended, hW, hsame⟩ := X32.leave (v := some (.int (1 : Int32))) (fun h => by rw [Bd.returns] at h; cases h)
          refine ⟨_, _, ?_, hrun, hended, _, _, rfl, ?_, ⟨_, rfl⟩, hW, hsame.mono (by decide) (by decide)⟩
          · show Steps p.tables e below (T32.setTop (mkF m 50 #[.val (.ref r0), .val (.int p1)] [(.int (1 : Int32))])) _
            exact retN X32 hx (t := .boolean) Bd.returns (by simp) (hb hby d4_50) hr
          · show Q4 Z r0 p1 w_LESS w_GREATER_OR_EQUAL w_LESS_OR_EQUAL w_EQUAL w_NOT_EQUAL w_GREATER h0 n0 _ _ _
            exact ⟨(by rw [mean, if_neg hc27, if_neg hc30, if_pos hc33, if_pos hc34]), N0, e32⟩
        · -- hc34: no
          refine own_go (A' := (T32.setTop (mkF m 49 #[.val (.ref r0), .val (.int p1)] []))) (fun t k => XS.ifYes X32.here hx rfl (pc0 := 42) (pc' := 49) rfl (hb hby d4_42) rfl ((if0 _ _).trans (feq hc34).2) (by decide) (by decide) k) ?_
          refine own_go (A' := (T32.setTop (mkF m 50 #[.val (.ref r0), .val (.int p1)] [(.int (0 : Int32))]))) (fun t k => ?_) ?_
          · show Steps p.tables e below (T32.setTop (mkF m 49 #[.val (.ref r0), .val (.int p1)] [])) _
            refine XS.iconst X32.here hx rfl (hb hby d4_49) ?_
            exact k
          obtain ⟨fs, hr, hrun, hended, hW, hsame⟩ := X32.leave (v := some (.int (0 : Int32))) (fun h => by rw [Bd.returns] at h; cases h)
          refine ⟨_, _, ?_, hrun, hended, _, _, rfl, ?_, ⟨_, rfl⟩, hW, hsame.mono (by decide) (by decide)⟩
          · show Steps p.tables e below (T32.setTop (mkF m 50 #[.val (.ref r0), .val (.int p1)] [(.int (0 : Int32))])) _
            exact retN X32 hx (t := .boolean) Bd.returns (by simp) (hb hby d4_50) hr
          · show Q4 Z r0 p1 w_LESS w_GREATER_OR_EQUAL w_LESS_OR_EQUAL w_EQUAL w_NOT_EQUAL w_GREATER h0 n0 _ _ _
            exact ⟨(by rw [mean, if_neg hc27, if_neg hc30, if_pos hc33, if_neg hc34]), N0, e32⟩
      · -- hc33: no
        refine own_go (A' := (T32.setTop (mkF m 51 #[.val (.ref r0), .val (.int p1)] []))) (fun t k => Jvm.RoadKit.acmp (g := (mkF m 38 #[.val (.ref r0), .val (.int p1)] [(.ref w_EQUAL), (.ref r0)])) X32 hx rfl rfl rfl (pc0 := 38) (pc' := 51) (same := false) rfl (hb hby d4_38) rfl (decide_eq_false fun q => hc33 (Value.ref.inj q)) (by decide) (by decide) k) ?_
        obtain ⟨T35, X35, e35, st35⟩ := getS2 X32 hx hZ hown (host := "") (Or.inl (hw _ (List.mem_of_getElem? (i := 31) rfl))) Via.refl e32 S_NOT_EQUAL (g := (mkF m 52 #[.val (.ref r0), .val (.int p1)] [(.ref r0)])) rfl (hb hby d4_52)
        refine own_go (A' := (T35.setTop (mkF m 55 #[.val (.ref r0), .val (.int p1)] [(.ref w_NOT_EQUAL), (.ref r0)]))) (fun t k => ?_) ?_
        · show Steps p.tables e below (T32.setTop (mkF m 51 #[.val (.ref r0), .val (.int p1)] [])) _
          refine XS.aloadN X32.here hx rfl (hb hby d4_51) rfl rfl ?_
          show Steps p.tables e below (T32.setTop (mkF m 52 #[.val (.ref r0), .val (.int p1)] [(.ref r0)])) _
          refine st35 _ ?_
          exact k
        by_cases hc36 : r0 = w_NOT_EQUAL
        · -- hc36: yes
          refine own_go (A' := (T35.setTop (mkF m 58 #[.val (.ref r0), .val (.int p1)] []))) (fun t k => Jvm.RoadKit.acmp (g := (mkF m 55 #[.val (.ref r0), .val (.int p1)] [(.ref w_NOT_EQUAL), (.ref r0)])) X35 hx rfl rfl rfl (pc0 := 55) (pc' := 58) (same := true) rfl (hb hby d4_55) rfl (decide_eq_true (congrArg Value.ref hc36)) (by decide) (by decide) k) ?_
          refine own_go (A' := (T35.setTop (mkF m 59 #[.val (.ref r0), .val (.int p1)] [(.int p1)]))) (fun t k => ?_) ?_
          · show Steps p.tables e below (T35.setTop (mkF m 58 #[.val (.ref r0), .val (.int p1)] [])) _
            refine XS.iloadN X35.here hx rfl (hb hby d4_58) rfl ?_
            exact k
          by_cases hc37 : p1 = (0 : Int32)
          · -- hc37: yes
            refine own_go (A' := (T35.setTop (mkF m 66 #[.val (.ref r0), .val (.int p1)] []))) (fun t k => XS.ifYes X35.here hx rfl (pc0 := 59) (pc' := 66) rfl (hb hby d4_59) rfl ((if0 _ _).trans (teq hc37).1) (by decide) (by decide) k) ?_
            refine own_go (A' := (T35.setTop (mkF m 67 #[.val (.ref r0), .val (.int p1)] [(.int (0 : Int32))]))) (fun t k => ?_) ?_
            · show Steps p.tables e below (T35.setTop (mkF m 66 #[.val (.ref r0), .val (.int p1)] [])) _
              refine XS.iconst X35.here hx rfl (hb hby d4_66) ?_
              exact k
            obtain ⟨fs, hr, hrun, hended, hW, hsame⟩ := X35.leave (v := some (.int (0 : Int32))) (fun h => by rw [Bd.returns] at h; cases h)
            refine ⟨_, _, ?_, hrun, hended, _, _, rfl, ?_, ⟨_, rfl⟩, hW, hsame.mono (by decide) (by decide)⟩
            · show Steps p.tables e below (T35.setTop (mkF m 67 #[.val (.ref r0), .val (.int p1)] [(.int (0 : Int32))])) _
              exact retN X35 hx (t := .boolean) Bd.returns (by simp) (hb hby d4_67) hr
            · show Q4 Z r0 p1 w_LESS w_GREATER_OR_EQUAL w_LESS_OR_EQUAL w_EQUAL w_NOT_EQUAL w_GREATER h0 n0 _ _ _
              exact ⟨(by rw [mean, if_neg hc27, if_neg hc30, if_neg hc33, if_pos hc36, if_pos hc37]), N0, e35⟩
          · -- hc37: no
            refine own_go (A' := (T35.setTop (mkF m 62 #[.val (.ref r0), .val (.int p1)] []))) (fun t k => XS.ifNo X35.here hx rfl (hb hby d4_59) rfl ((if0 _ _).trans (feq hc37).1) k) ?_
            refine own_go (A' := (T35.setTop (mkF m 67 #[.val (.ref r0), .val (.int p1)] [(.int (1 : Int32))]))) (fun t k => ?_) ?_
            · show Steps p.tables e below (T35.setTop (mkF m 62 #[.val (.ref r0), .val (.int p1)] [])) _
              refine XS.iconst X35.here hx rfl (hb hby d4_62) ?_
              show Steps p.tables e below (T35.setTop (mkF m 63 #[.val (.ref r0), .val (.int p1)] [(.int (1 : Int32))])) _
              refine XS.goto X35.here hx rfl (pc0 := 63) (pc' := 67) rfl (hb hby d4_63) (by decide) (by decide) ?_
              exact k
            obtain ⟨fs, hr, hrun, hended, hW, hsame⟩ := X35.leave (v := some (.int (1 : Int32))) (fun h => by rw [Bd.returns] at h; cases h)
            refine ⟨_, _, ?_, hrun, hended, _, _, rfl, ?_, ⟨_, rfl⟩, hW, hsame.mono (by decide) (by decide)⟩
            · show Steps p.tables e below (T35.setTop (mkF m 67 #[.val (.ref r0), .val (.int p1)] [(.int (1 : Int32))])) _
              exact retN X35 hx (t := .boolean) Bd.returns (by simp) (hb hby d4_67) hr
            · show Q4 Z r0 p1 w_LESS w_GREATER_OR_EQUAL w_LESS_OR_EQUAL w_EQUAL w_NOT_EQUAL w_GREATER h0 n0 _ _ _
              exact ⟨(by rw [mean, if_neg hc27, if_neg hc30, if_neg hc33, if_pos hc36, if_neg hc37]), N0, e35⟩
        · -- hc36: no
          refine own_go (A' := (T35.setTop (mkF m 68 #[.val (.ref r0), .val (.int p1)] []))) (fun t k => Jvm.RoadKit.acmp (g := (mkF m 55 #[.val (.ref r0), .val (.int p1)] [(.ref w_NOT_EQUAL), (.ref r0)])) X35 hx rfl rfl rfl (pc0 := 55) (pc' := 68) (same := false) rfl (hb hby d4_55) rfl (decide_eq_false fun q => hc36 (Value.ref.inj q)) (by decide) (by decide) k) ?_
          obtain ⟨T38, X38, e38, st38⟩ := getS2 X35 hx hZ hown (host := "") (Or.inl (hw _ (List.mem_of_getElem? (i := 33) rfl))) Via.refl e35 S_GREATER_OR_EQUAL (g := (mkF m 69 #[.val (.ref r0), .val (.int p1)] [(.ref r0)])) rfl (hb hby d4_69)
          refine own_go (A' := (T38.setTop (mkF m 72 #[.val (.ref r0), .val (.int p1)] [(.ref w_GREATER_OR_EQUAL), (.ref r0)]))) (fun t k => ?_) ?_
          · show Steps p.tables e below (T35.setTop (mkF m 68 #[.val (.ref r0), .val (.int p1)] [])) _
            refine XS.aloadN X35.here hx rfl (hb hby d4_68) rfl rfl ?_
            show Steps p.tables e below (T35.setTop (mkF m 69 #[.val (.ref r0), .val (.int p1)] [(.ref r0)])) _
            refine st38 _ ?_
            exact k
          by_cases hc39 : r0 = w_GREATER_OR_EQUAL
          · -- hc39: yes
            refine own_go (A' := (T38.setTop (mkF m 75 #[.val (.ref r0), .val (.int p1)] []))) (fun t k => Jvm.RoadKit.acmp (g := (mkF m 72 #[.val (.ref r0), .val (.int p1)] [(.ref w_GREATER_OR_EQUAL), (.ref r0)])) X38 hx rfl rfl rfl (pc0 := 72) (pc' := 75) (same := true) rfl (hb hby d4_72) rfl (decide_eq_true (congrArg Value.ref hc39)) (by decide) (by decide) k) ?_
            refine own_go (A' := (T38.setTop (mkF m 76 #[.val (.ref r0), .val (.int p1)] [(.int p1)]))) (fun t k => ?_) ?_
            · show Steps p.tables e below (T38.setTop (mkF m 75 #[.val (.ref r0), .val (.int p1)] [])) _
              refine XS.iloadN X38.here hx rfl (hb hby d4_75) rfl ?_
              exact k
            by_cases hc40 : p1 < (0 : Int32)
            · -- hc40: yes
              refine own_go (A' := (T38.setTop (mkF m 83 #[.val (.ref r0), .val (.int p1)] []))) (fun t k => XS.ifYes X38.here hx rfl (pc0 := 76) (pc' := 83) rfl (hb hby d4_76) rfl ((if0 _ _).trans (tlt hc40).1) (by decide) (by decide) k) ?_
              refine own_go (A' := (T38.setTop (mkF m 84 #[.val (.ref r0), .val (.int p1)] [(.int (0 : Int32))]))) (fun t k => ?_) ?_
              · show Steps p.tables e below (T38.setTop (mkF m 83 #[.val (.ref r0), .val (.int p1)] [])) _
                refine XS.iconst X38.here hx rfl (hb hby d4_83) ?_
                exact k
              obtain ⟨fs, hr, hrun, hended, hW, hsame⟩ := X38.leave (v := some (.int (0 : Int32))) (fun h => by rw [Bd.returns] at h; cases h)
              refine ⟨_, _, ?_, hrun, hended, _, _, rfl, ?_, ⟨_, rfl⟩, hW, hsame.mono (by decide) (by decide)⟩
              · show Steps p.tables e below (T38.setTop (mkF m 84 #[.val (.ref r0), .val (.int p1)] [(.int (0 : Int32))])) _
                exact retN X38 hx (t := .boolean) Bd.returns (by simp) (hb hby d4_84) hr
              · show Q4 Z r0 p1 w_LESS w_GREATER_OR_EQUAL w_LESS_OR_EQUAL w_EQUAL w_NOT_EQUAL w_GREATER h0 n0 _ _ _
                exact ⟨(by rw [mean, if_neg hc27, if_neg hc30, if_neg hc33, if_neg hc36, if_pos hc39, if_pos hc40]), N0, e38⟩
            · -- hc40: no
              refine own_go (A' := (T38.setTop (mkF m 79 #[.val (.ref r0), .val (.int p1)] []))) (fun t k => XS.ifNo X38.here hx rfl (hb hby d4_76) rfl ((if0 _ _).trans (flt hc40).1) k) ?_
              refine own_go (A' := (T38.setTop (mkF m 84 #[.val (.ref r0), .val (.int p1)] [(.int (1 : Int32))]))) (fun t k => ?_) ?_
              · show Steps p.tables e below (T38.setTop (mkF m 79 #[.val (.ref r0), .val (.int p1)] [])) _
                refine XS.iconst X38.here hx rfl (hb hby d4_79) ?_
                show Steps p.tables e below (T38.setTop (mkF m 80 #[.val (.ref r0), .val (.int p1)] [(.int (1 : Int32))])) _
                refine XS.goto X38.here hx rfl (pc0 := 80) (pc' := 84) rfl (hb hby d4_80) (by decide) (by decide) ?_
                exact k
              obtain ⟨fs, hr, hrun, hended, hW, hsame⟩ := X38.leave (v := some (.int (1 : Int32))) (fun h => by rw [Bd.returns] at h; cases h)
              refine ⟨_, _, ?_, hrun, hended, _, _, rfl, ?_, ⟨_, rfl⟩, hW, hsame.mono (by decide) (by decide)⟩
              · show Steps p.tables e below (T38.setTop (mkF m 84 #[.val (.ref r0), .val (.int p1)] [(.int (1 : Int32))])) _
                exact retN X38 hx (t := .boolean) Bd.returns (by simp) (hb hby d4_84) hr
              · show Q4 Z r0 p1 w_LESS w_GREATER_OR_EQUAL w_LESS_OR_EQUAL w_EQUAL w_NOT_EQUAL w_GREATER h0 n0 _ _ _
                exact ⟨(by rw [mean, if_neg hc27, if_neg hc30, if_neg hc33, if_neg hc36, if_pos hc39, if_neg hc40]), N0, e38⟩
          · -- hc39: no
            refine own_go (A' := (T38.setTop (mkF m 85 #[.val (.ref r0), .val (.int p1)] []))) (fun t k => Jvm.RoadKit.acmp (g := (mkF m 72 #[.val (.ref r0), .val (.int p1)] [(.ref w_GREATER_OR_EQUAL), (.ref r0)])) X38 hx rfl rfl rfl (pc0 := 72) (pc' := 85) (same := false) rfl (hb hby d4_72) rfl (decide_eq_false fun q => hc39 (Value.ref.inj q)) (by decide) (by decide) k) ?_
            obtain ⟨T41, X41, e41, st41⟩ := getS2 X38 hx hZ hown (host := "") (Or.inl (hw _ (List.mem_of_getElem? (i := 38) rfl))) Via.refl e38 S_GREATER (g := (mkF m 86 #[.val (.ref r0), .val (.int p1)] [(.ref r0)])) rfl (hb hby d4_86)
            refine own_go (A' := (T41.setTop (mkF m 89 #[.val (.ref r0), .val (.int p1)] [(.ref w_GREATER), (.ref r0)]))) (fun t k => ?_) ?_
            · show Steps p.tables e below (T38.setTop (mkF m 85 #[.val (.ref r0), .val (.int p1)] [])) _
              refine XS.aloadN X38.here hx rfl (hb hby d4_85) rfl rfl ?_
              show Steps p.tables e below (T38.setTop (mkF m 86 #[.val (.ref r0), .val (.int p1)] [(.ref r0)])) _
              refine st41 _ ?_
              exact k
            by_cases hc42 : r0 = w_GREATER
            · -- hc42: yes
              refine own_go (A' := (T41.setTop (mkF m 92 #[.val (.ref r0), .val (.int p1)] []))) (fun t k => Jvm.RoadKit.acmp (g := (mkF m 89 #[.val (.ref r0), .val (.int p1)] [(.ref w_GREATER), (.ref r0)])) X41 hx rfl rfl rfl (pc0 := 89) (pc' := 92) (same := true) rfl (hb hby d4_89) rfl (decide_eq_true (congrArg Value.ref hc42)) (by decide) (by decide) k) ?_
              refine own_go (A' := (T41.setTop (mkF m 93 #[.val (.ref r0), .val (.int p1)] [(.int p1)]))) (fun t k => ?_) ?_
              · show Steps p.tables e below (T41.setTop (mkF m 92 #[.val (.ref r0), .val (.int p1)] [])) _
                refine XS.iloadN X41.here hx rfl (hb hby d4_92) rfl ?_
                exact k
              by_cases hc43 : (0 : Int32) < p1
              · -- hc43: yes
                refine own_go (A' := (T41.setTop (mkF m 96 #[.val (.ref r0), .val (.int p1)] []))) (fun t k => XS.ifNo X41.here hx rfl (hb hby d4_93) rfl ((if0 _ _).trans (tlt hc43).2.2.2) k) ?_
                refine own_go (A' := (T41.setTop (mkF m 101 #[.val (.ref r0), .val (.int p1)] [(.int (1 : Int32))]))) (fun t k => ?_) ?_
                · show Steps p.tables e below (T41.setTop (mkF m 96 #[.val (.ref r0), .val (.int p1)] [])) _
                  refine XS.iconst X41.here hx rfl (hb hby d4_96) ?_
                  show Steps p.tables e below (T41.setTop (mkF m 97 #[.val (.ref r0), .val (.int p1)] [(.int (1 : Int32))])) _
                  refine XS.goto X41.here hx rfl (pc0 := 97) (pc' := 101) rfl (hb hby d4_97) (by decide) (by decide) ?_
                  exact k
                obtain ⟨fs, hr, hrun, hended, hW, hsame⟩ := X41.leave (v := some (.int (1 : Int32))) (fun h => by rw [Bd.returns] at h; cases h)
                refine ⟨_, _, ?_, hrun, hended, _, _, rfl, ?_, ⟨_, rfl⟩, hW, hsame.mono (by decide) (by decide)⟩
                · show Steps p.tables e below (T41.setTop (mkF m 101 #[.val (.ref r0), .val (.int p1)] [(.int (1 : Int32))])) _
                  exact retN X41 hx (t := .boolean) Bd.returns (by simp) (hb hby d4_101) hr
                · show Q4 Z r0 p1 w_LESS w_GREATER_OR_EQUAL w_LESS_OR_EQUAL w_EQUAL w_NOT_EQUAL w_GREATER h0 n0 _ _ _
                  exact ⟨(by rw [mean, if_neg hc27, if_neg hc30, if_neg hc33, if_neg hc36, if_neg hc39, if_pos hc42, if_pos hc43]), N0, e41⟩
              · -- hc43: no
                refine own_go (A' := (T41.setTop (mkF m 100 #[.val (.ref r0), .val (.int p1)] []))) (fun t k => XS.ifYes X41.here hx rfl (pc0 := 93) (pc' := 100) rfl (hb hby d4_93) rfl ((if0 _ _).trans (flt hc43).2.2.2) (by decide) (by decide) k) ?_
                refine own_go (A' := (T41.setTop (mkF m 101 #[.val (.ref r0), .val (.int p1)] [(.int (0 : Int32))]))) (fun t k => ?_) ?_
                · show Steps p.tables e below (T41.setTop (mkF m 100 #[.val (.ref r0), .val (.int p1)] [])) _
                  refine XS.iconst X41.here hx rfl (hb hby d4_100) ?_
                  exact k
                obtain ⟨fs, hr, hrun, hended, hW, hsame⟩ := X41.leave (v := some (.int (0 : Int32))) (fun h => by rw [Bd.returns] at h; cases h)
                refine ⟨_, _, ?_, hrun, hended, _, _, rfl, ?_, ⟨_, rfl⟩, hW, hsame.mono (by decide) (by decide)⟩
                · show Steps p.tables e below (T41.setTop (mkF m 101 #[.val (.ref r0), .val (.int p1)] [(.int (0 : Int32))])) _
                  exact retN X41 hx (t := .boolean) Bd.returns (by simp) (hb hby d4_101) hr
                · show Q4 Z r0 p1 w_LESS w_GREATER_OR_EQUAL w_LESS_OR_EQUAL w_EQUAL w_NOT_EQUAL w_GREATER h0 n0 _ _ _
                  exact ⟨(by rw [mean, if_neg hc27, if_neg hc30, if_neg hc33, if_neg hc36, if_neg hc39, if_pos hc42, if_neg hc43]), N0, e41⟩
            · -- hc42: no
              refine own_go (A' := (T41.setTop (mkF m 102 #[.val (.ref r0), .val (.int p1)] []))) (fun t k => Jvm.RoadKit.acmp (g := (mkF m 89 #[.val (.ref r0), .val (.int p1)] [(.ref w_GREATER), (.ref r0)])) X41 hx rfl rfl rfl (pc0 := 89) (pc' := 102) (same := false) rfl (hb hby d4_89) rfl (decide_eq_false fun q => hc42 (Value.ref.inj q)) (by decide) (by decide) k) ?_
              refine own_go (A' := (T41.setTop (mkF m 103 #[.val (.ref r0), .val (.int p1)] [(.int (0 : Int32))]))) (fun t k => ?_) ?_
              · show Steps p.tables e below (T41.setTop (mkF m 102 #[.val (.ref r0), .val (.int p1)] [])) _
                refine XS.iconst X41.here hx rfl (hb hby d4_102) ?_
                exact k
              obtain ⟨fs, hr, hrun, hended, hW, hsame⟩ := X41.leave (v := some (.int (0 : Int32))) (fun h => by rw [Bd.returns] at h; cases h)
              refine ⟨_, _, ?_, hrun, hended, _, _, rfl, ?_, ⟨_, rfl⟩, hW, hsame.mono (by decide) (by decide)⟩
              · show Steps p.tables e below (T41.setTop (mkF m 103 #[.val (.ref r0), .val (.int p1)] [(.int (0 : Int32))])) _
                exact retN X41 hx (t := .boolean) Bd.returns (by simp) (hb hby d4_103) hr
              · show Q4 Z r0 p1 w_LESS w_GREATER_OR_EQUAL w_LESS_OR_EQUAL w_EQUAL w_NOT_EQUAL w_GREATER h0 n0 _ _ _
                exact ⟨(by rw [mean, if_neg hc27, if_neg hc30, if_neg hc33, if_neg hc36, if_neg hc39, if_neg hc42]), N0, e41⟩
theorem pd_1 : parseMethodDescriptor "(I)Lcom/example/pathwarden/pathwarden/flow/Relation;" = some ⟨[.int], some (.object "com/example/pathwarden/pathwarden/flow/Relation")⟩ := by decide +kernel
theorem pd_2 : parseMethodDescriptor "()Lcom/example/pathwarden/pathwarden/flow/Relation;" = some ⟨[], some (.object "com/example/pathwarden/pathwarden/flow/Relation")⟩ := by decide +kernel
theorem pd_3 : parseMethodDescriptor "(Lcom/example/pathwarden/pathwarden/flow/Relation;I)Z" = some ⟨[(.object "com/example/pathwarden/pathwarden/flow/Relation"), .int], some .boolean⟩ := by decide +kernel
theorem pn_0 : plainName "com/example/pathwarden/pathwarden/flow/RelationNegatedPinLaw" = true := by first | (simp [plainName, overriddenIn]; done) | decide +kernel
theorem ef_0 (m : MethodId) (p0 : Int32) (p1 : Int32) : entryFrame m #[(.int p0), (.int p1)] maxLocals = mkF m 0 #[.val (.int p0), .val (.int p1), .unset, .unset, .unset] [] := by first | (simp [entryFrame, mkF, argsToLocals, Value.category, maxLocals]; done) | rfl
def Q0 (Z : State) (p0 : Int32) (p1 : Int32) (w_LESS : Addr) (w_GREATER_OR_EQUAL : Addr) (w_LESS_OR_EQUAL : Addr) (w_EQUAL : Addr) (w_NOT_EQUAL : Addr) (w_GREATER : Addr) (h0 : Heap) (n0 : Nat) (v : Option Value) (h : Heap) (L : List Loc) : Prop := v = some (.int (1 : Int32)) ∧ Fr n0 L
set_option maxRecDepth 65536 in
set_option maxHeartbeats 40000000 in
theorem rm0 (l : Launch) (Z : State) (a0 : Array Value) (hw : ∀ d ∈ tables_1, d.before a0 Z = true) (ws : List Jvm.Cond) (p0 : Int32) (p1 : Int32) (w_LESS : Addr) (w_GREATER_OR_EQUAL : Addr) (w_LESS_OR_EQUAL : Addr) (w_EQUAL : Addr) (w_NOT_EQUAL : Addr) (w_GREATER : Addr) (h0 : Heap) (n0 : Nat) (Z0 : n0 ≤ h0.size) (S_LESS : Sta Z h0 "com/example/pathwarden/pathwarden/flow/Relation" "LESS" "Lcom/example/pathwarden/pathwarden/flow/Relation;" (.ref w_LESS)) (S_GREATER_OR_EQUAL : Sta Z h0 "com/example/pathwarden/pathwarden/flow/Relation" "GREATER_OR_EQUAL" "Lcom/example/pathwarden/pathwarden/flow/Relation;" (.ref w_GREATER_OR_EQUAL)) (S_LESS_OR_EQUAL : Sta Z h0 "com/example/pathwarden/pathwarden/flow/Relation" "LESS_OR_EQUAL" "Lcom/example/pathwarden/pathwarden/flow/Relation;" (.ref w_LESS_OR_EQUAL)) (S_EQUAL : Sta Z h0 "com/example/pathwarden/pathwarden/flow/Relation" "EQUAL" "Lcom/example/pathwarden/pathwarden/flow/Relation;" (.ref w_EQUAL)) (S_NOT_EQUAL : Sta Z h0 "com/example/pathwarden/pathwarden/flow/Relation" "NOT_EQUAL" "Lcom/example/pathwarden/pathwarden/flow/Relation;" (.ref w_NOT_EQUAL)) (S_GREATER : Sta Z h0 "com/example/pathwarden/pathwarden/flow/Relation" "GREATER" "Lcom/example/pathwarden/pathwarden/flow/Relation;" (.ref w_GREATER)) (E_LESS : Exa Z h0 w_LESS "com/example/pathwarden/pathwarden/flow/Relation") (E_GREATER_OR_EQUAL : Exa Z h0 w_GREATER_OR_EQUAL "com/example/pathwarden/pathwarden/flow/Relation") (E_LESS_OR_EQUAL : Exa Z h0 w_LESS_OR_EQUAL "com/example/pathwarden/pathwarden/flow/Relation") (E_EQUAL : Exa Z h0 w_EQUAL "com/example/pathwarden/pathwarden/flow/Relation") (E_NOT_EQUAL : Exa Z h0 w_NOT_EQUAL "com/example/pathwarden/pathwarden/flow/Relation") (E_GREATER : Exa Z h0 w_GREATER "com/example/pathwarden/pathwarden/flow/Relation") (O_LESS_ordinal : Fld Z h0 w_LESS "java/lang/Enum" "ordinal" "I" (.int (0 : Int32))) (O_GREATER_OR_EQUAL_ordinal : Fld Z h0 w_GREATER_OR_EQUAL "java/lang/Enum" "ordinal" "I" (.int (4 : Int32))) (O_LESS_OR_EQUAL_ordinal : Fld Z h0 w_LESS_OR_EQUAL "java/lang/Enum" "ordinal" "I" (.int (1 : Int32))) (O_EQUAL_ordinal : Fld Z h0 w_EQUAL "java/lang/Enum" "ordinal" "I" (.int (2 : Int32))) (O_NOT_EQUAL_ordinal : Fld Z h0 w_NOT_EQUAL "java/lang/Enum" "ordinal" "I" (.int (3 : Int32))) (O_GREATER_ordinal : Fld Z h0 w_GREATER "java/lang/Enum" "ordinal" "I" (.int (5 : Int32))) :
    MetFree l x (head1 (Jvm.Cond.code x code maxLocals ret :: ws) room_1) (fun a U => a = #[(.int p0), (.int p1)] ∧ Z.Warmed39 U.vm ∧ U.heap = h0) (fun _ _ _ _ _ => True) (fun _ U o U' => ∃ v L, o = .returned v ∧ Q0 Z p0 p1 w_LESS w_GREATER_OR_EQUAL w_LESS_OR_EQUAL w_EQUAL w_NOT_EQUAL w_GREATER h0 n0 v U'.heap L ∧ FrameEnd U o U' L room_1.cells room_1.slots) := by
  refine MetFree.of_bodySF (plainFor_of_name pn_0) hisR ?_
  intro p e s m args below meth c s₁ Bd hml0 hP hK
  obtain ⟨rfl, hZ, hh⟩ := hP
  have hx := Bd.exec
  have hby := Bd.bytes
  have hml : c.maxLocals = 5 := hml0
  have hown : s.vm.findClass "com/example/pathwarden/pathwarden/flow/RelationNegatedPinLaw" = some m.cls := findClass_of_methodNamed Bd.named
  have hnm := (name_of_methodNamed Bd.named Bd.method).1
  have X0 : Stand p l e room_1 s m #[(.int p0), (.int p1)] below meth c s₁ [] 0 0 := Stand.of_body Bd
  have e0 : s₁.heap = h0 := by rw [← hh, Bd.state]; rfl
  have N0 := Fr.nil n0
  refine own_go (A' := (s₁.setTop (mkF m 0 #[.val (.int p0), .val (.int p1), .unset, .unset, .unset] []))) (fun t k => castTop (ef_0 m p0 p1) k) ?_
  obtain ⟨_, _, ⟨T44, L44, k44, n44⟩, -, X44, ⟨Lc44, hQ44, l44, y44, z44⟩, st44⟩ := Jvm.LawKit.callS X0 hx (y := (⟨"com/example/pathwarden/pathwarden/flow/RelationNegatedPinLaw", "pick", "(I)Lcom/example/pathwarden/pathwarden/flow/Relation;"⟩ : MethodName)) hown (mvT hZ (hw _ (List.mem_of_getElem? (i := 1) rfl))) (mvT hZ (hw _ (List.mem_of_getElem? (i := 2) rfl))) (mvT hZ (hw _ (List.mem_of_getElem? (i := 3) rfl))) (mvT hZ (hw _ (List.mem_of_getElem? (i := 4) rfl))) (by decide) (backOf (W := 0) (rm1 l Z a0 hw [] ((p0 &&& (2147483647 : Int32)) % (6 : Int32)) w_LESS w_GREATER_OR_EQUAL w_LESS_OR_EQUAL w_EQUAL w_NOT_EQUAL w_GREATER h0 n0 Z0 S_LESS S_GREATER_OR_EQUAL S_LESS_OR_EQUAL S_EQUAL S_NOT_EQUAL S_GREATER E_LESS E_GREATER_OR_EQUAL E_LESS_OR_EQUAL E_EQUAL E_NOT_EQUAL E_GREATER O_LESS_ordinal O_GREATER_OR_EQUAL_ordinal O_LESS_OR_EQUAL_ordinal O_EQUAL_ordinal O_NOT_EQUAL_ordinal O_GREATER_ordinal) hZ (hw _ (List.mem_of_getElem? (i := 4) rfl)) (hw _ (List.mem_of_getElem? (i := 3) rfl)) (by decide) (by decide)) (g := (mkF m 9 #[.val (.int p0), .val (.int p1), .val (.int ((p0 &&& (2147483647 : Int32)) % (6 : Int32))), .unset, .unset] [(.int ((p0 &&& (2147483647 : Int32)) % (6 : Int32)))])) rfl (by rw [hml]; rfl) (argsL := [(.int ((p0 &&& (2147483647 : Int32)) % (6 : Int32)))]) (rest := []) (lenOf pd_1 rfl) rfl (by show 2 * 0 + _ ≤ _; exact Nat.le_of_eq rfl) (hb hby at_9) (fun _ _ => ⟨rfl, e0, (by decide : 0 + 0 ≤ _), (by decide : 0 + 0 ≤ _)⟩)
  dsimp only [Pt.U, Pt.locs, Pt.cells, Pt.slots] at X44 l44 y44 z44 st44 hQ44
  subst l44 y44 z44
  obtain ⟨rfl, N44q, e44⟩ := hQ44
  have N44 := Fr.app N0 N44q
  obtain ⟨cq45, kq45, q45a, q45b, q45c⟩ := isOf hZ e44 (pk_exa _ E_LESS E_LESS_OR_EQUAL E_EQUAL E_NOT_EQUAL E_GREATER_OR_EQUAL E_GREATER)
  obtain ⟨_, _, ⟨T45, L45, k45, n45⟩, -, X45, ⟨Lc45, hQ45, l45, y45, z45⟩, st45⟩ := X44.virtualBack hx (y := (⟨"com/example/pathwarden/pathwarden/flow/Relation", "negated", "()Lcom/example/pathwarden/pathwarden/flow/Relation;"⟩ : MethodName)) (z := (⟨"com/example/pathwarden/pathwarden/flow/Relation", "negated", "()Lcom/example/pathwarden/pathwarden/flow/Relation;"⟩ : MethodName)) hown (mvT hZ (hw _ (List.mem_of_getElem? (i := 8) rfl))) (mvT hZ (hw _ (List.mem_of_getElem? (i := 9) rfl))) (notFace_of_selects (args := #[]) (mvT hZ (hw _ (List.mem_of_getElem? (i := 11) rfl)))) (mvT hZ (hw _ (List.mem_of_getElem? (i := 11) rfl))) (mvT hZ (hw _ (List.mem_of_getElem? (i := 10) rfl))) (by decide) (backOf (W := 0) (rm2 l Z a0 hw [] (pk w_LESS w_LESS_OR_EQUAL w_EQUAL w_NOT_EQUAL w_GREATER_OR_EQUAL w_GREATER ((p0 &&& (2147483647 : Int32)) % (6 : Int32))) w_LESS w_GREATER_OR_EQUAL w_LESS_OR_EQUAL w_EQUAL w_NOT_EQUAL w_GREATER (pkO ((p0 &&& (2147483647 : Int32)) % (6 : Int32))) h0 n0 Z0 S_LESS S_GREATER_OR_EQUAL S_LESS_OR_EQUAL S_EQUAL S_NOT_EQUAL S_GREATER E_LESS E_GREATER_OR_EQUAL E_LESS_OR_EQUAL E_EQUAL E_NOT_EQUAL E_GREATER O_LESS_ordinal O_GREATER_OR_EQUAL_ordinal O_LESS_OR_EQUAL_ordinal O_EQUAL_ordinal O_NOT_EQUAL_ordinal O_GREATER_ordinal (pk_ord _ O_LESS_ordinal O_LESS_OR_EQUAL_ordinal O_EQUAL_ordinal O_NOT_EQUAL_ordinal O_GREATER_OR_EQUAL_ordinal O_GREATER_ordinal) (pk_exa _ E_LESS E_LESS_OR_EQUAL E_EQUAL E_NOT_EQUAL E_GREATER_OR_EQUAL E_GREATER) (pkO_in _)) hZ (hw _ (List.mem_of_getElem? (i := 12) rfl)) (hw _ (List.mem_of_getElem? (i := 6) rfl)) (by decide) (by decide)) q45a q45c (g := (mkF m 14 #[.val (.int p0), .val (.int p1), .val (.int ((p0 &&& (2147483647 : Int32)) % (6 : Int32))), .val (.ref (pk w_LESS w_LESS_OR_EQUAL w_EQUAL w_NOT_EQUAL w_GREATER_OR_EQUAL w_GREATER ((p0 &&& (2147483647 : Int32)) % (6 : Int32)))), .unset] [(.ref (pk w_LESS w_LESS_OR_EQUAL w_EQUAL w_NOT_EQUAL w_GREATER_OR_EQUAL w_GREATER ((p0 &&& (2147483647 : Int32)) % (6 : Int32))))])) rfl (by rw [hml]; rfl) (Steps.refl _) (argsL := []) (rest := []) (lenOf pd_2 rfl) rfl (by show 2 * 0 + _ ≤ _; exact Nat.le_of_eq rfl) (hb hby at_14) (fun _ _ => ⟨rfl, e44, (by decide : 0 + 0 ≤ _), (by decide : 0 + 0 ≤ _)⟩)
  dsimp only [Pt.U, Pt.locs, Pt.cells, Pt.slots] at X45 l45 y45 z45 st45 hQ45
  subst l45 y45 z45
  obtain ⟨rfl, N45q, e45⟩ := hQ45
  have N45 := Fr.app N44 N45q
  refine own_go (A' := (T45.setTop (mkF m 21 #[.val (.int p0), .val (.int p1), .val (.int ((p0 &&& (2147483647 : Int32)) % (6 : Int32))), .val (.ref (pk w_LESS w_LESS_OR_EQUAL w_EQUAL w_NOT_EQUAL w_GREATER_OR_EQUAL w_GREATER ((p0 &&& (2147483647 : Int32)) % (6 : Int32)))), .val (.ref (ng w_LESS w_LESS_OR_EQUAL w_EQUAL w_NOT_EQUAL w_GREATER_OR_EQUAL w_GREATER (pkO ((p0 &&& (2147483647 : Int32)) % (6 : Int32)))))] [(.ref (ng w_LESS w_LESS_OR_EQUAL w_EQUAL w_NOT_EQUAL w_GREATER_OR_EQUAL w_GREATER (pkO ((p0 &&& (2147483647 : Int32)) % (6 : Int32)))))]))) (fun t k => ?_) ?_
  · show Steps p.tables e below (s₁.setTop (mkF m 0 #[.val (.int p0), .val (.int p1), .unset, .unset, .unset] [])) _
    refine XS.iloadN X0.here hx rfl (hb hby at_0) rfl ?_
    show Steps p.tables e below (s₁.setTop (mkF m 1 #[.val (.int p0), .val (.int p1), .unset, .unset, .unset] [(.int p0)])) _
    refine X0.ldcInt hx hown (mvT hZ (hw _ (List.mem_of_getElem? (i := 0) rfl))) (g := (mkF m 1 #[.val (.int p0), .val (.int p1), .unset, .unset, .unset] [(.int p0)])) rfl (hb hby at_1) _ ?_
    show Steps p.tables e below (s₁.setTop (mkF m 3 #[.val (.int p0), .val (.int p1), .unset, .unset, .unset] [(.int (2147483647 : Int32)), (.int p0)])) _
    refine XS.iand X0.here hx rfl (hb hby at_3) rfl ?_
    show Steps p.tables e below (s₁.setTop (mkF m 4 #[.val (.int p0), .val (.int p1), .unset, .unset, .unset] [(.int (p0 &&& (2147483647 : Int32)))])) _
    refine XS.bipush X0.here hx rfl (hb hby at_4) ?_
    show Steps p.tables e below (s₁.setTop (mkF m 6 #[.val (.int p0), .val (.int p1), .unset, .unset, .unset] [(.int (6 : Int32)), (.int (p0 &&& (2147483647 : Int32)))])) _
    refine iremM X0 hx (g := (mkF m 6 #[.val (.int p0), .val (.int p1), .unset, .unset, .unset] [(.int (6 : Int32)), (.int (p0 &&& (2147483647 : Int32)))])) rfl (hb hby at_6) rfl (by decide) ?_
    show Steps p.tables e below (s₁.setTop (mkF m 7 #[.val (.int p0), .val (.int p1), .unset, .unset, .unset] [(.int ((p0 &&& (2147483647 : Int32)) % (6 : Int32)))])) _
    refine XS.istoreN X0.here hx rfl (hb hby at_7) rfl (l' := #[.val (.int p0), .val (.int p1), .val (.int ((p0 &&& (2147483647 : Int32)) % (6 : Int32))), .unset, .unset]) rfl ?_
    show Steps p.tables e below (s₁.setTop (mkF m 8 #[.val (.int p0), .val (.int p1), .val (.int ((p0 &&& (2147483647 : Int32)) % (6 : Int32))), .unset, .unset] [])) _
    refine XS.iloadN X0.here hx rfl (hb hby at_8) rfl ?_
    show Steps p.tables e below (s₁.setTop (mkF m 9 #[.val (.int p0), .val (.int p1), .val (.int ((p0 &&& (2147483647 : Int32)) % (6 : Int32))), .unset, .unset] [(.int ((p0 &&& (2147483647 : Int32)) % (6 : Int32)))])) _
    refine st44 _ ?_
    show Steps p.tables e below (T44.setTop (mkF m 12 #[.val (.int p0), .val (.int p1), .val (.int ((p0 &&& (2147483647 : Int32)) % (6 : Int32))), .unset, .unset] [(.ref (pk w_LESS w_LESS_OR_EQUAL w_EQUAL w_NOT_EQUAL w_GREATER_OR_EQUAL w_GREATER ((p0 &&& (2147483647 : Int32)) % (6 : Int32))))])) _
    refine XS.astoreN X44.here hx rfl (hb hby at_12) rfl rfl (l' := #[.val (.int p0), .val (.int p1), .val (.int ((p0 &&& (2147483647 : Int32)) % (6 : Int32))), .val (.ref (pk w_LESS w_LESS_OR_EQUAL w_EQUAL w_NOT_EQUAL w_GREATER_OR_EQUAL w_GREATER ((p0 &&& (2147483647 : Int32)) % (6 : Int32)))), .unset]) rfl ?_
    show Steps p.tables e below (T44.setTop (mkF m 13 #[.val (.int p0), .val (.int p1), .val (.int ((p0 &&& (2147483647 : Int32)) % (6 : Int32))), .val (.ref (pk w_LESS w_LESS_OR_EQUAL w_EQUAL w_NOT_EQUAL w_GREATER_OR_EQUAL w_GREATER ((p0 &&& (2147483647 : Int32)) % (6 : Int32)))), .unset] [])) _
    refine XS.aloadN X44.here hx rfl (hb hby at_13) rfl rfl ?_
    show Steps p.tables e below (T44.setTop (mkF m 14 #[.val (.int p0), .val (.int p1), .val (.int ((p0 &&& (2147483647 : Int32)) % (6 : Int32))), .val (.ref (pk w_LESS w_LESS_OR_EQUAL w_EQUAL w_NOT_EQUAL w_GREATER_OR_EQUAL w_GREATER ((p0 &&& (2147483647 : Int32)) % (6 : Int32)))), .unset] [(.ref (pk w_LESS w_LESS_OR_EQUAL w_EQUAL w_NOT_EQUAL w_GREATER_OR_EQUAL w_GREATER ((p0 &&& (2147483647 : Int32)) % (6 : Int32))))])) _
    refine st45.trans ?_
    show Steps p.tables e below (T45.setTop (mkF m 17 #[.val (.int p0), .val (.int p1), .val (.int ((p0 &&& (2147483647 : Int32)) % (6 : Int32))), .val (.ref (pk w_LESS w_LESS_OR_EQUAL w_EQUAL w_NOT_EQUAL w_GREATER_OR_EQUAL w_GREATER ((p0 &&& (2147483647 : Int32)) % (6 : Int32)))), .unset] [(.ref (ng w_LESS w_LESS_OR_EQUAL w_EQUAL w_NOT_EQUAL w_GREATER_OR_EQUAL w_GREATER (pkO ((p0 &&& (2147483647 : Int32)) % (6 : Int32)))))])) _
    refine XS.astore X45.here hx rfl (hb hby at_17) rfl rfl (l' := #[.val (.int p0), .val (.int p1), .val (.int ((p0 &&& (2147483647 : Int32)) % (6 : Int32))), .val (.ref (pk w_LESS w_LESS_OR_EQUAL w_EQUAL w_NOT_EQUAL w_GREATER_OR_EQUAL w_GREATER ((p0 &&& (2147483647 : Int32)) % (6 : Int32)))), .val (.ref (ng w_LESS w_LESS_OR_EQUAL w_EQUAL w_NOT_EQUAL w_GREATER_OR_EQUAL w_GREATER (pkO ((p0 &&& (2147483647 : Int32)) % (6 : Int32)))))]) rfl ?_
    show Steps p.tables e below (T45.setTop (mkF m 19 #[.val (.int p0), .val (.int p1), .val (.int ((p0 &&& (2147483647 : Int32)) % (6 : Int32))), .val (.ref (pk w_LESS w_LESS_OR_EQUAL w_EQUAL w_NOT_EQUAL w_GREATER_OR_EQUAL w_GREATER ((p0 &&& (2147483647 : Int32)) % (6 : Int32)))), .val (.ref (ng w_LESS w_LESS_OR_EQUAL w_EQUAL w_NOT_EQUAL w_GREATER_OR_EQUAL w_GREATER (pkO ((p0 &&& (2147483647 : Int32)) % (6 : Int32)))))] [])) _
    refine XS.aload X45.here hx rfl (hb hby at_19) rfl rfl ?_
    exact k
  refine own_go (A' := (T45.setTop (mkF m 26 #[.val (.int p0), .val (.int p1), .val (.int ((p0 &&& (2147483647 : Int32)) % (6 : Int32))), .val (.ref (pk w_LESS w_LESS_OR_EQUAL w_EQUAL w_NOT_EQUAL w_GREATER_OR_EQUAL w_GREATER ((p0 &&& (2147483647 : Int32)) % (6 : Int32)))), .val (.ref (ng w_LESS w_LESS_OR_EQUAL w_EQUAL w_NOT_EQUAL w_GREATER_OR_EQUAL w_GREATER (pkO ((p0 &&& (2147483647 : Int32)) % (6 : Int32)))))] []))) (fun t k => XS.ifnonnullYes X45.here hx rfl (pc0 := 21) (pc' := 26) rfl (hb hby at_21) rfl (by decide) (by decide) k) ?_
  obtain ⟨_, _, ⟨T46, L46, k46, n46⟩, -, X46, ⟨Lc46, hQ46, l46, y46, z46⟩, st46⟩ := Jvm.LawKit.callS X45 hx (y := (⟨"com/example/pathwarden/pathwarden/flow/RelationNegatedPinLaw", "meaning", "(Lcom/example/pathwarden/pathwarden/flow/Relation;I)Z"⟩ : MethodName)) hown (mvT hZ (hw _ (List.mem_of_getElem? (i := 24) rfl))) (mvT hZ (hw _ (List.mem_of_getElem? (i := 25) rfl))) (mvT hZ (hw _ (List.mem_of_getElem? (i := 3) rfl))) (mvT hZ (hw _ (List.mem_of_getElem? (i := 26) rfl))) (by decide) (backOf (W := 0) (rm4 l Z a0 hw [] (ng w_LESS w_LESS_OR_EQUAL w_EQUAL w_NOT_EQUAL w_GREATER_OR_EQUAL w_GREATER (pkO ((p0 &&& (2147483647 : Int32)) % (6 : Int32)))) p1 w_LESS w_GREATER_OR_EQUAL w_LESS_OR_EQUAL w_EQUAL w_NOT_EQUAL w_GREATER h0 n0 Z0 S_LESS S_GREATER_OR_EQUAL S_LESS_OR_EQUAL S_EQUAL S_NOT_EQUAL S_GREATER E_LESS E_GREATER_OR_EQUAL E_LESS_OR_EQUAL E_EQUAL E_NOT_EQUAL E_GREATER O_LESS_ordinal O_GREATER_OR_EQUAL_ordinal O_LESS_OR_EQUAL_ordinal O_EQUAL_ordinal O_NOT_EQUAL_ordinal O_GREATER_ordinal) hZ (hw _ (List.mem_of_getElem? (i := 26) rfl)) (hw _ (List.mem_of_getElem? (i := 3) rfl)) (by decide) (by decide)) (g := (mkF m 29 #[.val (.int p0), .val (.int p1), .val (.int ((p0 &&& (2147483647 : Int32)) % (6 : Int32))), .val (.ref (pk w_LESS w_LESS_OR_EQUAL w_EQUAL w_NOT_EQUAL w_GREATER_OR_EQUAL w_GREATER ((p0 &&& (2147483647 : Int32)) % (6 : Int32)))), .val (.ref (ng w_LESS w_LESS_OR_EQUAL w_EQUAL w_NOT_EQUAL w_GREATER_OR_EQUAL w_GREATER (pkO ((p0 &&& (2147483647 : Int32)) % (6 : Int32)))))] [(.int p1), (.ref (ng w_LESS w_LESS_OR_EQUAL w_EQUAL w_NOT_EQUAL w_GREATER_OR_EQUAL w_GREATER (pkO ((p0 &&& (2147483647 : Int32)) % (6 : Int32)))))])) rfl (by rw [hml]; rfl) (argsL := [(.ref (ng w_LESS w_LESS_OR_EQUAL w_EQUAL w_NOT_EQUAL w_GREATER_OR_EQUAL w_GREATER (pkO ((p0 &&& (2147483647 : Int32)) % (6 : Int32))))), (.int p1)]) (rest := []) (lenOf pd_3 rfl) rfl (by show 2 * 0 + _ ≤ _; exact Nat.le_of_eq rfl) (hb hby at_29) (fun _ _ => ⟨rfl, e45, (by decide : 0 + 0 ≤ _), (by decide : 0 + 0 ≤ _)⟩)
  dsimp only [Pt.U, Pt.locs, Pt.cells, Pt.slots] at X46 l46 y46 z46 st46 hQ46
  subst l46 y46 z46
  obtain ⟨rfl, N46q, e46⟩ := hQ46
  have N46 := Fr.app N45 N46q
  obtain ⟨_, _, ⟨T47, L47, k47, n47⟩, -, X47, ⟨Lc47, hQ47, l47, y47, z47⟩, st47⟩ := Jvm.LawKit.callS X46 hx (y := (⟨"com/example/pathwarden/pathwarden/flow/RelationNegatedPinLaw", "meaning", "(Lcom/example/pathwarden/pathwarden/flow/Relation;I)Z"⟩ : MethodName)) hown (mvT hZ (hw _ (List.mem_of_getElem? (i := 24) rfl))) (mvT hZ (hw _ (List.mem_of_getElem? (i := 25) rfl))) (mvT hZ (hw _ (List.mem_of_getElem? (i := 3) rfl))) (mvT hZ (hw _ (List.mem_of_getElem? (i := 26) rfl))) (by decide) (backOf (W := 1) (rm4 l Z a0 hw [] (pk w_LESS w_LESS_OR_EQUAL w_EQUAL w_NOT_EQUAL w_GREATER_OR_EQUAL w_GREATER ((p0 &&& (2147483647 : Int32)) % (6 : Int32))) p1 w_LESS w_GREATER_OR_EQUAL w_LESS_OR_EQUAL w_EQUAL w_NOT_EQUAL w_GREATER h0 n0 Z0 S_LESS S_GREATER_OR_EQUAL S_LESS_OR_EQUAL S_EQUAL S_NOT_EQUAL S_GREATER E_LESS E_GREATER_OR_EQUAL E_LESS_OR_EQUAL E_EQUAL E_NOT_EQUAL E_GREATER O_LESS_ordinal O_GREATER_OR_EQUAL_ordinal O_LESS_OR_EQUAL_ordinal O_EQUAL_ordinal O_NOT_EQUAL_ordinal O_GREATER_ordinal) hZ (hw _ (List.mem_of_getElem? (i := 26) rfl)) (hw _ (List.mem_of_getElem? (i := 3) rfl)) (by decide) (by decide)) (g := (mkF m 34 #[.val (.int p0), .val (.int p1), .val (.int ((p0 &&& (2147483647 : Int32)) % (6 : Int32))), .val (.ref (pk w_LESS w_LESS_OR_EQUAL w_EQUAL w_NOT_EQUAL w_GREATER_OR_EQUAL w_GREATER ((p0 &&& (2147483647 : Int32)) % (6 : Int32)))), .val (.ref (ng w_LESS w_LESS_OR_EQUAL w_EQUAL w_NOT_EQUAL w_GREATER_OR_EQUAL w_GREATER (pkO ((p0 &&& (2147483647 : Int32)) % (6 : Int32)))))] [(.int p1), (.ref (pk w_LESS w_LESS_OR_EQUAL w_EQUAL w_NOT_EQUAL w_GREATER_OR_EQUAL w_GREATER ((p0 &&& (2147483647 : Int32)) % (6 : Int32)))), (.int (mean w_LESS w_LESS_OR_EQUAL w_EQUAL w_NOT_EQUAL w_GREATER_OR_EQUAL w_GREATER (ng w_LESS w_LESS_OR_EQUAL w_EQUAL w_NOT_EQUAL w_GREATER_OR_EQUAL w_GREATER (pkO ((p0 &&& (2147483647 : Int32)) % (6 : Int32)))) p1))])) rfl (by rw [hml]; rfl) (argsL := [(.ref (pk w_LESS w_LESS_OR_EQUAL w_EQUAL w_NOT_EQUAL w_GREATER_OR_EQUAL w_GREATER ((p0 &&& (2147483647 : Int32)) % (6 : Int32)))), (.int p1)]) (rest := [(.int (mean w_LESS w_LESS_OR_EQUAL w_EQUAL w_NOT_EQUAL w_GREATER_OR_EQUAL w_GREATER (ng w_LESS w_LESS_OR_EQUAL w_EQUAL w_NOT_EQUAL w_GREATER_OR_EQUAL w_GREATER (pkO ((p0 &&& (2147483647 : Int32)) % (6 : Int32)))) p1))]) (lenOf pd_3 rfl) rfl (by show 2 * 0 + _ ≤ _; exact Nat.le_of_eq rfl) (hb hby at_34) (fun _ _ => ⟨rfl, e46, (by decide : 0 + 0 ≤ _), (by decide : 0 + 0 ≤ _)⟩)
  dsimp only [Pt.U, Pt.locs, Pt.cells, Pt.slots] at X47 l47 y47 z47 st47 hQ47
  subst l47 y47 z47
  obtain ⟨rfl, N47q, e47⟩ := hQ47
  have N47 := Fr.app N46 N47q
  refine own_go (A' := (T47.setTop (mkF m 37 #[.val (.int p0), .val (.int p1), .val (.int ((p0 &&& (2147483647 : Int32)) % (6 : Int32))), .val (.ref (pk w_LESS w_LESS_OR_EQUAL w_EQUAL w_NOT_EQUAL w_GREATER_OR_EQUAL w_GREATER ((p0 &&& (2147483647 : Int32)) % (6 : Int32)))), .val (.ref (ng w_LESS w_LESS_OR_EQUAL w_EQUAL w_NOT_EQUAL w_GREATER_OR_EQUAL w_GREATER (pkO ((p0 &&& (2147483647 : Int32)) % (6 : Int32)))))] [(.int (mean w_LESS w_LESS_OR_EQUAL w_EQUAL w_NOT_EQUAL w_GREATER_OR_EQUAL w_GREATER (pk w_LESS w_LESS_OR_EQUAL w_EQUAL w_NOT_EQUAL w_GREATER_OR_EQUAL w_GREATER ((p0 &&& (2147483647 : Int32)) % (6 : Int32))) p1)), (.int (mean w_LESS w_LESS_OR_EQUAL w_EQUAL w_NOT_EQUAL w_GREATER_OR_EQUAL w_GREATER (ng w_LESS w_LESS_OR_EQUAL w_EQUAL w_NOT_EQUAL w_GREATER_OR_EQUAL w_GREATER (pkO ((p0 &&& (2147483647 : Int32)) % (6 : Int32)))) p1))]))) (fun t k => ?_) ?_
  · show Steps p.tables e below (T45.setTop (mkF m 26 #[.val (.int p0), .val (.int p1), .val (.int ((p0 &&& (2147483647 : Int32)) % (6 : Int32))), .val (.ref (pk w_LESS w_LESS_OR_EQUAL w_EQUAL w_NOT_EQUAL w_GREATER_OR_EQUAL w_GREATER ((p0 &&& (2147483647 : Int32)) % (6 : Int32)))), .val (.ref (ng w_LESS w_LESS_OR_EQUAL w_EQUAL w_NOT_EQUAL w_GREATER_OR_EQUAL w_GREATER (pkO ((p0 &&& (2147483647 : Int32)) % (6 : Int32)))))] [])) _
    refine XS.aload X45.here hx rfl (hb hby at_26) rfl rfl ?_
    show Steps p.tables e below (T45.setTop (mkF m 28 #[.val (.int p0), .val (.int p1), .val (.int ((p0 &&& (2147483647 : Int32)) % (6 : Int32))), .val (.ref (pk w_LESS w_LESS_OR_EQUAL w_EQUAL w_NOT_EQUAL w_GREATER_OR_EQUAL w_GREATER ((p0 &&& (2147483647 : Int32)) % (6 : Int32)))), .val (.ref (ng w_LESS w_LESS_OR_EQUAL w_EQUAL w_NOT_EQUAL w_GREATER_OR_EQUAL w_GREATER (pkO ((p0 &&& (2147483647 : Int32)) % (6 : Int32)))))] [(.ref (ng w_LESS w_LESS_OR_EQUAL w_EQUAL w_NOT_EQUAL w_GREATER_OR_EQUAL w_GREATER (pkO ((p0 &&& (2147483647 : Int32)) % (6 : Int32)))))])) _
    refine XS.iloadN X45.here hx rfl (hb hby at_28) rfl ?_
    show Steps p.tables e below (T45.setTop (mkF m 29 #[.val (.int p0), .val (.int p1), .val (.int ((p0 &&& (2147483647 : Int32)) % (6 : Int32))), .val (.ref (pk w_LESS w_LESS_OR_EQUAL w_EQUAL w_NOT_EQUAL w_GREATER_OR_EQUAL w_GREATER ((p0 &&& (2147483647 : Int32)) % (6 : Int32)))), .val (.ref (ng w_LESS w_LESS_OR_EQUAL w_EQUAL w_NOT_EQUAL w_GREATER_OR_EQUAL w_GREATER (pkO ((p0 &&& (2147483647 : Int32)) % (6 : Int32)))))] [(.int p1), (.ref (ng w_LESS w_LESS_OR_EQUAL w_EQUAL w_NOT_EQUAL w_GREATER_OR_EQUAL w_GREATER (pkO ((p0 &&& (2147483647 : Int32)) % (6 : Int32)))))])) _
    refine st46 _ ?_
    show Steps p.tables e below (T46.setTop (mkF m 32 #[.val (.int p0), .val (.int p1), .val (.int ((p0 &&& (2147483647 : Int32)) % (6 : Int32))), .val (.ref (pk w_LESS w_LESS_OR_EQUAL w_EQUAL w_NOT_EQUAL w_GREATER_OR_EQUAL w_GREATER ((p0 &&& (2147483647 : Int32)) % (6 : Int32)))), .val (.ref (ng w_LESS w_LESS_OR_EQUAL w_EQUAL w_NOT_EQUAL w_GREATER_OR_EQUAL w_GREATER (pkO ((p0 &&& (2147483647 : Int32)) % (6 : Int32)))))] [(.int (mean w_LESS w_LESS_OR_EQUAL w_EQUAL w_NOT_EQUAL w_GREATER_OR_EQUAL w_GREATER (ng w_LESS w_LESS_OR_EQUAL w_EQUAL w_NOT_EQUAL w_GREATER_OR_EQUAL w_GREATER (pkO ((p0 &&& (2147483647 : Int32)) % (6 : Int32)))) p1))])) _
    refine XS.aloadN X46.here hx rfl (hb hby at_32) rfl rfl ?_
    show Steps p.tables e below (T46.setTop (mkF m 33 #[.val (.int p0), .val (.int p1), .val (.int ((p0 &&& (2147483647 : Int32)) % (6 : Int32))), .val (.ref (pk w_LESS w_LESS_OR_EQUAL w_EQUAL w_NOT_EQUAL w_GREATER_OR_EQUAL w_GREATER ((p0 &&& (2147483647 : Int32)) % (6 : Int32)))), .val (.ref (ng w_LESS w_LESS_OR_EQUAL w_EQUAL w_NOT_EQUAL w_GREATER_OR_EQUAL w_GREATER (pkO ((p0 &&& (2147483647 : Int32)) % (6 : Int32)))))] [(.ref (pk w_LESS w_LESS_OR_EQUAL w_EQUAL w_NOT_EQUAL w_GREATER_OR_EQUAL w_GREATER ((p0 &&& (2147483647 : Int32)) % (6 : Int32)))), (.int (mean w_LESS w_LESS_OR_EQUAL w_EQUAL w_NOT_EQUAL w_GREATER_OR_EQUAL w_GREATER (ng w_LESS w_LESS_OR_EQUAL w_EQUAL w_NOT_EQUAL w_GREATER_OR_EQUAL w_GREATER (pkO ((p0 &&& (2147483647 : Int32)) % (6 : Int32)))) p1))])) _
    refine XS.iloadN X46.here hx rfl (hb hby at_33) rfl ?_
    show Steps p.tables e below (T46.setTop (mkF m 34 #[.val (.int p0), .val (.int p1), .val (.int ((p0 &&& (2147483647 : Int32)) % (6 : Int32))), .val (.ref (pk w_LESS w_LESS_OR_EQUAL w_EQUAL w_NOT_EQUAL w_GREATER_OR_EQUAL w_GREATER ((p0 &&& (2147483647 : Int32)) % (6 : Int32)))), .val (.ref (ng w_LESS w_LESS_OR_EQUAL w_EQUAL w_NOT_EQUAL w_GREATER_OR_EQUAL w_GREATER (pkO ((p0 &&& (2147483647 : Int32)) % (6 : Int32)))))] [(.int p1), (.ref (pk w_LESS w_LESS_OR_EQUAL w_EQUAL w_NOT_EQUAL w_GREATER_OR_EQUAL w_GREATER ((p0 &&& (2147483647 : Int32)) % (6 : Int32)))), (.int (mean w_LESS w_LESS_OR_EQUAL w_EQUAL w_NOT_EQUAL w_GREATER_OR_EQUAL w_GREATER (ng w_LESS w_LESS_OR_EQUAL w_EQUAL w_NOT_EQUAL w_GREATER_OR_EQUAL w_GREATER (pkO ((p0 &&& (2147483647 : Int32)) % (6 : Int32)))) p1))])) _
    refine st47 _ ?_
    exact k
  by_cases hc48 : (mean w_LESS w_LESS_OR_EQUAL w_EQUAL w_NOT_EQUAL w_GREATER_OR_EQUAL w_GREATER (pk w_LESS w_LESS_OR_EQUAL w_EQUAL w_NOT_EQUAL w_GREATER_OR_EQUAL w_GREATER ((p0 &&& (2147483647 : Int32)) % (6 : Int32))) p1) = (0 : Int32)
  · -- hc48: yes
    refine own_go (A' := (T47.setTop (mkF m 40 #[.val (.int p0), .val (.int p1), .val (.int ((p0 &&& (2147483647 : Int32)) % (6 : Int32))), .val (.ref (pk w_LESS w_LESS_OR_EQUAL w_EQUAL w_NOT_EQUAL w_GREATER_OR_EQUAL w_GREATER ((p0 &&& (2147483647 : Int32)) % (6 : Int32)))), .val (.ref (ng w_LESS w_LESS_OR_EQUAL w_EQUAL w_NOT_EQUAL w_GREATER_OR_EQUAL w_GREATER (pkO ((p0 &&& (2147483647 : Int32)) % (6 : Int32)))))] [(.int (mean w_LESS w_LESS_OR_EQUAL w_EQUAL w_NOT_EQUAL w_GREATER_OR_EQUAL w_GREATER (ng w_LESS w_LESS_OR_EQUAL w_EQUAL w_NOT_EQUAL w_GREATER_OR_EQUAL w_GREATER (pkO ((p0 &&& (2147483647 : Int32)) % (6 : Int32)))) p1))]))) (fun t k => XS.ifNo X47.here hx rfl (hb hby at_37) rfl ((if0 _ _).trans (teq hc48).2) k) ?_
    refine own_go (A' := (T47.setTop (mkF m 45 #[.val (.int p0), .val (.int p1), .val (.int ((p0 &&& (2147483647 : Int32)) % (6 : Int32))), .val (.ref (pk w_LESS w_LESS_OR_EQUAL w_EQUAL w_NOT_EQUAL w_GREATER_OR_EQUAL w_GREATER ((p0 &&& (2147483647 : Int32)) % (6 : Int32)))), .val (.ref (ng w_LESS w_LESS_OR_EQUAL w_EQUAL w_NOT_EQUAL w_GREATER_OR_EQUAL w_GREATER (pkO ((p0 &&& (2147483647 : Int32)) % (6 : Int32)))))] [(.int (1 : Int32)), (.int (mean w_LESS w_LESS_OR_EQUAL w_EQUAL w_NOT_EQUAL w_GREATER_OR_EQUAL w_GREATER (ng w_LESS w_LESS_OR_EQUAL w_EQUAL w_NOT_EQUAL w_GREATER_OR_EQUAL w_GREATER (pkO ((p0 &&& (2147483647 : Int32)) % (6 : Int32)))) p1))]))) (fun t k => ?_) ?_
    · show Steps p.tables e below (T47.setTop (mkF m 40 #[.val (.int p0), .val (.int p1), .val (.int ((p0 &&& (2147483647 : Int32)) % (6 : Int32))), .val (.ref (pk w_LESS w_LESS_OR_EQUAL w_EQUAL w_NOT_EQUAL w_GREATER_OR_EQUAL w_GREATER ((p0 &&& (2147483647 : Int32)) % (6 : Int32)))), .val (.ref (ng w_LESS w_LESS_OR_EQUAL w_EQUAL w_NOT_EQUAL w_GREATER_OR_EQUAL w_GREATER (pkO ((p0 &&& (2147483647 : Int32)) % (6 : Int32)))))] [(.int (mean w_LESS w_LESS_OR_EQUAL w_EQUAL w_NOT_EQUAL w_GREATER_OR_EQUAL w_GREATER (ng w_LESS w_LESS_OR_EQUAL w_EQUAL w_NOT_EQUAL w_GREATER_OR_EQUAL w_GREATER (pkO ((p0 &&& (2147483647 : Int32)) % (6 : Int32)))) p1))])) _
      refine XS.iconst X47.here hx rfl (hb hby at_40) ?_
      show Steps p.tables e below (T47.setTop (mkF m 41 #[.val (.int p0), .val (.int p1), .val (.int ((p0 &&& (2147483647 : Int32)) % (6 : Int32))), .val (.ref (pk w_LESS w_LESS_OR_EQUAL w_EQUAL w_NOT_EQUAL w_GREATER_OR_EQUAL w_GREATER ((p0 &&& (2147483647 : Int32)) % (6 : Int32)))), .val (.ref (ng w_LESS w_LESS_OR_EQUAL w_EQUAL w_NOT_EQUAL w_GREATER_OR_EQUAL w_GREATER (pkO ((p0 &&& (2147483647 : Int32)) % (6 : Int32)))))] [(.int (1 : Int32)), (.int (mean w_LESS w_LESS_OR_EQUAL w_EQUAL w_NOT_EQUAL w_GREATER_OR_EQUAL w_GREATER (ng w_LESS w_LESS_OR_EQUAL w_EQUAL w_NOT_EQUAL w_GREATER_OR_EQUAL w_GREATER (pkO ((p0 &&& (2147483647 : Int32)) % (6 : Int32)))) p1))])) _
      refine XS.goto X47.here hx rfl (pc0 := 41) (pc' := 45) rfl (hb hby at_41) (by decide) (by decide) ?_
      exact k
    refine own_go (A' := (T47.setTop (mkF m 48 #[.val (.int p0), .val (.int p1), .val (.int ((p0 &&& (2147483647 : Int32)) % (6 : Int32))), .val (.ref (pk w_LESS w_LESS_OR_EQUAL w_EQUAL w_NOT_EQUAL w_GREATER_OR_EQUAL w_GREATER ((p0 &&& (2147483647 : Int32)) % (6 : Int32)))), .val (.ref (ng w_LESS w_LESS_OR_EQUAL w_EQUAL w_NOT_EQUAL w_GREATER_OR_EQUAL w_GREATER (pkO ((p0 &&& (2147483647 : Int32)) % (6 : Int32)))))] []))) (fun t k => XS.icmpNo X47.here hx rfl (hb hby at_45) rfl (teq (by rw [own_key (own_fld_ne O_LESS_ordinal O_LESS_OR_EQUAL_ordinal (by decide)) (own_fld_ne O_LESS_ordinal O_EQUAL_ordinal (by decide)) (own_fld_ne O_LESS_ordinal O_NOT_EQUAL_ordinal (by decide)) (own_fld_ne O_LESS_ordinal O_GREATER_OR_EQUAL_ordinal (by decide)) (own_fld_ne O_LESS_ordinal O_GREATER_ordinal (by decide)) (own_fld_ne O_LESS_OR_EQUAL_ordinal O_LESS_ordinal (by decide)) (own_fld_ne O_LESS_OR_EQUAL_ordinal O_EQUAL_ordinal (by decide)) (own_fld_ne O_LESS_OR_EQUAL_ordinal O_NOT_EQUAL_ordinal (by decide)) (own_fld_ne O_LESS_OR_EQUAL_ordinal O_GREATER_OR_EQUAL_ordinal (by decide)) (own_fld_ne O_LESS_OR_EQUAL_ordinal O_GREATER_ordinal (by decide)) (own_fld_ne O_EQUAL_ordinal O_LESS_ordinal (by decide)) (own_fld_ne O_EQUAL_ordinal O_LESS_OR_EQUAL_ordinal (by decide)) (own_fld_ne O_EQUAL_ordinal O_NOT_EQUAL_ordinal (by decide)) (own_fld_ne O_EQUAL_ordinal O_GREATER_OR_EQUAL_ordinal (by decide)) (own_fld_ne O_EQUAL_ordinal O_GREATER_ordinal (by decide)) (own_fld_ne O_NOT_EQUAL_ordinal O_LESS_ordinal (by decide)) (own_fld_ne O_NOT_EQUAL_ordinal O_LESS_OR_EQUAL_ordinal (by decide)) (own_fld_ne O_NOT_EQUAL_ordinal O_EQUAL_ordinal (by decide)) (own_fld_ne O_NOT_EQUAL_ordinal O_GREATER_OR_EQUAL_ordinal (by decide)) (own_fld_ne O_NOT_EQUAL_ordinal O_GREATER_ordinal (by decide)) (own_fld_ne O_GREATER_OR_EQUAL_ordinal O_LESS_ordinal (by decide)) (own_fld_ne O_GREATER_OR_EQUAL_ordinal O_LESS_OR_EQUAL_ordinal (by decide)) (own_fld_ne O_GREATER_OR_EQUAL_ordinal O_EQUAL_ordinal (by decide)) (own_fld_ne O_GREATER_OR_EQUAL_ordinal O_NOT_EQUAL_ordinal (by decide)) (own_fld_ne O_GREATER_OR_EQUAL_ordinal O_GREATER_ordinal (by decide)) (own_fld_ne O_GREATER_ordinal O_LESS_ordinal (by decide)) (own_fld_ne O_GREATER_ordinal O_LESS_OR_EQUAL_ordinal (by decide)) (own_fld_ne O_GREATER_ordinal O_EQUAL_ordinal (by decide)) (own_fld_ne O_GREATER_ordinal O_NOT_EQUAL_ordinal (by decide)) (own_fld_ne O_GREATER_ordinal O_GREATER_OR_EQUAL_ordinal (by decide)), if_pos hc48])).2 k) ?_
    refine own_go (A' := (T47.setTop (mkF m 53 #[.val (.int p0), .val (.int p1), .val (.int ((p0 &&& (2147483647 : Int32)) % (6 : Int32))), .val (.ref (pk w_LESS w_LESS_OR_EQUAL w_EQUAL w_NOT_EQUAL w_GREATER_OR_EQUAL w_GREATER ((p0 &&& (2147483647 : Int32)) % (6 : Int32)))), .val (.ref (ng w_LESS w_LESS_OR_EQUAL w_EQUAL w_NOT_EQUAL w_GREATER_OR_EQUAL w_GREATER (pkO ((p0 &&& (2147483647 : Int32)) % (6 : Int32)))))] [(.int (1 : Int32))]))) (fun t k => ?_) ?_
    · show Steps p.tables e below (T47.setTop (mkF m 48 #[.val (.int p0), .val (.int p1), .val (.int ((p0 &&& (2147483647 : Int32)) % (6 : Int32))), .val (.ref (pk w_LESS w_LESS_OR_EQUAL w_EQUAL w_NOT_EQUAL w_GREATER_OR_EQUAL w_GREATER ((p0 &&& (2147483647 : Int32)) % (6 : Int32)))), .val (.ref (ng w_LESS w_LESS_OR_EQUAL w_EQUAL w_NOT_EQUAL w_GREATER_OR_EQUAL w_GREATER (pkO ((p0 &&& (2147483647 : Int32)) % (6 : Int32)))))] [])) _
      refine XS.iconst X47.here hx rfl (hb hby at_48) ?_
      show Steps p.tables e below (T47.setTop (mkF m 49 #[.val (.int p0), .val (.int p1), .val (.int ((p0 &&& (2147483647 : Int32)) % (6 : Int32))), .val (.ref (pk w_LESS w_LESS_OR_EQUAL w_EQUAL w_NOT_EQUAL w_GREATER_OR_EQUAL w_GREATER ((p0 &&& (2147483647 : Int32)) % (6 : Int32)))), .val (.ref (ng w_LESS w_LESS_OR_EQUAL w_EQUAL w_NOT_EQUAL w_GREATER_OR_EQUAL w_GREATER (pkO ((p0 &&& (2147483647 : Int32)) % (6 : Int32)))))] [(.int (1 : Int32))])) _
      refine XS.goto X47.here hx rfl (pc0 := 49) (pc' := 53) rfl (hb hby at_49) (by decide) (by decide) ?_
      exact k
    obtain ⟨fs, hr, hrun, hended, hW, hsame⟩ := X47.leave (v := some (.int (1 : Int32))) (fun h => by rw [Bd.returns] at h; cases h)
    refine ⟨_, _, ?_, hrun, hended, _, _, rfl, ?_, ⟨_, rfl⟩, hW, hsame.mono (by decide) (by decide)⟩
    · show Steps p.tables e below (T47.setTop (mkF m 53 #[.val (.int p0), .val (.int p1), .val (.int ((p0 &&& (2147483647 : Int32)) % (6 : Int32))), .val (.ref (pk w_LESS w_LESS_OR_EQUAL w_EQUAL w_NOT_EQUAL w_GREATER_OR_EQUAL w_GREATER ((p0 &&& (2147483647 : Int32)) % (6 : Int32)))), .val (.ref (ng w_LESS w_LESS_OR_EQUAL w_EQUAL w_NOT_EQUAL w_GREATER_OR_EQUAL w_GREATER (pkO ((p0 &&& (2147483647 : Int32)) % (6 : Int32)))))] [(.int (1 : Int32))])) _
      exact retN X47 hx (t := .boolean) Bd.returns (by simp) (hb hby at_53) hr
    · show Q0 Z p0 p1 w_LESS w_GREATER_OR_EQUAL w_LESS_OR_EQUAL w_EQUAL w_NOT_EQUAL w_GREATER h0 n0 _ _ _
      exact ⟨rfl, N47⟩
  · -- hc48: no
    refine own_go (A' := (T47.setTop (mkF m 44 #[.val (.int p0), .val (.int p1), .val (.int ((p0 &&& (2147483647 : Int32)) % (6 : Int32))), .val (.ref (pk w_LESS w_LESS_OR_EQUAL w_EQUAL w_NOT_EQUAL w_GREATER_OR_EQUAL w_GREATER ((p0 &&& (2147483647 : Int32)) % (6 : Int32)))), .val (.ref (ng w_LESS w_LESS_OR_EQUAL w_EQUAL w_NOT_EQUAL w_GREATER_OR_EQUAL w_GREATER (pkO ((p0 &&& (2147483647 : Int32)) % (6 : Int32)))))] [(.int (mean w_LESS w_LESS_OR_EQUAL w_EQUAL w_NOT_EQUAL w_GREATER_OR_EQUAL w_GREATER (ng w_LESS w_LESS_OR_EQUAL w_EQUAL w_NOT_EQUAL w_GREATER_OR_EQUAL w_GREATER (pkO ((p0 &&& (2147483647 : Int32)) % (6 : Int32)))) p1))]))) (fun t k => XS.ifYes X47.here hx rfl (pc0 := 37) (pc' := 44) rfl (hb hby at_37) rfl ((if0 _ _).trans (feq hc48).2) (by decide) (by decide) k) ?_
    refine own_go (A' := (T47.setTop (mkF m 45 #[.val (.int p0), .val (.int p1), .val (.int ((p0 &&& (2147483647 : Int32)) % (6 : Int32))), .val (.ref (pk w_LESS w_LESS_OR_EQUAL w_EQUAL w_NOT_EQUAL w_GREATER_OR_EQUAL w_GREATER ((p0 &&& (2147483647 : Int32)) % (6 : Int32)))), .val (.ref (ng w_LESS w_LESS_OR_EQUAL w_EQUAL w_NOT_EQUAL w_GREATER_OR_EQUAL w_GREATER (pkO ((p0 &&& (2147483647 : Int32)) % (6 : Int32)))))] [(.int (0 : Int32)), (.int (mean w_LESS w_LESS_OR_EQUAL w_EQUAL w_NOT_EQUAL w_GREATER_OR_EQUAL w_GREATER (ng w_LESS w_LESS_OR_EQUAL w_EQUAL w_NOT_EQUAL w_GREATER_OR_EQUAL w_GREATER (pkO ((p0 &&& (2147483647 : Int32)) % (6 : Int32)))) p1))]))) (fun t k => ?_) ?_
    · show Steps p.tables e below (T47.setTop (mkF m 44 #[.val (.int p0), .val (.int p1), .val (.int ((p0 &&& (2147483647 : Int32)) % (6 : Int32))), .val (.ref (pk w_LESS w_LESS_OR_EQUAL w_EQUAL w_NOT_EQUAL w_GREATER_OR_EQUAL w_GREATER ((p0 &&& (2147483647 : Int32)) % (6 : Int32)))), .val (.ref (ng w_LESS w_LESS_OR_EQUAL w_EQUAL w_NOT_EQUAL w_GREATER_OR_EQUAL w_GREATER (pkO ((p0 &&& (2147483647 : Int32)) % (6 : Int32)))))] [(.int (mean w_LESS w_LESS_OR_EQUAL w_EQUAL w_NOT_EQUAL w_GREATER_OR_EQUAL w_GREATER (ng w_LESS w_LESS_OR_EQUAL w_EQUAL w_NOT_EQUAL w_GREATER_OR_EQUAL w_GREATER (pkO ((p0 &&& (2147483647 : Int32)) % (6 : Int32)))) p1))])) _
      refine XS.iconst X47.here hx rfl (hb hby at_44) ?_
      exact k
    refine own_go (A' := (T47.setTop (mkF m 48 #[.val (.int p0), .val (.int p1), .val (.int ((p0 &&& (2147483647 : Int32)) % (6 : Int32))), .val (.ref (pk w_LESS w_LESS_OR_EQUAL w_EQUAL w_NOT_EQUAL w_GREATER_OR_EQUAL w_GREATER ((p0 &&& (2147483647 : Int32)) % (6 : Int32)))), .val (.ref (ng w_LESS w_LESS_OR_EQUAL w_EQUAL w_NOT_EQUAL w_GREATER_OR_EQUAL w_GREATER (pkO ((p0 &&& (2147483647 : Int32)) % (6 : Int32)))))] []))) (fun t k => XS.icmpNo X47.here hx rfl (hb hby at_45) rfl (teq (by rw [own_key (own_fld_ne O_LESS_ordinal O_LESS_OR_EQUAL_ordinal (by decide)) (own_fld_ne O_LESS_ordinal O_EQUAL_ordinal (by decide)) (own_fld_ne O_LESS_ordinal O_NOT_EQUAL_ordinal (by decide)) (own_fld_ne O_LESS_ordinal O_GREATER_OR_EQUAL_ordinal (by decide)) (own_fld_ne O_LESS_ordinal O_GREATER_ordinal (by decide)) (own_fld_ne O_LESS_OR_EQUAL_ordinal O_LESS_ordinal (by decide)) (own_fld_ne O_LESS_OR_EQUAL_ordinal O_EQUAL_ordinal (by decide)) (own_fld_ne O_LESS_OR_EQUAL_ordinal O_NOT_EQUAL_ordinal (by decide)) (own_fld_ne O_LESS_OR_EQUAL_ordinal O_GREATER_OR_EQUAL_ordinal (by decide)) (own_fld_ne O_LESS_OR_EQUAL_ordinal O_GREATER_ordinal (by decide)) (own_fld_ne O_EQUAL_ordinal O_LESS_ordinal (by decide)) (own_fld_ne O_EQUAL_ordinal O_LESS_OR_EQUAL_ordinal (by decide)) (own_fld_ne O_EQUAL_ordinal O_NOT_EQUAL_ordinal (by decide)) (own_fld_ne O_EQUAL_ordinal O_GREATER_OR_EQUAL_ordinal (by decide)) (own_fld_ne O_EQUAL_ordinal O_GREATER_ordinal (by decide)) (own_fld_ne O_NOT_EQUAL_ordinal O_LESS_ordinal (by decide)) (own_fld_ne O_NOT_EQUAL_ordinal O_LESS_OR_EQUAL_ordinal (by decide)) (own_fld_ne O_NOT_EQUAL_ordinal O_EQUAL_ordinal (by decide)) (own_fld_ne O_NOT_EQUAL_ordinal O_GREATER_OR_EQUAL_ordinal (by decide)) (own_fld_ne O_NOT_EQUAL_ordinal O_GREATER_ordinal (by decide)) (own_fld_ne O_GREATER_OR_EQUAL_ordinal O_LESS_ordinal (by decide)) (own_fld_ne O_GREATER_OR_EQUAL_ordinal O_LESS_OR_EQUAL_ordinal (by decide)) (own_fld_ne O_GREATER_OR_EQUAL_ordinal O_EQUAL_ordinal (by decide)) (own_fld_ne O_GREATER_OR_EQUAL_ordinal O_NOT_EQUAL_ordinal (by decide)) (own_fld_ne O_GREATER_OR_EQUAL_ordinal O_GREATER_ordinal (by decide)) (own_fld_ne O_GREATER_ordinal O_LESS_ordinal (by decide)) (own_fld_ne O_GREATER_ordinal O_LESS_OR_EQUAL_ordinal (by decide)) (own_fld_ne O_GREATER_ordinal O_EQUAL_ordinal (by decide)) (own_fld_ne O_GREATER_ordinal O_NOT_EQUAL_ordinal (by decide)) (own_fld_ne O_GREATER_ordinal O_GREATER_OR_EQUAL_ordinal (by decide)), if_neg hc48])).2 k) ?_
    refine own_go (A' := (T47.setTop (mkF m 53 #[.val (.int p0), .val (.int p1), .val (.int ((p0 &&& (2147483647 : Int32)) % (6 : Int32))), .val (.ref (pk w_LESS w_LESS_OR_EQUAL w_EQUAL w_NOT_EQUAL w_GREATER_OR_EQUAL w_GREATER ((p0 &&& (2147483647 : Int32)) % (6 : Int32)))), .val (.ref (ng w_LESS w_LESS_OR_EQUAL w_EQUAL w_NOT_EQUAL w_GREATER_OR_EQUAL w_GREATER (pkO ((p0 &&& (2147483647 : Int32)) % (6 : Int32)))))] [(.int (1 : Int32))]))) (fun t k => ?_) ?_
    · show Steps p.tables e below (T47.setTop (mkF m 48 #[.val (.int p0), .val (.int p1), .val (.int ((p0 &&& (2147483647 : Int32)) % (6 : Int32))), .val (.ref (pk w_LESS w_LESS_OR_EQUAL w_EQUAL w_NOT_EQUAL w_GREATER_OR_EQUAL w_GREATER ((p0 &&& (2147483647 : Int32)) % (6 : Int32)))), .val (.ref (ng w_LESS w_LESS_OR_EQUAL w_EQUAL w_NOT_EQUAL w_GREATER_OR_EQUAL w_GREATER (pkO ((p0 &&& (2147483647 : Int32)) % (6 : Int32)))))] [])) _
      refine XS.iconst X47.here hx rfl (hb hby at_48) ?_
      show Steps p.tables e below (T47.setTop (mkF m 49 #[.val (.int p0), .val (.int p1), .val (.int ((p0 &&& (2147483647 : Int32)) % (6 : Int32))), .val (.ref (pk w_LESS w_LESS_OR_EQUAL w_EQUAL w_NOT_EQUAL w_GREATER_OR_EQUAL w_GREATER ((p0 &&& (2147483647 : Int32)) % (6 : Int32)))), .val (.ref (ng w_LESS w_LESS_OR_EQUAL w_EQUAL w_NOT_EQUAL w_GREATER_OR_EQUAL w_GREATER (pkO ((p0 &&& (2147483647 : Int32)) % (6 : Int32)))))] [(.int (1 : Int32))])) _
      refine XS.goto X47.here hx rfl (pc0 := 49) (pc' := 53) rfl (hb hby at_49) (by decide) (by decide) ?_
      exact k
    obtain ⟨fs, hr, hrun, hended, hW, hsame⟩ := X47.leave (v := some (.int (1 : Int32))) (fun h => by rw [Bd.returns] at h; cases h)
    refine ⟨_, _, ?_, hrun, hended, _, _, rfl, ?_, ⟨_, rfl⟩, hW, hsame.mono (by decide) (by decide)⟩
    · show Steps p.tables e below (T47.setTop (mkF m 53 #[.val (.int p0), .val (.int p1), .val (.int ((p0 &&& (2147483647 : Int32)) % (6 : Int32))), .val (.ref (pk w_LESS w_LESS_OR_EQUAL w_EQUAL w_NOT_EQUAL w_GREATER_OR_EQUAL w_GREATER ((p0 &&& (2147483647 : Int32)) % (6 : Int32)))), .val (.ref (ng w_LESS w_LESS_OR_EQUAL w_EQUAL w_NOT_EQUAL w_GREATER_OR_EQUAL w_GREATER (pkO ((p0 &&& (2147483647 : Int32)) % (6 : Int32)))))] [(.int (1 : Int32))])) _
      exact retN X47 hx (t := .boolean) Bd.returns (by simp) (hb hby at_53) hr
    · show Q0 Z p0 p1 w_LESS w_GREATER_OR_EQUAL w_LESS_OR_EQUAL w_EQUAL w_NOT_EQUAL w_GREATER h0 n0 _ _ _
      exact ⟨rfl, N47⟩
theorem own_eqint {t : Term} {k : Int32} {args : Array Value} {first s : State} {o : Option Outcome} {idx : List Nat} (h : (Jvm.Cond.eq t (.int k)).value args first o s idx = some true) : t.eval args first o idx s = some (.int k) := by
  cases ht : t.eval args first o idx s with
  | none => simp [Cond.value, Term.eval, ht] at h
  | some x => cases x <;> simp [Cond.value, Term.eval, ht] at h; subst h; rfl
set_option maxRecDepth 65536 in
set_option maxHeartbeats 40000000 in
theorem comes_1 {Post : Tables → Env → Array Value → State → Outcome → State → Prop} (hpost : ∀ tb e args s v u, (limb_1_1.after args s (.returned v) u = true ∧ limb_1_2.after args s (.returned v) u = true ∧ True) → FrameEnd s (.returned v) u (Jvm.fieldLocs frame_1_writes args s ++ Jvm.arrayLocs frame_1_arrays args s ++ Jvm.staticLocs frame_1_statics s) 0 0 → Post tb e args s (.returned v) u) :
    ArmFor flags0 classFile x code maxLocals ret World_1 tables_1 room_1 Calls_1 rest_1 Pre_1 Post := by
  intro l hfl _ _ p e ha hc hk s m args below hf hA hF happ hP
  obtain ⟨hcalls, hrest, hpre⟩ := hP
  obtain ⟨-, -, -, hnamed, -, -, -, hat⟩ := (Spec.applies_iff hf).mp happ
  obtain ⟨hg, hn⟩ := and_e (Cond.before_iff.mp (show (Jvm.Cond.and given_1 narrow_1).before args s = true from hpre))
  have hv0 := (and_e (and_e hg).2).1
  have hv1 := (and_e (and_e hg).2).2
  obtain ⟨w0, w1, rfl⟩ : ∃ w0 w1 : Value, args = #[w0, w1] := by
    have hs : args.size = 2 := by simpa [Cond.value, given_1] using (and_e hg).1
    obtain ⟨L⟩ := args
    match L, hs with
    | [w0, w1], _ => exact ⟨w0, w1, rfl⟩
  have hw := fun d (hd : d ∈ tables_1) => atoms_spec (ws := Jvm.Cond.code x code maxLocals ret :: tables_1) hat d (List.mem_cons_of_mem _ hd)
  have hfit : Fit s := fun {y c} hc i hi => by
    obtain ⟨ha, rfl⟩ := Array.getElem?_eq_some_iff.mp hc
    have q := List.all_eq_true.mp ((Array.all_eq_true_iff_forall_mem.mp hF) _ (Array.getElem_mem ha)) i (List.mem_range.mpr hi)
    simpa [Array.getElem?_eq_getElem hi] using q
  obtain ⟨i0, ei0⟩ := is_v hv0
  obtain rfl : w0 = (.int i0) := Option.some.inj ei0
  obtain ⟨i1, ei1⟩ := is_v hv1
  obtain rfl : w1 = (.int i1) := Option.some.inj ei1
  have hx_LESS := (and_e hn).1
  obtain ⟨w_LESS, ev_LESS⟩ := exa_v hx_LESS
  have S_LESS : Sta s s.heap "com/example/pathwarden/pathwarden/flow/Relation" "LESS" "Lcom/example/pathwarden/pathwarden/flow/Relation;" (.ref w_LESS) := Sta.start ev_LESS (Or.inr ⟨(hw _ (List.mem_of_getElem? (i := 6) rfl)), (hw _ (List.mem_of_getElem? (i := 7) rfl))⟩)
  have E_LESS : Exa s s.heap w_LESS "com/example/pathwarden/pathwarden/flow/Relation" := Exa.start ev_LESS hx_LESS
  have O_LESS_ordinal : Fld s s.heap w_LESS "java/lang/Enum" "ordinal" "I" (.int (0 : Int32)) := Fld.start ((fld_at ev_LESS).symm.trans (own_eqint (and_e (and_e hn).2).1))
  have hx_GREATER_OR_EQUAL := (and_e (and_e (and_e hn).2).2).1
  obtain ⟨w_GREATER_OR_EQUAL, ev_GREATER_OR_EQUAL⟩ := exa_v hx_GREATER_OR_EQUAL
  have S_GREATER_OR_EQUAL : Sta s s.heap "com/example/pathwarden/pathwarden/flow/Relation" "GREATER_OR_EQUAL" "Lcom/example/pathwarden/pathwarden/flow/Relation;" (.ref w_GREATER_OR_EQUAL) := Sta.start ev_GREATER_OR_EQUAL (Or.inr ⟨(hw _ (List.mem_of_getElem? (i := 6) rfl)), (hw _ (List.mem_of_getElem? (i := 23) rfl))⟩)
  have E_GREATER_OR_EQUAL : Exa s s.heap w_GREATER_OR_EQUAL "com/example/pathwarden/pathwarden/flow/Relation" := Exa.start ev_GREATER_OR_EQUAL hx_GREATER_OR_EQUAL
  have O_GREATER_OR_EQUAL_ordinal : Fld s s.heap w_GREATER_OR_EQUAL "java/lang/Enum" "ordinal" "I" (.int (4 : Int32)) := Fld.start ((fld_at ev_GREATER_OR_EQUAL).symm.trans (own_eqint (and_e (and_e (and_e (and_e hn).2).2).2).1))
  have hx_LESS_OR_EQUAL := (and_e (and_e (and_e (and_e (and_e hn).2).2).2).2).1
  obtain ⟨w_LESS_OR_EQUAL, ev_LESS_OR_EQUAL⟩ := exa_v hx_LESS_OR_EQUAL
  have S_LESS_OR_EQUAL : Sta s s.heap "com/example/pathwarden/pathwarden/flow/Relation" "LESS_OR_EQUAL" "Lcom/example/pathwarden/pathwarden/flow/Relation;" (.ref w_LESS_OR_EQUAL) := Sta.start ev_LESS_OR_EQUAL (Or.inr ⟨(hw _ (List.mem_of_getElem? (i := 6) rfl)), (hw _ (List.mem_of_getElem? (i := 28) rfl))⟩)
  have E_LESS_OR_EQUAL : Exa s s.heap w_LESS_OR_EQUAL "com/example/pathwarden/pathwarden/flow/Relation" := Exa.start ev_LESS_OR_EQUAL hx_LESS_OR_EQUAL
  have O_LESS_OR_EQUAL_ordinal : Fld s s.heap w_LESS_OR_EQUAL "java/lang/Enum" "ordinal" "I" (.int (1 : Int32)) := Fld.start ((fld_at ev_LESS_OR_EQUAL).symm.trans (own_eqint (and_e (and_e (and_e (and_e (and_e (and_e hn).2).2).2).2).2).1))
  have hx_EQUAL := (and_e (and_e (and_e (and_e (and_e (and_e (and_e hn).2).2).2).2).2).2).1
  obtain ⟨w_EQUAL, ev_EQUAL⟩ := exa_v hx_EQUAL
  have S_EQUAL : Sta s s.heap "com/example/pathwarden/pathwarden/flow/Relation" "EQUAL" "Lcom/example/pathwarden/pathwarden/flow/Relation;" (.ref w_EQUAL) := Sta.start ev_EQUAL (Or.inr ⟨(hw _ (List.mem_of_getElem? (i := 6) rfl)), (hw _ (List.mem_of_getElem? (i := 30) rfl))⟩)
  have E_EQUAL : Exa s s.heap w_EQUAL "com/example/pathwarden/pathwarden/flow/Relation" := Exa.start ev_EQUAL hx_EQUAL
  have O_EQUAL_ordinal : Fld s s.heap w_EQUAL "java/lang/Enum" "ordinal" "I" (.int (2 : Int32)) := Fld.start ((fld_at ev_EQUAL).symm.trans (own_eqint (and_e (and_e (and_e (and_e (and_e (and_e (and_e (and_e hn).2).2).2).2).2).2).2).1))
  have hx_NOT_EQUAL := (and_e (and_e (and_e (and_e (and_e (and_e (and_e (and_e (and_e hn).2).2).2).2).2).2).2).2).1
  obtain ⟨w_NOT_EQUAL, ev_NOT_EQUAL⟩ := exa_v hx_NOT_EQUAL
  have S_NOT_EQUAL : Sta s s.heap "com/example/pathwarden/pathwarden/flow/Relation" "NOT_EQUAL" "Lcom/example/pathwarden/pathwarden/flow/Relation;" (.ref w_NOT_EQUAL) := Sta.start ev_NOT_EQUAL (Or.inr ⟨(hw _ (List.mem_of_getElem? (i := 6) rfl)), (hw _ (List.mem_of_getElem? (i := 32) rfl))⟩)
  have E_NOT_EQUAL : Exa s s.heap w_NOT_EQUAL "com/example/pathwarden/pathwarden/flow/Relation" := Exa.start ev_NOT_EQUAL hx_NOT_EQUAL
  have O_NOT_EQUAL_ordinal : Fld s s.heap w_NOT_EQUAL "java/lang/Enum" "ordinal" "I" (.int (3 : Int32)) := Fld.start ((fld_at ev_NOT_EQUAL).symm.trans (own_eqint (and_e (and_e (and_e (and_e (and_e (and_e (and_e (and_e (and_e (and_e hn).2).2).2).2).2).2).2).2).2).1))
  have hx_GREATER := (and_e (and_e (and_e (and_e (and_e (and_e (and_e (and_e (and_e (and_e (and_e hn).2).2).2).2).2).2).2).2).2).2).1
  obtain ⟨w_GREATER, ev_GREATER⟩ := exa_v hx_GREATER
  have S_GREATER : Sta s s.heap "com/example/pathwarden/pathwarden/flow/Relation" "GREATER" "Lcom/example/pathwarden/pathwarden/flow/Relation;" (.ref w_GREATER) := Sta.start ev_GREATER (Or.inr ⟨(hw _ (List.mem_of_getElem? (i := 6) rfl)), (hw _ (List.mem_of_getElem? (i := 37) rfl))⟩)
  have E_GREATER : Exa s s.heap w_GREATER "com/example/pathwarden/pathwarden/flow/Relation" := Exa.start ev_GREATER hx_GREATER
  have O_GREATER_ordinal : Fld s s.heap w_GREATER "java/lang/Enum" "ordinal" "I" (.int (5 : Int32)) := Fld.start ((fld_at ev_GREATER).symm.trans (own_eqint (and_e (and_e (and_e (and_e (and_e (and_e (and_e (and_e (and_e (and_e (and_e hn).2).2).2).2).2).2).2).2).2).2).2))
  obtain ⟨n, o, h1, h2, h3, _, L, rfl, ⟨rfl, N⟩, hq⟩ := rm0 l s _ hw tables_1 i0 i1 w_LESS w_GREATER_OR_EQUAL w_LESS_OR_EQUAL w_EQUAL w_NOT_EQUAL w_GREATER s.heap s.heap.size (Nat.le_refl _) S_LESS S_GREATER_OR_EQUAL S_LESS_OR_EQUAL S_EQUAL S_NOT_EQUAL S_GREATER E_LESS E_GREATER_OR_EQUAL E_LESS_OR_EQUAL E_EQUAL E_NOT_EQUAL E_GREATER O_LESS_ordinal O_GREATER_OR_EQUAL_ordinal O_LESS_OR_EQUAL_ordinal O_EQUAL_ordinal O_NOT_EQUAL_ordinal O_GREATER_ordinal p e ha hc hk s m _ below hf ((Spec.applies_iff_loose hf).mp happ).1 ⟨rfl, State.Warmed39.refl s, rfl⟩ trivial
  refine ⟨n, _, h1, h2, h3, hpost _ _ _ _ _ _ ⟨Cond.after_iff.mpr rfl, Cond.after_iff.mpr (eq_i res_at (Term.int_eval (1)) rfl), trivial⟩ ⟨hq.1, hq.2.1, (hq.2.2.sift fun y hy => Or.inr (N y hy)).mono (by decide) (by decide)⟩⟩
theorem main_1_1 : Claimed_1_1 := comes_1 fun _ _ _ _ _ _ h hF => ⟨h.1, hF⟩
theorem main_1_2 : Claimed_1_2 := comes_1 fun _ _ _ _ _ _ h hF => ⟨h.2.1, hF⟩
end Jvm.Pilot.@@N@@
namespace Jvm.Pilot.@@N@@
open Jvm Jvm.ClassFile Sem Op Lib Jvm.Free Jvm.Stand Jvm.Pilot.@@N@@.Jvm.D
/-! MADE BY PROGRAM (witnessworld.py) out of the Statement's table words and the real class files: 12 classes; the members and pool entries that the words name. The judged class is class 1, her method 1. -/
namespace start1
open Jvm.ClassFile
def u (s : String) : CpInfo := .utf8 (stringToUtf16 s)
/-- a pool by its gaps: so many unusable entries, then the entry; so many at the end -/
def gap : Nat → List CpInfo → List CpInfo
  | 0, r => r
  | n + 1, r => .unusable :: gap n r
def poolList (es : List (Nat × CpInfo)) (last : Nat) : List CpInfo := es.foldr (fun e r => gap e.1 (e.2 :: r)) (gap last [])
def pool (es : List (Nat × CpInfo)) (last : Nat) : Array CpInfo := ⟨poolList es last⟩
def fileOf (pool : Array CpInfo) (this : Nat) (attrs : Array Attribute := #[]) (ms : Array MethodInfo := #[]) (fl : Nat := 33) (sup : Nat := 0) (ifs : Array Nat := #[]) (fds : Array FieldInfo := #[]) : ClassFile where
  minorVersion := 0
  majorVersion := 65
  constantPool := pool
  accessFlags := fl
  thisClass := this
  superClass := sup
  interfaces := ifs
  fields := fds
  methods := ms
  attributes := attrs
def plain (name : String) (sup : Option ClassId) : Class where
  name := name
  kind := .ordinary
  loader := none
  accessFlags := 33
  super := sup
  interfaces := #[]
  cf := none
  fields := #[]
  methods := #[]
  instanceTypes := #[]
  staticTypes := #[]
  resolved := #[]
  callSites := []
  init := .initialized
  statics := none
  mirror := none

def pool0 : Array CpInfo := pool [(5, u "<init>"), (0, u "()V"), (1, .class_ 10), (1, u "java/lang/Object")] 113

def k0m0 : Method := { name := "<init>", desc := "()V", sig := { parameters := [], returnType := none }, accessFlags := 1, code := none }
/-- java/lang/Object -/
def k0 : Class := { plain "java/lang/Object" none with
  accessFlags := 33
  interfaces := #[]
  cf := some (fileOf pool0 8 #[] #[{ accessFlags := 1, nameIndex := 5, descriptorIndex := 6, attributes := #[] }] 33 0 #[] #[])
  fields := #[]
  methods := #[k0m0]
  instanceTypes := #[]
  staticTypes := #[]
  resolved := Array.replicate 124 none
  statics := none }

def pool1 : Array CpInfo := pool [(2, .class_ 4), (1, u "java/lang/Object"), (0, u "<init>"), (0, u "()V"), (0, .integer 2147483647), (0, .methodref 9 10), (0, .class_ 11), (0, .nameAndType 12 13), (0, u "com/example/pathwarden/pathwarden/flow/RelationNegatedPinLaw"), (0, u "pick"), (0, u "(I)Lcom/example/pathwarden/pathwarden/flow/Relation;"), (0, .methodref 15 16), (0, .class_ 17), (0, .nameAndType 18 19), (0, u "com/example/pathwarden/pathwarden/flow/Relation"), (0, u "negated"), (0, u "()Lcom/example/pathwarden/pathwarden/flow/Relation;"), (0, .methodref 9 21), (0, .nameAndType 22 23), (0, u "meaning"), (0, u "(Lcom/example/pathwarden/pathwarden/flow/Relation;I)Z"), (0, .fieldref 15 25), (0, .nameAndType 26 27), (0, u "LESS"), (0, u "Lcom/example/pathwarden/pathwarden/flow/Relation;"), (0, .fieldref 15 29), (0, .nameAndType 30 27), (0, u "LESS_OR_EQUAL"), (0, .fieldref 15 32), (0, .nameAndType 33 27), (0, u "EQUAL"), (0, .fieldref 15 35), (0, .nameAndType 36 27), (0, u "NOT_EQUAL"), (0, .fieldref 15 38), (0, .nameAndType 39 27), (0, u "GREATER_OR_EQUAL"), (0, .fieldref 15 41), (0, .nameAndType 42 27), (0, u "GREATER"), (2, u "law"), (0, u "(II)Z")] 3

def k1m0 : Method := { name := "<init>", desc := "()V", sig := { parameters := [], returnType := none }, accessFlags := 1, code := none }
def k1c1 : Code := { maxStack := 3, maxLocals := 5, code := code, exceptionTable := #[], attributes := #[] }
def k1m1 : Method := { name := "law", desc := "(II)Z", sig := { parameters := [.int, .int], returnType := some .boolean }, accessFlags := 9, code := some k1c1 }
def k1c2 : Code := { maxStack := 2, maxLocals := 1, code := method_3_code, exceptionTable := #[], attributes := #[] }
def k1m2 : Method := { name := "pick", desc := "(I)Lcom/example/pathwarden/pathwarden/flow/Relation;", sig := { parameters := [.int], returnType := some (.object "com/example/pathwarden/pathwarden/flow/Relation") }, accessFlags := 10, code := some k1c2 }
def k1c3 : Code := { maxStack := 2, maxLocals := 2, code := method_4_code, exceptionTable := #[], attributes := #[] }
def k1m3 : Method := { name := "meaning", desc := "(Lcom/example/pathwarden/pathwarden/flow/Relation;I)Z", sig := { parameters := [(.object "com/example/pathwarden/pathwarden/flow/Relation"), .int], returnType := some .boolean }, accessFlags := 10, code := some k1c3 }
/-- com/example/pathwarden/pathwarden/flow/RelationNegatedPinLaw -/
def k1 : Class := { plain "com/example/pathwarden/pathwarden/flow/RelationNegatedPinLaw" (some 0) with
  accessFlags := 49
  interfaces := #[]
  cf := some (fileOf pool1 9 #[] #[{ accessFlags := 1, nameIndex := 5, descriptorIndex := 6, attributes := #[] }, { accessFlags := 9, nameIndex := 45, descriptorIndex := 46, attributes := #[] }, { accessFlags := 10, nameIndex := 12, descriptorIndex := 13, attributes := #[] }, { accessFlags := 10, nameIndex := 22, descriptorIndex := 23, attributes := #[] }] 49 2 #[] #[])
  fields := #[]
  methods := #[k1m0, k1m1, k1m2, k1m3]
  instanceTypes := #[]
  staticTypes := #[]
  resolved := Array.replicate 50 none
  statics := none }

def pool2 : Array CpInfo := pool [(1, .class_ 2), (0, u "java/lang/constant/Constable"), (0, .class_ 4), (0, u "java/lang/Object")] 6

/-- java/lang/constant/Constable -/
def k2 : Class := { plain "java/lang/constant/Constable" (some 0) with
  accessFlags := 1537
  interfaces := #[]
  cf := some (fileOf pool2 1 #[] #[] 1537 3 #[] #[])
  fields := #[]
  methods := #[]
  instanceTypes := #[]
  staticTypes := #[]
  resolved := Array.replicate 11 none
  statics := none }

def pool3 : Array CpInfo := pool [(1, .class_ 2), (0, u "java/lang/Comparable"), (0, .class_ 4), (0, u "java/lang/Object")] 7

/-- java/lang/Comparable -/
def k3 : Class := { plain "java/lang/Comparable" (some 0) with
  accessFlags := 1537
  interfaces := #[]
  cf := some (fileOf pool3 1 #[] #[] 1537 3 #[] #[])
  fields := #[]
  methods := #[]
  instanceTypes := #[]
  staticTypes := #[]
  resolved := Array.replicate 12 none
  statics := none }

def pool4 : Array CpInfo := pool [(1, .class_ 2), (0, u "java/io/Serializable"), (0, .class_ 4), (0, u "java/lang/Object")] 2

/-- java/io/Serializable -/
def k4 : Class := { plain "java/io/Serializable" (some 0) with
  accessFlags := 1537
  interfaces := #[]
  cf := some (fileOf pool4 1 #[] #[] 1537 3 #[] #[])
  fields := #[]
  methods := #[]
  instanceTypes := #[]
  staticTypes := #[]
  resolved := Array.replicate 7 none
  statics := none }

def pool5 : Array CpInfo := pool [(2, .class_ 4), (1, u "java/lang/Enum"), (0, u "name"), (0, u "Ljava/lang/String;"), (0, .fieldref 2 8), (0, .nameAndType 9 10), (0, u "ordinal"), (0, u "I"), (1, .class_ 14), (1, u "java/lang/Object"), (4, u "hash"), (86, .class_ 108), (1, u "java/lang/Enum$EnumDesc"), (2, .class_ 112), (0, u "java/lang/constant/Constable"), (0, .class_ 114), (0, u "java/lang/Comparable"), (0, .class_ 116), (0, u "java/io/Serializable"), (9, u "()I")] 77

def k5c0 : Code := { maxStack := 1, maxLocals := 1, code := jdk_37_method_2_code, exceptionTable := #[], attributes := #[] }
def k5m0 : Method := { name := "ordinal", desc := "()I", sig := { parameters := [], returnType := some .int }, accessFlags := 17, code := some k5c0 }
/-- java/lang/Enum -/
def k5 : Class := { plain "java/lang/Enum" (some 0) with
  accessFlags := 1057
  interfaces := #[2, 3, 4]
  cf := some (fileOf pool5 2 #[.nestMembers #[106]] #[{ accessFlags := 17, nameIndex := 9, descriptorIndex := 126, attributes := #[] }] 1057 12 #[111, 113, 115] #[{ accessFlags := 18, nameIndex := 5, descriptorIndex := 6, attributes := #[] }, { accessFlags := 18, nameIndex := 9, descriptorIndex := 10, attributes := #[] }, { accessFlags := 2, nameIndex := 19, descriptorIndex := 10, attributes := #[] }])
  fields := #[{ name := "name", type := (.object "java/lang/String"), accessFlags := 18, slot := 0, constantValue := 0 }, { name := "ordinal", type := .int, accessFlags := 18, slot := 1, constantValue := 0 }, { name := "hash", type := .int, accessFlags := 2, slot := 2, constantValue := 0 }]
  methods := #[k5m0]
  instanceTypes := #[(.object "java/lang/String"), .int, .int]
  staticTypes := #[]
  resolved := Array.replicate 204 none
  statics := none }

def pool6 : Array CpInfo := pool [(1, .class_ 2), (0, u "com/example/pathwarden/pathwarden/flow/Relation"), (0, .fieldref 1 4), (0, .nameAndType 5 6), (0, u "LESS"), (0, u "Lcom/example/pathwarden/pathwarden/flow/Relation;"), (0, .fieldref 1 8), (0, .nameAndType 9 6), (0, u "LESS_OR_EQUAL"), (0, .fieldref 1 11), (0, .nameAndType 12 6), (0, u "EQUAL"), (0, .fieldref 1 14), (0, .nameAndType 15 6), (0, u "NOT_EQUAL"), (0, .fieldref 1 17), (0, .nameAndType 18 6), (0, u "GREATER_OR_EQUAL"), (0, .fieldref 1 20), (0, .nameAndType 21 6), (0, u "GREATER"), (2, u "$VALUES"), (0, u "[Lcom/example/pathwarden/pathwarden/flow/Relation;"), (6, .class_ 34), (1, u "java/lang/Enum"), (6, .methodref 1 42), (0, .nameAndType 43 44), (0, u "ordinal"), (0, u "()I"), (26, u "negated"), (0, u "()Lcom/example/pathwarden/pathwarden/flow/Relation;")] 4

def k6c0 : Code := { maxStack := 4, maxLocals := 1, code := prog_107_method_5_code, exceptionTable := #[], attributes := #[] }
def k6m0 : Method := { name := "negated", desc := "()Lcom/example/pathwarden/pathwarden/flow/Relation;", sig := { parameters := [], returnType := some (.object "com/example/pathwarden/pathwarden/flow/Relation") }, accessFlags := 1, code := some k6c0 }
/-- com/example/pathwarden/pathwarden/flow/Relation -/
def k6 : Class := { plain "com/example/pathwarden/pathwarden/flow/Relation" (some 5) with
  accessFlags := 16433
  interfaces := #[]
  cf := some (fileOf pool6 1 #[] #[{ accessFlags := 1, nameIndex := 71, descriptorIndex := 72, attributes := #[] }] 16433 32 #[] #[{ accessFlags := 16409, nameIndex := 5, descriptorIndex := 6, attributes := #[] }, { accessFlags := 16409, nameIndex := 9, descriptorIndex := 6, attributes := #[] }, { accessFlags := 16409, nameIndex := 12, descriptorIndex := 6, attributes := #[] }, { accessFlags := 16409, nameIndex := 15, descriptorIndex := 6, attributes := #[] }, { accessFlags := 16409, nameIndex := 18, descriptorIndex := 6, attributes := #[] }, { accessFlags := 16409, nameIndex := 21, descriptorIndex := 6, attributes := #[] }, { accessFlags := 4122, nameIndex := 24, descriptorIndex := 25, attributes := #[] }])
  fields := #[{ name := "LESS", type := (.object "com/example/pathwarden/pathwarden/flow/Relation"), accessFlags := 16409, slot := 0, constantValue := 0 }, { name := "LESS_OR_EQUAL", type := (.object "com/example/pathwarden/pathwarden/flow/Relation"), accessFlags := 16409, slot := 1, constantValue := 0 }, { name := "EQUAL", type := (.object "com/example/pathwarden/pathwarden/flow/Relation"), accessFlags := 16409, slot := 2, constantValue := 0 }, { name := "NOT_EQUAL", type := (.object "com/example/pathwarden/pathwarden/flow/Relation"), accessFlags := 16409, slot := 3, constantValue := 0 }, { name := "GREATER_OR_EQUAL", type := (.object "com/example/pathwarden/pathwarden/flow/Relation"), accessFlags := 16409, slot := 4, constantValue := 0 }, { name := "GREATER", type := (.object "com/example/pathwarden/pathwarden/flow/Relation"), accessFlags := 16409, slot := 5, constantValue := 0 }, { name := "$VALUES", type := (.array (.object "com/example/pathwarden/pathwarden/flow/Relation")), accessFlags := 4122, slot := 6, constantValue := 0 }]
  methods := #[k6m0]
  instanceTypes := #[(.object "java/lang/String"), .int, .int]
  staticTypes := #[(.object "com/example/pathwarden/pathwarden/flow/Relation"), (.object "com/example/pathwarden/pathwarden/flow/Relation"), (.object "com/example/pathwarden/pathwarden/flow/Relation"), (.object "com/example/pathwarden/pathwarden/flow/Relation"), (.object "com/example/pathwarden/pathwarden/flow/Relation"), (.object "com/example/pathwarden/pathwarden/flow/Relation"), (.array (.object "com/example/pathwarden/pathwarden/flow/Relation"))]
  resolved := Array.replicate 77 none
  statics := some 0 }

def pool7 : Array CpInfo := pool [(1, u "java/lang/Cloneable"), (0, .class_ 1), (0, u "java/lang/Object"), (0, .class_ 3)] 3

/-- java/lang/Cloneable -/
def k7 : Class := { plain "java/lang/Cloneable" (some 0) with
  accessFlags := 1537
  interfaces := #[]
  cf := some (fileOf pool7 2 #[] #[] 1537 4 #[] #[])
  fields := #[]
  methods := #[]
  instanceTypes := #[]
  staticTypes := #[]
  resolved := Array.replicate 8 none
  statics := none }

/-- the primitive byte -/
def k8 : Class := { plain "byte" none with kind := .primitive 'B', accessFlags := 0x411 }
/-- [B -/
def k9 : Class := { plain "[B" (some 0) with kind := .array 8 .byte, interfaces := #[7, 4], accessFlags := 1041 }

/-- the primitive int -/
def k10 : Class := { plain "int" none with kind := .primitive 'I', accessFlags := 0x411 }
/-- [I -/
def k11 : Class := { plain "[I" (some 0) with kind := .array 10 .int, interfaces := #[7, 4], accessFlags := 1041 }

def heap : Heap := #[{ cls := 6, slots := #[.ref 1, .ref 3, .ref 4, .ref 5, .ref 2, .ref 6, .null], vm := .statics 6 },
  { cls := 6, slots := #[.null, .int 0, .int 0], vm := .none },
  { cls := 6, slots := #[.null, .int 4, .int 0], vm := .none },
  { cls := 6, slots := #[.null, .int 1, .int 0], vm := .none },
  { cls := 6, slots := #[.null, .int 2, .int 0], vm := .none },
  { cls := 6, slots := #[.null, .int 3, .int 0], vm := .none },
  { cls := 6, slots := #[.null, .int 5, .int 0], vm := .none }]
def classes : Array Class := #[k0, k1, k2, k3, k4, k5, k6, k7, k8, k9, k10, k11]
def interned : List (Array UInt16 × Addr) := []
def slotsUsed : Nat := 25
def theMethod : MethodId := ⟨1, 1⟩
def args0 : Array Value := #[.int 5, .int 3]
def aboutOver (below : List Frame) : State where
  vm := { classes := classes, interned := interned.toArray }
  heap := heap
  slotsUsed := slotsUsed
  threads := #[{ frames := .invoking theMethod args0 :: below }]
def below0 : List Frame := [.native { method := ⟨0, 0⟩, args := #[] }]
def about1 : State := aboutOver below0
def p0 : Program := .bare "" "" ""
def e0 : Env := launch0.env 0 0 0
theorem w_frames : about1.frames = Frame.invoking theMethod args0 :: below0 := rfl
set_option maxRecDepth 65536 in
theorem w_args : argsFit about1.vm theMethod args0 = true := by decide +kernel
set_option maxRecDepth 65536 in
theorem w_heap : heapFits about1 = true := by decide +kernel
set_option maxRecDepth 65536 in
theorem w_runnable : about1.curStatus? = some .runnable := by decide +kernel
set_option maxRecDepth 65536 in
theorem w_alone : about1.alone = true := by decide +kernel
set_option maxRecDepth 65536 in
theorem w_named : about1.methodNamed? x = some theMethod := by decide +kernel
set_option maxRecDepth 65536 in
theorem w_hears : about1.hears theMethod below0 = true := by decide +kernel
set_option maxRecDepth 65536 in
theorem w_ripe : about1.ripe theMethod args0 below0 = true := by decide +kernel
theorem w_running : about1.status = .running := rfl
set_option maxRecDepth 65536 in
theorem w_room : about1.hasRoom e0.platform room_1 = true :=
  launch0.hasRoom_least _ room_1 (by decide +kernel) (by decide +kernel) (by decide +kernel) (by decide +kernel) (by decide +kernel) (by decide +kernel)
theorem allAtoms_all (ts : List Jvm.Cond) (a : Array Jvm.Value) (st : Jvm.State) : (allAtoms ts).before a st = ts.all (fun c => c.before a st) := by
  induction ts with
  | nil => rfl
  | cons c t ih =>
    show (Jvm.Cond.and c (allAtoms t)).before a st = _
    rw [Jvm.Cond.before_and, ih, List.all_cons]
def words1 : List Jvm.Cond := Jvm.Cond.code x code maxLocals ret :: tables_1
/-- a 'code' word, met by the world's own term for the bytes: nothing is compared byte by byte -/
theorem code_word {y : MethodName} {bytes : ByteArray} {mx : Nat} {rt : Option FieldType} {a : Array Value} {s : State} {m : MethodId} {meth : Method} {c : Code} (h1 : s.methodNamed? y = some m) (h2 : s.vm.method? m = some meth) (h3 : meth.code = some c) (h4 : c.code = bytes)
    (h5 : (c.maxLocals == mx && c.exceptionTable.isEmpty && decide (c.maxStack ≤ mostOperands) && decide (meth.sig.returnType = rt) && !meth.locks && decide (parseMethodDescriptor y.desc = some meth.sig)) = true) : (Jvm.Cond.code y bytes mx rt).before a s = true := by
  simp only [Bool.and_eq_true, beq_iff_eq, Bool.not_eq_true', decide_eq_true_eq] at h5
  obtain ⟨⟨⟨⟨⟨g1, g2⟩, g3⟩, g4⟩, g5⟩, g6⟩ := h5
  simp [Cond.before, Cond.holds, Cond.value, h1, h2, h3, h4, g1, g2, g3, g4, g5, g6]
def isCode : Jvm.Cond → Bool
  | .code _ _ _ _ => true
  | _ => false
theorem all_split {L : List Jvm.Cond} {P : Jvm.Cond → Bool} (h1 : L.all (fun c => isCode c || P c) = true) (h2 : ∀ c ∈ L.filter isCode, P c = true) : L.all P = true := by
  refine List.all_eq_true.mpr fun c hc => ?_
  have h := List.all_eq_true.mp h1 c hc
  rcases Bool.eq_false_or_eq_true (isCode c) with hi | hi
  · exact h2 c (List.mem_filter.mpr ⟨hc, hi⟩)
  · simpa [hi] using h
set_option maxRecDepth 65536 in
theorem w_c0 : (Jvm.Cond.code x code maxLocals ret).before args0 about1 = true := code_word (m := ⟨1, 1⟩) (meth := k1m1) (c := k1c1) (by decide +kernel) rfl rfl rfl (by decide +kernel)
set_option maxRecDepth 65536 in
theorem w_c1 : (Jvm.Cond.code ({ cls := "com/example/pathwarden/pathwarden/flow/RelationNegatedPinLaw", name := "pick", desc := "(I)Lcom/example/pathwarden/pathwarden/flow/Relation;" } : Jvm.MethodName) method_3_code (1 : Nat) (Option.some (Jvm.ClassFile.FieldType.object "com/example/pathwarden/pathwarden/flow/Relation"))).before args0 about1 = true := code_word (m := ⟨1, 2⟩) (meth := k1m2) (c := k1c2) (by decide +kernel) rfl rfl rfl (by decide +kernel)
set_option maxRecDepth 65536 in
theorem w_c2 : (Jvm.Cond.code ({ cls := "com/example/pathwarden/pathwarden/flow/Relation", name := "negated", desc := "()Lcom/example/pathwarden/pathwarden/flow/Relation;" } : Jvm.MethodName) prog_107_method_5_code (1 : Nat) (Option.some (Jvm.ClassFile.FieldType.object "com/example/pathwarden/pathwarden/flow/Relation"))).before args0 about1 = true := code_word (m := ⟨6, 0⟩) (meth := k6m0) (c := k6c0) (by decide +kernel) rfl rfl rfl (by decide +kernel)
set_option maxRecDepth 65536 in
theorem w_c3 : (Jvm.Cond.code ({ cls := "java/lang/Enum", name := "ordinal", desc := "()I" } : Jvm.MethodName) jdk_37_method_2_code (1 : Nat) (Option.some Jvm.ClassFile.FieldType.int)).before args0 about1 = true := code_word (m := ⟨5, 0⟩) (meth := k5m0) (c := k5c0) (by decide +kernel) rfl rfl rfl (by decide +kernel)
set_option maxRecDepth 65536 in
theorem w_c4 : (Jvm.Cond.code ({ cls := "com/example/pathwarden/pathwarden/flow/RelationNegatedPinLaw", name := "meaning", desc := "(Lcom/example/pathwarden/pathwarden/flow/Relation;I)Z" } : Jvm.MethodName) method_4_code (2 : Nat) (Option.some Jvm.ClassFile.FieldType.boolean)).before args0 about1 = true := code_word (m := ⟨1, 3⟩) (meth := k1m3) (c := k1c3) (by decide +kernel) rfl rfl rfl (by decide +kernel)
def codes1 : List Jvm.Cond := [Jvm.Cond.code x code maxLocals ret, Jvm.Cond.code ({ cls := "com/example/pathwarden/pathwarden/flow/RelationNegatedPinLaw", name := "pick", desc := "(I)Lcom/example/pathwarden/pathwarden/flow/Relation;" } : Jvm.MethodName) method_3_code (1 : Nat) (Option.some (Jvm.ClassFile.FieldType.object "com/example/pathwarden/pathwarden/flow/Relation")), Jvm.Cond.code ({ cls := "com/example/pathwarden/pathwarden/flow/Relation", name := "negated", desc := "()Lcom/example/pathwarden/pathwarden/flow/Relation;" } : Jvm.MethodName) prog_107_method_5_code (1 : Nat) (Option.some (Jvm.ClassFile.FieldType.object "com/example/pathwarden/pathwarden/flow/Relation")), Jvm.Cond.code ({ cls := "java/lang/Enum", name := "ordinal", desc := "()I" } : Jvm.MethodName) jdk_37_method_2_code (1 : Nat) (Option.some Jvm.ClassFile.FieldType.int), Jvm.Cond.code ({ cls := "com/example/pathwarden/pathwarden/flow/RelationNegatedPinLaw", name := "meaning", desc := "(Lcom/example/pathwarden/pathwarden/flow/Relation;I)Z" } : Jvm.MethodName) method_4_code (2 : Nat) (Option.some Jvm.ClassFile.FieldType.boolean)]
set_option maxRecDepth 65536 in
theorem codes_eq : words1.filter isCode = codes1 := rfl
theorem w_codes : ∀ c ∈ words1.filter isCode, c.before args0 about1 = true := by
  rw [codes_eq]
  intro c hc
  simp only [codes1, List.mem_cons, List.not_mem_nil, or_false] at hc
  rcases hc with rfl | rfl | rfl | rfl | rfl
  · exact w_c0
  · exact w_c1
  · exact w_c2
  · exact w_c3
  · exact w_c4
set_option maxRecDepth 65536 in
theorem w_t1 : (words1.take 24).all (fun c => isCode c || c.before args0 about1) = true := by decide +kernel
set_option maxRecDepth 65536 in
theorem w_t2 : (words1.drop 24).all (fun c => isCode c || c.before args0 about1) = true := by decide +kernel
theorem w_tables : (allAtoms (Jvm.Cond.code x code maxLocals ret :: tables_1)).before args0 about1 = true := by
  rw [allAtoms_all]
  show words1.all (fun c => c.before args0 about1) = true
  refine all_split ?_ w_codes
  rw [← List.take_append_drop 24 words1, List.all_append, w_t1, w_t2]
  rfl
set_option maxRecDepth 65536 in
theorem w_case : (Jvm.Cond.and given_1 narrow_1).before args0 about1 = true := by decide +kernel
theorem w_applies : (headSpec (Jvm.Cond.code x code maxLocals ret :: tables_1) room_1).applies x e0.platform about1 = true :=
  (Spec.applies_iff w_frames).mpr ⟨w_running, w_runnable, w_alone, w_named, w_hears, w_ripe, w_room, w_tables⟩
theorem atStart : AtStart classFile x code maxLocals ret World_1 tables_1 room_1 Calls_1 rest_1 Pre_1 launch0 p0 e0 about1 theMethod args0 below0 :=
  ⟨lists_1, trivial, launch0.admits_env _ _ _, launch0.least_env, fairChoices_fair.cas, fairChoices_fair.clock, w_frames, w_args, w_heap, w_applies, trivial, trivial, w_case⟩
end start1
theorem witness_1 : WitnessClaimed_1 := ⟨start1.p0, start1.e0, start1.about1, start1.theMethod, start1.args0, start1.below0, start1.atStart⟩
end Jvm.Pilot.@@N@@
