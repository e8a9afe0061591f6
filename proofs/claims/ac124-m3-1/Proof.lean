import JvmDerived
import JvmDerived.Pilot.@@N@@Statement
import JvmDerived.Pilot.@@N@@Code
set_option linter.unusedVariables false
set_option linter.unusedSimpArgs false
namespace Jvm.RoadKit
open Sem ClassFile Op Lib Jvm.Stand Jvm.Free Jvm.LawKit
section New
variable {p : Program} {l : Launch} {e : Env} {R : Room} {s : State} {m : MethodId} {args : Array Value} {below : List Frame} {meth : Method} {c : Code} {T : State} {locs : List Loc} {cells slots : Nat}
theorem own_retV (X : Stand p l e R s m args below meth c T locs cells slots) (hx : p.tables.exec = Jvm.exec) {pc : Nat} {Ls : Array Slot} {w : Value} {rest : List Value} {t : FieldType} (hret : meth.sig.returnType = some t) (ht : t.isReference = true) (hw : w.isRef = true)
    (hd : decode c.code pc = .ok (.areturn, 1)) {fs : List Frame} (hl : ∀ (f : JFrame) (acts : List Action), f.method = m → f.locked = none → f.entered = [] → (doReturn e (T.setTop f) acts (some w)).1 = T.setFrames fs) :
    Steps p.tables e below (T.setTop (mkF m pc Ls (w :: rest))) (T.setFrames fs) :=
  retOut X hx hret (by cases t <;> first | rfl | cases ht) (Or.inr (Or.inr (Or.inr (Or.inr ⟨rfl, ht, hw⟩)))) hd hl
theorem own_retI (X : Stand p l e R s m args below meth c T locs cells slots) (hx : p.tables.exec = Jvm.exec) {pc : Nat} {Ls : Array Slot} {z : Int32} {rest : List Value} (hret : meth.sig.returnType = some .int)
    (hd : decode c.code pc = .ok (.ireturn, 1)) {fs : List Frame} (hl : ∀ (f : JFrame) (acts : List Action), f.method = m → f.locked = none → f.entered = [] → (doReturn e (T.setTop f) acts (some (.int z))).1 = T.setFrames fs) :
    Steps p.tables e below (T.setTop (mkF m pc Ls (.int z :: rest))) (T.setFrames fs) :=
  retOut X hx hret rfl (Or.inl ⟨rfl, Or.inl rfl, z, rfl⟩) hd hl
theorem own_retL (X : Stand p l e R s m args below meth c T locs cells slots) (hx : p.tables.exec = Jvm.exec) {pc : Nat} {Ls : Array Slot} {z : Int64} {rest : List Value} (hret : meth.sig.returnType = some .long)
    (hd : decode c.code pc = .ok (.lreturn, 1)) {fs : List Frame} (hl : ∀ (f : JFrame) (acts : List Action), f.method = m → f.locked = none → f.entered = [] → (doReturn e (T.setTop f) acts (some (.long z))).1 = T.setFrames fs) :
    Steps p.tables e below (T.setTop (mkF m pc Ls (.long z :: rest))) (T.setFrames fs) :=
  retOut X hx hret rfl (Or.inr (Or.inl ⟨rfl, rfl, z, rfl⟩)) hd hl
theorem own_go {tb : Tables} {e : Env} {below : List Frame} {A A' : State} {P : State → Outcome → Prop} (st : ∀ t, Steps tb e below A' t → Steps tb e below A t) (h : ∃ s₂ o, Steps tb e below A' s₂ ∧ P s₂ o) : ∃ s₂ o, Steps tb e below A s₂ ∧ P s₂ o :=
  let ⟨s₂, o, h1, h2⟩ := h
  ⟨s₂, o, st _ h1, h2⟩
theorem own_fld_inj {Z : State} {h : Heap} {a : Addr} {C n d : String} {v w : Value} (F : Fld Z h a C n d v) (G : Fld Z h a C n d w) : v = w := by
  obtain ⟨c1, cf1, k1, i1, f1, p1, p2, -, -, -, -, p5⟩ := F
  obtain ⟨c2, cf2, k2, i2, f2, q1, q2, -, -, -, -, q5⟩ := G
  rw [p1] at q1; cases q1
  rw [p2] at q2; cases q2
  have := p5.symm.trans q5
  simpa using this
theorem own_fld_ne {Z : State} {h : Heap} {a b : Addr} {C n d : String} {i j : Int32} (F : Fld Z h a C n d (.int i)) (G : Fld Z h b C n d (.int j)) (hij : ¬ i = j) : ¬ a = b := fun q => by
  subst q
  exact hij (Value.int.inj (own_fld_inj F G))
theorem own_keep_ext {h h' : Heap} (K : Keep h h' []) : Ext h h' := ⟨K.1, fun a c q => K.2.1 a c q nin0⟩
theorem own_sta_keep {Z : State} {h h' : Heap} {C n d K : String} {v : Value} {a : Addr} (F : Sta Z h C n d v) (k : Keep h h' [a]) (E : Exa Z h a K) : Sta Z h' C n d v := by
  obtain ⟨cf, i, kk, f, st, cell, h1, h2, h3, h4, h5, h6, h7⟩ := F
  refine ⟨cf, i, kk, f, st, cell, h1, h2, h3, h4, k.2.1 _ _ h5 (ninS (fun q => ?_) nin0), h6, h7⟩
  obtain ⟨cell', k', g1, -, -, g4, -⟩ := E
  subst q
  cases h5.symm.trans g1
  rw [h6] at g4; cases g4
theorem own_ext_trans {h h' h'' : Heap} (E : Ext h h') (F : Ext h' h'') : Ext h h'' := ⟨Nat.le_trans E.1 F.1, fun a c q => F.2 a c (E.2 a c q)⟩
theorem own_ext_keep {h h' h'' : Heap} {ws : List Addr} (E : Ext h h') (K : Keep h' h'' ws) (q : ∀ x ∈ ws, h.size ≤ x) : Ext h h'' :=
  ⟨Nat.le_trans E.1 K.1, fun a c r => K.2.1 a c (E.2 a c r) fun z => absurd (Array.getElem?_eq_some_iff.mp r).1 (Nat.not_lt.mpr (q a z))⟩
theorem own_ext_wr {h h' h'' : Heap} {b : Addr} {sl : Nat} {v : Value} (E : Ext h h') (W : Wr h' h'' b sl v) (q : h.size ≤ b) : Ext h h'' :=
  own_ext_keep E (Keep.of_wr W) fun x hx => by cases List.mem_singleton.mp hx; exact q
end New
end Jvm.RoadKit
namespace Jvm.Pilot.@@N@@
open Jvm Jvm.ClassFile Sem Op Lib Jvm.Free Jvm.Stand Jvm.LawKit Jvm.RoadKit Bundle Jvm.Pilot.@@N@@.Jvm.D
def mx (a b : Int32) : Int32 := if a < b then b else a
def wd (c : Int32) : Int32 := if (1 : Int32) < c then 1 else 0
theorem own_mx (x : Int32) : 1 ≤ (mx 1 x).toInt := by
  have e1 : (1 : Int32).toInt = 1 := by decide
  unfold mx
  split
  · rename_i h
    rw [Int32.lt_iff_toInt_lt, e1] at h
    omega
  · rw [e1]; omega
theorem own_cells (x : Int32) : ¬ mx 1 x < 1 := by
  have e1 : (1 : Int32).toInt = 1 := by decide
  have h := own_mx x
  rw [Int32.lt_iff_toInt_lt, e1]
  omega
theorem own_nz (x : Int32) : mx 1 x ≠ 0 := fun q => by
  have h := own_mx x
  rw [q] at h
  exact absurd h (by decide)
theorem own_colsV (x y : Int32) : 1 ≤ ((1 : Int32) + ((y &&& (2147483647 : Int32)) % mx 1 x)).toInt ∧ ((1 : Int32) + ((y &&& (2147483647 : Int32)) % mx 1 x)).toInt ≤ (mx 1 x).toInt := by
  have e1 : (1 : Int32).toInt = 1 := by decide
  have h := own_mx x
  have g := c_mask y 2147483647 31 (by decide) (by decide)
  have r := (c_iremV (y &&& (2147483647 : Int32)) (mx 1 x)).1 (by omega) (by omega)
  have a := c_iadd 1 ((y &&& (2147483647 : Int32)) % mx 1 x)
  have u := rng32 (mx 1 x)
  have v := rng32 ((1 : Int32) + ((y &&& (2147483647 : Int32)) % mx 1 x))
  rw [e1] at a
  omega
theorem own_cols1 (x y : Int32) : ¬ ((1 : Int32) + ((y &&& (2147483647 : Int32)) % mx 1 x)) < 1 := by
  have e1 : (1 : Int32).toInt = 1 := by decide
  have h := own_colsV x y
  rw [Int32.lt_iff_toInt_lt, e1]
  omega
theorem own_colsN (x y : Int32) : ¬ mx 1 x < ((1 : Int32) + ((y &&& (2147483647 : Int32)) % mx 1 x)) := by
  have h := own_colsV x y
  rw [Int32.lt_iff_toInt_lt]
  omega
theorem own_wd (x y : Int32) (h : ¬ ((1 : Int32) + ((y &&& (2147483647 : Int32)) % mx 1 x)) = 1) : wd ((1 : Int32) + ((y &&& (2147483647 : Int32)) % mx 1 x)) = 1 := by
  have e1 : (1 : Int32).toInt = 1 := by decide
  have q := own_colsV x y
  rw [← Int32.toInt_inj, e1] at h
  unfold wd
  rw [if_pos (by rw [Int32.lt_iff_toInt_lt, e1]; omega)]
theorem d1_0 : decode jdk_29_method_65_code 0 = .ok (.iload_n 0, 1) := by decide +kernel
theorem d1_1 : decode jdk_29_method_65_code 1 = .ok (.iload_n 1, 1) := by decide +kernel
theorem d1_2 : decode jdk_29_method_65_code 2 = .ok (.if_icmp .lt 7, 3) := by decide +kernel
theorem d1_5 : decode jdk_29_method_65_code 5 = .ok (.iload_n 0, 1) := by decide +kernel
theorem d1_6 : decode jdk_29_method_65_code 6 = .ok (.goto 4, 3) := by decide +kernel
theorem d1_9 : decode jdk_29_method_65_code 9 = .ok (.iload_n 1, 1) := by decide +kernel
theorem d1_10 : decode jdk_29_method_65_code 10 = .ok (.ireturn, 1) := by decide +kernel
theorem ef_1 (m : MethodId) (p0 : Int32) (p1 : Int32) : entryFrame m #[(.int p0), (.int p1)] 2 = mkF m 0 #[.val (.int p0), .val (.int p1)] [] := by first | (simp [entryFrame, mkF, argsToLocals, Value.category]; done) | rfl
def Q1 (Z : State) (p0 : Int32) (p1 : Int32)  (h0 : Heap) (n0 : Nat) (v : Option Value) (h : Heap) (L : List Loc) : Prop := v = some (.int (mx p0 p1)) ∧ Fr n0 L ∧ h = h0
set_option maxRecDepth 65536 in
set_option maxHeartbeats 40000000 in
theorem rm1 (l : Launch) (Z : State) (a0 : Array Value) (hw : ∀ d ∈ tables_1, d.before a0 Z = true) (ws : List Jvm.Cond) (p0 : Int32) (p1 : Int32)  (h0 : Heap) (n0 : Nat) (Z0 : n0 ≤ h0.size)  :
    MetFree l (⟨"java/lang/Math", "max", "(II)I"⟩ : MethodName) (head1 (Jvm.Cond.code (⟨"java/lang/Math", "max", "(II)I"⟩ : MethodName) jdk_29_method_65_code 2 (some .int) :: ws) ({ frames := 0, cells := 0, slots := 0, locals := 0 } : Room)) (fun a U => a = #[(.int p0), (.int p1)] ∧ Z.Warmed39 U.vm ∧ U.heap = h0) (fun _ _ _ _ _ => True) (fun _ U o U' => ∃ v L, o = .returned v ∧ Q1 Z p0 p1 h0 n0 v U'.heap L ∧ FrameEnd U o U' L ({ frames := 0, cells := 0, slots := 0, locals := 0 } : Room).cells ({ frames := 0, cells := 0, slots := 0, locals := 0 } : Room).slots) := by
  refine MetFree.of_bodySF (Jvm.Free.JP.mathPlain rfl (by decide +kernel)) hisR ?_
  intro p e s m args below meth c s₁ Bd hml0 hP hK
  obtain ⟨rfl, hZ, hh⟩ := hP
  have hx := Bd.exec
  have hby := Bd.bytes
  have hml : c.maxLocals = 2 := hml0
  have hown : s.vm.findClass "java/lang/Math" = some m.cls := findClass_of_methodNamed Bd.named
  have hnm := (name_of_methodNamed Bd.named Bd.method).1
  have X0 : Stand p l e ({ frames := 0, cells := 0, slots := 0, locals := 0 } : Room) s m #[(.int p0), (.int p1)] below meth c s₁ [] 0 0 := Stand.of_body Bd
  have e0 : s₁.heap = h0 := by rw [← hh, Bd.state]; rfl
  have N0 := Fr.nil n0
  refine own_go (A' := (s₁.setTop (mkF m 0 #[.val (.int p0), .val (.int p1)] []))) (fun t k => castTop (ef_1 m p0 p1) k) ?_
  refine own_go (A' := (s₁.setTop (mkF m 2 #[.val (.int p0), .val (.int p1)] [(.int p1), (.int p0)]))) (fun t k => ?_) ?_
  · show Steps p.tables e below (s₁.setTop (mkF m 0 #[.val (.int p0), .val (.int p1)] [])) _
    refine XS.iloadN X0.here hx rfl (hb hby d1_0) rfl ?_
    show Steps p.tables e below (s₁.setTop (mkF m 1 #[.val (.int p0), .val (.int p1)] [(.int p0)])) _
    refine XS.iloadN X0.here hx rfl (hb hby d1_1) rfl ?_
    exact k
  by_cases hc1 : p0 < p1
  · -- hc1: yes
    refine own_go (A' := (s₁.setTop (mkF m 9 #[.val (.int p0), .val (.int p1)] []))) (fun t k => XS.icmpYes X0.here hx rfl (pc0 := 2) (pc' := 9) rfl (hb hby d1_2) rfl (tlt hc1).1 (by decide) (by decide) k) ?_
    refine own_go (A' := (s₁.setTop (mkF m 10 #[.val (.int p0), .val (.int p1)] [(.int p1)]))) (fun t k => ?_) ?_
    · show Steps p.tables e below (s₁.setTop (mkF m 9 #[.val (.int p0), .val (.int p1)] [])) _
      refine XS.iloadN X0.here hx rfl (hb hby d1_9) rfl ?_
      exact k
    obtain ⟨fs, hr, hrun, hended, hW, hsame⟩ := X0.leave (v := some (.int p1)) (fun h => by rw [Bd.returns] at h; cases h)
    refine ⟨_, _, ?_, hrun, hended, _, _, rfl, ?_, ⟨_, rfl⟩, hW, hsame.mono (by decide) (by decide)⟩
    · show Steps p.tables e below (s₁.setTop (mkF m 10 #[.val (.int p0), .val (.int p1)] [(.int p1)])) _
      exact own_retI X0 hx Bd.returns (hb hby d1_10) hr
    · show Q1 Z p0 p1 h0 n0 _ s₁.heap _
      exact ⟨(by rw [mx, if_pos hc1]), N0, e0⟩
  · -- hc1: no
    refine own_go (A' := (s₁.setTop (mkF m 5 #[.val (.int p0), .val (.int p1)] []))) (fun t k => XS.icmpNo X0.here hx rfl (hb hby d1_2) rfl (flt hc1).1 k) ?_
    refine own_go (A' := (s₁.setTop (mkF m 10 #[.val (.int p0), .val (.int p1)] [(.int p0)]))) (fun t k => ?_) ?_
    · show Steps p.tables e below (s₁.setTop (mkF m 5 #[.val (.int p0), .val (.int p1)] [])) _
      refine XS.iloadN X0.here hx rfl (hb hby d1_5) rfl ?_
      show Steps p.tables e below (s₁.setTop (mkF m 6 #[.val (.int p0), .val (.int p1)] [(.int p0)])) _
      refine XS.goto X0.here hx rfl (pc0 := 6) (pc' := 10) rfl (hb hby d1_6) (by decide) (by decide) ?_
      exact k
    obtain ⟨fs, hr, hrun, hended, hW, hsame⟩ := X0.leave (v := some (.int p0)) (fun h => by rw [Bd.returns] at h; cases h)
    refine ⟨_, _, ?_, hrun, hended, _, _, rfl, ?_, ⟨_, rfl⟩, hW, hsame.mono (by decide) (by decide)⟩
    · show Steps p.tables e below (s₁.setTop (mkF m 10 #[.val (.int p0), .val (.int p1)] [(.int p0)])) _
      exact own_retI X0 hx Bd.returns (hb hby d1_10) hr
    · show Q1 Z p0 p1 h0 n0 _ s₁.heap _
      exact ⟨(by rw [mx, if_neg hc1]), N0, e0⟩
theorem d3_0 : decode jdk_32_method_1_code 0 = .ok (.getstatic 1, 3) := by decide +kernel
theorem d3_3 : decode jdk_32_method_1_code 3 = .ok (.astore_n 0, 1) := by decide +kernel
theorem d3_4 : decode jdk_32_method_1_code 4 = .ok (.aload_n 0, 1) := by decide +kernel
theorem d3_5 : decode jdk_32_method_1_code 5 = .ok (.areturn, 1) := by decide +kernel
theorem pn_3 : plainName "java/util/Optional" = true := by first | (simp [plainName, overriddenIn]; done) | decide +kernel
theorem ef_3 (m : MethodId)  : entryFrame m #[] 1 = mkF m 0 #[.unset] [] := by first | (simp [entryFrame, mkF, argsToLocals, Value.category]; done) | rfl
def Q3 (Z : State)  (w_EMPTY : Addr) (h0 : Heap) (n0 : Nat) (v : Option Value) (h : Heap) (L : List Loc) : Prop := v = some (.ref w_EMPTY) ∧ Fr n0 L ∧ h = h0
set_option maxRecDepth 65536 in
set_option maxHeartbeats 40000000 in
theorem rm3 (l : Launch) (Z : State) (a0 : Array Value) (hw : ∀ d ∈ tables_1, d.before a0 Z = true) (ws : List Jvm.Cond)  (w_EMPTY : Addr) (h0 : Heap) (n0 : Nat) (Z0 : n0 ≤ h0.size) (S_EMPTY : Sta Z h0 "java/util/Optional" "EMPTY" "Ljava/util/Optional;" (.ref w_EMPTY)) :
    MetFree l (⟨"java/util/Optional", "empty", "()Ljava/util/Optional;"⟩ : MethodName) (head1 (Jvm.Cond.code (⟨"java/util/Optional", "empty", "()Ljava/util/Optional;"⟩ : MethodName) jdk_32_method_1_code 1 (some (.object "java/util/Optional")) :: ws) ({ frames := 0, cells := 0, slots := 0, locals := 0 } : Room)) (fun a U => a = #[] ∧ Z.Warmed39 U.vm ∧ U.heap = h0) (fun _ _ _ _ _ => True) (fun _ U o U' => ∃ v L, o = .returned v ∧ Q3 Z w_EMPTY h0 n0 v U'.heap L ∧ FrameEnd U o U' L ({ frames := 0, cells := 0, slots := 0, locals := 0 } : Room).cells ({ frames := 0, cells := 0, slots := 0, locals := 0 } : Room).slots) := by
  refine MetFree.of_bodySF (plainFor_of_name pn_3) hisR ?_
  intro p e s m args below meth c s₁ Bd hml0 hP hK
  obtain ⟨rfl, hZ, hh⟩ := hP
  have hx := Bd.exec
  have hby := Bd.bytes
  have hml : c.maxLocals = 1 := hml0
  have hown : s.vm.findClass "java/util/Optional" = some m.cls := findClass_of_methodNamed Bd.named
  have hnm := (name_of_methodNamed Bd.named Bd.method).1
  have X0 : Stand p l e ({ frames := 0, cells := 0, slots := 0, locals := 0 } : Room) s m #[] below meth c s₁ [] 0 0 := Stand.of_body Bd
  have e0 : s₁.heap = h0 := by rw [← hh, Bd.state]; rfl
  have N0 := Fr.nil n0
  refine own_go (A' := (s₁.setTop (mkF m 0 #[.unset] []))) (fun t k => castTop (ef_3 m ) k) ?_
  obtain ⟨T2, X2, e2, st2⟩ := getS2 X0 hx hZ hown (host := "") (Or.inl (hw _ (List.mem_of_getElem? (i := 15) rfl))) Via.refl e0 S_EMPTY (g := (mkF m 0 #[.unset] [])) rfl (hb hby d3_0)
  refine own_go (A' := (T2.setTop (mkF m 5 #[.val (.ref w_EMPTY)] [(.ref w_EMPTY)]))) (fun t k => ?_) ?_
  · show Steps p.tables e below (s₁.setTop (mkF m 0 #[.unset] [])) _
    refine st2 _ ?_
    show Steps p.tables e below (T2.setTop (mkF m 3 #[.unset] [(.ref w_EMPTY)])) _
    refine XS.astoreN X2.here hx rfl (hb hby d3_3) rfl rfl (l' := #[.val (.ref w_EMPTY)]) rfl ?_
    show Steps p.tables e below (T2.setTop (mkF m 4 #[.val (.ref w_EMPTY)] [])) _
    refine XS.aloadN X2.here hx rfl (hb hby d3_4) rfl rfl ?_
    exact k
  obtain ⟨fs, hr, hrun, hended, hW, hsame⟩ := X2.leave (v := some (.ref w_EMPTY)) (fun h => by rw [Bd.returns] at h; cases h)
  refine ⟨_, _, ?_, hrun, hended, _, _, rfl, ?_, ⟨_, rfl⟩, hW, hsame.mono (by decide) (by decide)⟩
  · show Steps p.tables e below (T2.setTop (mkF m 5 #[.val (.ref w_EMPTY)] [(.ref w_EMPTY)])) _
    exact own_retV X2 hx Bd.returns rfl rfl (hb hby d3_5) hr
  · show Q3 Z w_EMPTY h0 n0 _ T2.heap _
    exact ⟨rfl, N0, e2⟩
theorem d7_0 : decode jdk_32_method_6_code 0 = .ok (.aload_n 0, 1) := by decide +kernel
theorem d7_1 : decode jdk_32_method_6_code 1 = .ok (.getfield 13, 3) := by decide +kernel
theorem d7_4 : decode jdk_32_method_6_code 4 = .ok (.ifnull 7, 3) := by decide +kernel
theorem d7_11 : decode jdk_32_method_6_code 11 = .ok (.iconst 0, 1) := by decide +kernel
theorem d7_12 : decode jdk_32_method_6_code 12 = .ok (.ireturn, 1) := by decide +kernel
theorem pn_7 : plainName "java/util/Optional" = true := by first | (simp [plainName, overriddenIn]; done) | decide +kernel
theorem ef_7 (m : MethodId) (r0 : Addr) : entryFrame m #[(.ref r0)] 1 = mkF m 0 #[.val (.ref r0)] [] := by first | (simp [entryFrame, mkF, argsToLocals, Value.category]; done) | rfl
def Q7 (Z : State) (r0 : Addr)  (h0 : Heap) (n0 : Nat) (v : Option Value) (h : Heap) (L : List Loc) : Prop := v = some (.int (0 : Int32)) ∧ Fr n0 L ∧ h = h0
set_option maxRecDepth 65536 in
set_option maxHeartbeats 40000000 in
theorem rm7 (l : Launch) (Z : State) (a0 : Array Value) (hw : ∀ d ∈ tables_1, d.before a0 Z = true) (ws : List Jvm.Cond) (r0 : Addr)  (h0 : Heap) (n0 : Nat) (Z0 : n0 ≤ h0.size) (F1 : Fld Z h0 r0 "java/util/Optional" "value" "Ljava/lang/Object;" .null) :
    MetFree l (⟨"java/util/Optional", "isPresent", "()Z"⟩ : MethodName) (head1 (Jvm.Cond.code (⟨"java/util/Optional", "isPresent", "()Z"⟩ : MethodName) jdk_32_method_6_code 1 (some .boolean) :: ws) ({ frames := 0, cells := 0, slots := 0, locals := 0 } : Room)) (fun a U => a = #[(.ref r0)] ∧ Z.Warmed39 U.vm ∧ U.heap = h0) (fun _ _ _ _ _ => True) (fun _ U o U' => ∃ v L, o = .returned v ∧ Q7 Z r0 h0 n0 v U'.heap L ∧ FrameEnd U o U' L ({ frames := 0, cells := 0, slots := 0, locals := 0 } : Room).cells ({ frames := 0, cells := 0, slots := 0, locals := 0 } : Room).slots) := by
  refine MetFree.of_bodySF (plainFor_of_name pn_7) hisR ?_
  intro p e s m args below meth c s₁ Bd hml0 hP hK
  obtain ⟨rfl, hZ, hh⟩ := hP
  have hx := Bd.exec
  have hby := Bd.bytes
  have hml : c.maxLocals = 1 := hml0
  have hown : s.vm.findClass "java/util/Optional" = some m.cls := findClass_of_methodNamed Bd.named
  have hnm := (name_of_methodNamed Bd.named Bd.method).1
  have X0 : Stand p l e ({ frames := 0, cells := 0, slots := 0, locals := 0 } : Room) s m #[(.ref r0)] below meth c s₁ [] 0 0 := Stand.of_body Bd
  have e0 : s₁.heap = h0 := by rw [← hh, Bd.state]; rfl
  have N0 := Fr.nil n0
  refine own_go (A' := (s₁.setTop (mkF m 0 #[.val (.ref r0)] []))) (fun t k => castTop (ef_7 m r0) k) ?_
  obtain ⟨T3, X3, e3, st3⟩ := getF X0 hx hZ hown (host := "") (Or.inl (hw _ (List.mem_of_getElem? (i := 32) rfl))) Via.refl e0 F1 (g := (mkF m 1 #[.val (.ref r0)] [(.ref r0)])) rfl rfl (hb hby d7_1)
  refine own_go (A' := (T3.setTop (mkF m 4 #[.val (.ref r0)] [.null]))) (fun t k => ?_) ?_
  · show Steps p.tables e below (s₁.setTop (mkF m 0 #[.val (.ref r0)] [])) _
    refine XS.aloadN X0.here hx rfl (hb hby d7_0) rfl rfl ?_
    show Steps p.tables e below (s₁.setTop (mkF m 1 #[.val (.ref r0)] [(.ref r0)])) _
    refine st3 _ ?_
    exact k
  refine own_go (A' := (T3.setTop (mkF m 11 #[.val (.ref r0)] []))) (fun t k => XS.ifnullYes X3.here hx rfl (pc0 := 4) (pc' := 11) rfl (hb hby d7_4) rfl (by decide) (by decide) k) ?_
  refine own_go (A' := (T3.setTop (mkF m 12 #[.val (.ref r0)] [(.int (0 : Int32))]))) (fun t k => ?_) ?_
  · show Steps p.tables e below (T3.setTop (mkF m 11 #[.val (.ref r0)] [])) _
    refine XS.iconst X3.here hx rfl (hb hby d7_11) ?_
    exact k
  obtain ⟨fs, hr, hrun, hended, hW, hsame⟩ := X3.leave (v := some (.int (0 : Int32))) (fun h => by rw [Bd.returns] at h; cases h)
  refine ⟨_, _, ?_, hrun, hended, _, _, rfl, ?_, ⟨_, rfl⟩, hW, hsame.mono (by decide) (by decide)⟩
  · show Steps p.tables e below (T3.setTop (mkF m 12 #[.val (.ref r0)] [(.int (0 : Int32))])) _
    exact retN X3 hx (t := .boolean) Bd.returns (by simp) (hb hby d7_12) hr
  · show Q7 Z r0 h0 n0 _ T3.heap _
    exact ⟨rfl, N0, e3⟩
theorem d5_0 : decode jdk_30_method_1_code 0 = .ok (.aload_n 0, 1) := by decide +kernel
theorem d5_1 : decode jdk_30_method_1_code 1 = .ok (.invokespecial 1, 3) := by decide +kernel
theorem d5_4 : decode jdk_30_method_1_code 4 = .ok (.return_, 1) := by decide +kernel
theorem pn_5 : plainName "java/lang/Record" = true := by first | (simp [plainName, overriddenIn]; done) | decide +kernel
theorem ef_5 (m : MethodId) (r0 : Addr) : entryFrame m #[(.ref r0)] 1 = mkF m 0 #[.val (.ref r0)] [] := by first | (simp [entryFrame, mkF, argsToLocals, Value.category]; done) | rfl
def Q5 (Z : State) (r0 : Addr)  (h0 : Heap) (n0 : Nat) (v : Option Value) (h : Heap) (L : List Loc) : Prop := v = none ∧ Fr n0 L ∧ h = h0
set_option maxRecDepth 65536 in
set_option maxHeartbeats 40000000 in
theorem rm5 (l : Launch) (Z : State) (a0 : Array Value) (hw : ∀ d ∈ tables_1, d.before a0 Z = true) (ws : List Jvm.Cond) (r0 : Addr)  (h0 : Heap) (n0 : Nat) (Z0 : n0 ≤ h0.size)  :
    MetFree l (⟨"java/lang/Record", "<init>", "()V"⟩ : MethodName) (head1 (Jvm.Cond.code (⟨"java/lang/Record", "<init>", "()V"⟩ : MethodName) jdk_30_method_1_code 1 none :: ws) ({ frames := 1, cells := 0, slots := 0, locals := 12 } : Room)) (fun a U => a = #[(.ref r0)] ∧ Z.Warmed39 U.vm ∧ U.heap = h0) (fun _ _ _ _ _ => True) (fun _ U o U' => ∃ v L, o = .returned v ∧ Q5 Z r0 h0 n0 v U'.heap L ∧ FrameEnd U o U' L ({ frames := 1, cells := 0, slots := 0, locals := 12 } : Room).cells ({ frames := 1, cells := 0, slots := 0, locals := 12 } : Room).slots) := by
  refine MetFree.of_bodySF (plainFor_of_name pn_5) hisR ?_
  intro p e s m args below meth c s₁ Bd hml0 hP hK
  obtain ⟨rfl, hZ, hh⟩ := hP
  have hx := Bd.exec
  have hby := Bd.bytes
  have hml : c.maxLocals = 1 := hml0
  have hown : s.vm.findClass "java/lang/Record" = some m.cls := findClass_of_methodNamed Bd.named
  have hnm := (name_of_methodNamed Bd.named Bd.method).1
  have X0 : Stand p l e ({ frames := 1, cells := 0, slots := 0, locals := 12 } : Room) s m #[(.ref r0)] below meth c s₁ [] 0 0 := Stand.of_body Bd
  have e0 : s₁.heap = h0 := by rw [← hh, Bd.state]; rfl
  have N0 := Fr.nil n0
  refine own_go (A' := (s₁.setTop (mkF m 0 #[.val (.ref r0)] []))) (fun t k => castTop (ef_5 m r0) k) ?_
  obtain ⟨T4, X4, e4, st4⟩ := initO X0 hx hZ hown (hw _ (List.mem_of_getElem? (i := 24) rfl)) (hw _ (List.mem_of_getElem? (i := 25) rfl)) (hw _ (List.mem_of_getElem? (i := 26) rfl)) e0 (g := (mkF m 1 #[.val (.ref r0)] [(.ref r0)])) rfl (by rw [hml]; rfl) rfl (hb hby d5_1) (by decide) (W := 0) (by show 2 * 0 + _ ≤ _; exact Nat.le_of_eq rfl) (by decide)
  refine own_go (A' := (T4.setTop (mkF m 4 #[.val (.ref r0)] []))) (fun t k => ?_) ?_
  · show Steps p.tables e below (s₁.setTop (mkF m 0 #[.val (.ref r0)] [])) _
    refine XS.aloadN X0.here hx rfl (hb hby d5_0) rfl rfl ?_
    show Steps p.tables e below (s₁.setTop (mkF m 1 #[.val (.ref r0)] [(.ref r0)])) _
    refine st4 _ ?_
    exact k
  obtain ⟨fs, hr, hrun, hended, hW, hsame⟩ := X4.leave (v := none) (fun _ => rfl)
  refine ⟨_, _, ?_, hrun, hended, _, _, rfl, ?_, ⟨_, rfl⟩, hW, hsame.mono (by decide) (by decide)⟩
  · show Steps p.tables e below (T4.setTop (mkF m 4 #[.val (.ref r0)] [])) _
    exact X4.returnOut hx Bd.returns (hb hby d5_4) hr
  · show Q5 Z r0 h0 n0 _ T4.heap _
    exact ⟨rfl, N0, e4⟩
theorem pd_0 : parseMethodDescriptor "()V" = some ⟨[], none⟩ := by decide +kernel
theorem pd_1 : parseMethodDescriptor "()Z" = some ⟨[], some .boolean⟩ := by decide +kernel
theorem d4_0 : decode prog_49_method_1_code 0 = .ok (.aload_n 0, 1) := by decide +kernel
theorem d4_1 : decode prog_49_method_1_code 1 = .ok (.invokespecial 1, 3) := by decide +kernel
theorem d4_4 : decode prog_49_method_1_code 4 = .ok (.aload_n 3, 1) := by decide +kernel
theorem d4_5 : decode prog_49_method_1_code 5 = .ok (.invokevirtual 7, 3) := by decide +kernel
theorem d4_8 : decode prog_49_method_1_code 8 = .ok (.ifCond .eq 45, 3) := by decide +kernel
theorem d4_53 : decode prog_49_method_1_code 53 = .ok (.iload_n 2, 1) := by decide +kernel
theorem d4_54 : decode prog_49_method_1_code 54 = .ok (.iload_n 1, 1) := by decide +kernel
theorem d4_55 : decode prog_49_method_1_code 55 = .ok (.if_icmp .gt 7, 3) := by decide +kernel
theorem d4_58 : decode prog_49_method_1_code 58 = .ok (.iconst 1, 1) := by decide +kernel
theorem d4_59 : decode prog_49_method_1_code 59 = .ok (.goto 4, 3) := by decide +kernel
theorem d4_63 : decode prog_49_method_1_code 63 = .ok (.istore 4, 2) := by decide +kernel
theorem d4_65 : decode prog_49_method_1_code 65 = .ok (.iload_n 1, 1) := by decide +kernel
theorem d4_66 : decode prog_49_method_1_code 66 = .ok (.iconst 1, 1) := by decide +kernel
theorem d4_67 : decode prog_49_method_1_code 67 = .ok (.if_icmp .lt 13, 3) := by decide +kernel
theorem d4_70 : decode prog_49_method_1_code 70 = .ok (.iload_n 2, 1) := by decide +kernel
theorem d4_71 : decode prog_49_method_1_code 71 = .ok (.iconst 1, 1) := by decide +kernel
theorem d4_72 : decode prog_49_method_1_code 72 = .ok (.if_icmp .lt 8, 3) := by decide +kernel
theorem d4_75 : decode prog_49_method_1_code 75 = .ok (.iload 4, 2) := by decide +kernel
theorem d4_77 : decode prog_49_method_1_code 77 = .ok (.ifCond .ne 18, 3) := by decide +kernel
theorem d4_95 : decode prog_49_method_1_code 95 = .ok (.aload_n 0, 1) := by decide +kernel
theorem d4_96 : decode prog_49_method_1_code 96 = .ok (.iload_n 1, 1) := by decide +kernel
theorem d4_97 : decode prog_49_method_1_code 97 = .ok (.putfield 35, 3) := by decide +kernel
theorem d4_100 : decode prog_49_method_1_code 100 = .ok (.aload_n 0, 1) := by decide +kernel
theorem d4_101 : decode prog_49_method_1_code 101 = .ok (.iload_n 2, 1) := by decide +kernel
theorem d4_102 : decode prog_49_method_1_code 102 = .ok (.putfield 41, 3) := by decide +kernel
theorem d4_105 : decode prog_49_method_1_code 105 = .ok (.aload_n 0, 1) := by decide +kernel
theorem d4_106 : decode prog_49_method_1_code 106 = .ok (.aload_n 3, 1) := by decide +kernel
theorem d4_107 : decode prog_49_method_1_code 107 = .ok (.putfield 43, 3) := by decide +kernel
theorem d4_110 : decode prog_49_method_1_code 110 = .ok (.return_, 1) := by decide +kernel
theorem pn_4 : plainName "com/example/reactions_to_maps/reactionstomaps/layout/DistrictPacking$Need" = true := by first | (simp [plainName, overriddenIn]; done) | decide +kernel
theorem ef_4 (m : MethodId) (r0 : Addr) (p1 : Int32) (p2 : Int32) (r3 : Addr) : entryFrame m #[(.ref r0), (.int p1), (.int p2), (.ref r3)] 5 = mkF m 0 #[.val (.ref r0), .val (.int p1), .val (.int p2), .val (.ref r3), .unset] [] := by first | (simp [entryFrame, mkF, argsToLocals, Value.category]; done) | rfl
def Q4 (Z : State) (r0 : Addr) (p1 : Int32) (p2 : Int32) (r3 : Addr)  (h0 : Heap) (n0 : Nat) (v : Option Value) (h : Heap) (L : List Loc) : Prop := v = none ∧ Fr n0 L ∧ Keep h0 h [r0] ∧ Exa Z h r0 "com/example/reactions_to_maps/reactionstomaps/layout/DistrictPacking$Need" ∧ Fld Z h r0 "com/example/reactions_to_maps/reactionstomaps/layout/DistrictPacking$Need" "columns" "I" (.int p2)
set_option maxRecDepth 65536 in
set_option maxHeartbeats 40000000 in
theorem rm4 (l : Launch) (Z : State) (a0 : Array Value) (hw : ∀ d ∈ tables_1, d.before a0 Z = true) (ws : List Jvm.Cond) (r0 : Addr) (p1 : Int32) (p2 : Int32) (r3 : Addr)  (h0 : Heap) (n0 : Nat) (Z0 : n0 ≤ h0.size) (E0_r0 : Exa Z h0 r0 "com/example/reactions_to_maps/reactionstomaps/layout/DistrictPacking$Need") (F0_cells : Fld Z h0 r0 "com/example/reactions_to_maps/reactionstomaps/layout/DistrictPacking$Need" "cells" "I" (.int (0 : Int32))) (F0_columns : Fld Z h0 r0 "com/example/reactions_to_maps/reactionstomaps/layout/DistrictPacking$Need" "columns" "I" (.int (0 : Int32))) (F0_room : Fld Z h0 r0 "com/example/reactions_to_maps/reactionstomaps/layout/DistrictPacking$Need" "room" "Ljava/util/Optional;" .null) (g_r0 : n0 ≤ r0) (E_r3 : Exa Z h0 r3 "java/util/Optional") (F_r3 : Fld Z h0 r3 "java/util/Optional" "value" "Ljava/lang/Object;" .null) (hp1 : ¬ p1 < (1 : Int32)) (hp2 : ¬ p2 < (1 : Int32)) (hle : ¬ p1 < p2) :
    MetFree l (⟨"com/example/reactions_to_maps/reactionstomaps/layout/DistrictPacking$Need", "<init>", "(IILjava/util/Optional;)V"⟩ : MethodName) (head1 (Jvm.Cond.code (⟨"com/example/reactions_to_maps/reactionstomaps/layout/DistrictPacking$Need", "<init>", "(IILjava/util/Optional;)V"⟩ : MethodName) prog_49_method_1_code 5 none :: ws) ({ frames := 2, cells := 0, slots := 0, locals := 24 } : Room)) (fun a U => a = #[(.ref r0), (.int p1), (.int p2), (.ref r3)] ∧ Z.Warmed39 U.vm ∧ U.heap = h0) (fun _ _ _ _ _ => True) (fun _ U o U' => ∃ v L, o = .returned v ∧ Q4 Z r0 p1 p2 r3 h0 n0 v U'.heap L ∧ FrameEnd U o U' L ({ frames := 2, cells := 0, slots := 0, locals := 24 } : Room).cells ({ frames := 2, cells := 0, slots := 0, locals := 24 } : Room).slots) := by
  refine MetFree.of_bodySF (plainFor_of_name pn_4) hisR ?_
  intro p e s m args below meth c s₁ Bd hml0 hP hK
  obtain ⟨rfl, hZ, hh⟩ := hP
  have hx := Bd.exec
  have hby := Bd.bytes
  have hml : c.maxLocals = 5 := hml0
  have hown : s.vm.findClass "com/example/reactions_to_maps/reactionstomaps/layout/DistrictPacking$Need" = some m.cls := findClass_of_methodNamed Bd.named
  have hnm := (name_of_methodNamed Bd.named Bd.method).1
  have X0 : Stand p l e ({ frames := 2, cells := 0, slots := 0, locals := 24 } : Room) s m #[(.ref r0), (.int p1), (.int p2), (.ref r3)] below meth c s₁ [] 0 0 := Stand.of_body Bd
  have e0 : s₁.heap = h0 := by rw [← hh, Bd.state]; rfl
  have N0 := Fr.nil n0
  refine own_go (A' := (s₁.setTop (mkF m 0 #[.val (.ref r0), .val (.int p1), .val (.int p2), .val (.ref r3), .unset] []))) (fun t k => castTop (ef_4 m r0 p1 p2 r3) k) ?_
  obtain ⟨_, _, ⟨T5, L5, k5, n5⟩, -, X5, ⟨Lc5, hQ5, l5, y5, z5⟩, st5⟩ := X0.specialBack hx (y := (⟨"java/lang/Record", "<init>", "()V"⟩ : MethodName)) rfl hown (mvT hZ (hw _ (List.mem_of_getElem? (i := 19) rfl))) (mvT hZ (hw _ (List.mem_of_getElem? (i := 20) rfl))) (mvT hZ (hw _ (List.mem_of_getElem? (i := 23) rfl))) (by decide) (backOf (W := 0) (rm5 l Z a0 hw [] r0  h0 n0 Z0 ) hZ (hw _ (List.mem_of_getElem? (i := 23) rfl)) (hw _ (List.mem_of_getElem? (i := 22) rfl)) (by decide) (by decide)) (g := (mkF m 1 #[.val (.ref r0), .val (.int p1), .val (.int p2), .val (.ref r3), .unset] [(.ref r0)])) rfl (by rw [hml]; rfl) (Steps.refl _) (a := r0) (argsL := []) (rest := []) (lenOf pd_0 rfl) rfl (by show 2 * 0 + _ ≤ _; exact Nat.le_of_eq rfl) (hb hby d4_1) (fun _ _ => ⟨rfl, e0, (by decide : 0 + 0 ≤ _), (by decide : 0 + 0 ≤ _)⟩)
  dsimp only [Pt.U, Pt.locs, Pt.cells, Pt.slots] at X5 l5 y5 z5 st5 hQ5
  subst l5 y5 z5
  obtain ⟨rfl, N5q, e5⟩ := hQ5
  have N5 := Fr.app N0 N5q
  obtain ⟨cq6, kq6, q6a, q6b, q6c⟩ := isOf hZ e5 E_r3
  obtain ⟨_, _, ⟨T6, L6, k6, n6⟩, -, X6, ⟨Lc6, hQ6, l6, y6, z6⟩, st6⟩ := X5.virtualBack hx (y := (⟨"java/util/Optional", "isPresent", "()Z"⟩ : MethodName)) (z := (⟨"java/util/Optional", "isPresent", "()Z"⟩ : MethodName)) hown (mvT hZ (hw _ (List.mem_of_getElem? (i := 27) rfl))) (mvT hZ (hw _ (List.mem_of_getElem? (i := 28) rfl))) (notFace_of_selects (args := #[]) (mvT hZ (hw _ (List.mem_of_getElem? (i := 30) rfl)))) (mvT hZ (hw _ (List.mem_of_getElem? (i := 30) rfl))) (mvT hZ (hw _ (List.mem_of_getElem? (i := 29) rfl))) (by decide) (backOf (W := 0) (rm7 l Z a0 hw [] r3  h0 n0 Z0 F_r3) hZ (hw _ (List.mem_of_getElem? (i := 31) rfl)) (hw _ (List.mem_of_getElem? (i := 13) rfl)) (by decide) (by decide)) q6a q6c (g := (mkF m 5 #[.val (.ref r0), .val (.int p1), .val (.int p2), .val (.ref r3), .unset] [(.ref r3)])) rfl (by rw [hml]; rfl) (Steps.refl _) (argsL := []) (rest := []) (lenOf pd_1 rfl) rfl (by show 2 * 0 + _ ≤ _; exact Nat.le_of_eq rfl) (hb hby d4_5) (fun _ _ => ⟨rfl, e5, (by decide : 0 + 0 ≤ _), (by decide : 0 + 0 ≤ _)⟩)
  dsimp only [Pt.U, Pt.locs, Pt.cells, Pt.slots] at X6 l6 y6 z6 st6 hQ6
  subst l6 y6 z6
  obtain ⟨rfl, N6q, e6⟩ := hQ6
  have N6 := Fr.app N5 N6q
  refine own_go (A' := (T6.setTop (mkF m 8 #[.val (.ref r0), .val (.int p1), .val (.int p2), .val (.ref r3), .unset] [(.int (0 : Int32))]))) (fun t k => ?_) ?_
  · show Steps p.tables e below (s₁.setTop (mkF m 0 #[.val (.ref r0), .val (.int p1), .val (.int p2), .val (.ref r3), .unset] [])) _
    refine XS.aloadN X0.here hx rfl (hb hby d4_0) rfl rfl ?_
    show Steps p.tables e below (s₁.setTop (mkF m 1 #[.val (.ref r0), .val (.int p1), .val (.int p2), .val (.ref r3), .unset] [(.ref r0)])) _
    refine st5.trans ?_
    show Steps p.tables e below (T5.setTop (mkF m 4 #[.val (.ref r0), .val (.int p1), .val (.int p2), .val (.ref r3), .unset] [])) _
    refine XS.aloadN X5.here hx rfl (hb hby d4_4) rfl rfl ?_
    show Steps p.tables e below (T5.setTop (mkF m 5 #[.val (.ref r0), .val (.int p1), .val (.int p2), .val (.ref r3), .unset] [(.ref r3)])) _
    refine st6.trans ?_
    exact k
  refine own_go (A' := (T6.setTop (mkF m 53 #[.val (.ref r0), .val (.int p1), .val (.int p2), .val (.ref r3), .unset] []))) (fun t k => XS.ifYes X6.here hx rfl (pc0 := 8) (pc' := 53) rfl (hb hby d4_8) rfl ((if0 _ _).trans (teq (by decide : (0 : Int32) = (0 : Int32))).1) (by decide) (by decide) k) ?_
  refine own_go (A' := (T6.setTop (mkF m 55 #[.val (.ref r0), .val (.int p1), .val (.int p2), .val (.ref r3), .unset] [(.int p1), (.int p2)]))) (fun t k => ?_) ?_
  · show Steps p.tables e below (T6.setTop (mkF m 53 #[.val (.ref r0), .val (.int p1), .val (.int p2), .val (.ref r3), .unset] [])) _
    refine XS.iloadN X6.here hx rfl (hb hby d4_53) rfl ?_
    show Steps p.tables e below (T6.setTop (mkF m 54 #[.val (.ref r0), .val (.int p1), .val (.int p2), .val (.ref r3), .unset] [(.int p2)])) _
    refine XS.iloadN X6.here hx rfl (hb hby d4_54) rfl ?_
    exact k
  refine own_go (A' := (T6.setTop (mkF m 58 #[.val (.ref r0), .val (.int p1), .val (.int p2), .val (.ref r3), .unset] []))) (fun t k => XS.icmpNo X6.here hx rfl (hb hby d4_55) rfl (flt hle).2.2.1 k) ?_
  refine own_go (A' := (T6.setTop (mkF m 67 #[.val (.ref r0), .val (.int p1), .val (.int p2), .val (.ref r3), .val (.int (1 : Int32))] [(.int (1 : Int32)), (.int p1)]))) (fun t k => ?_) ?_
  · show Steps p.tables e below (T6.setTop (mkF m 58 #[.val (.ref r0), .val (.int p1), .val (.int p2), .val (.ref r3), .unset] [])) _
    refine XS.iconst X6.here hx rfl (hb hby d4_58) ?_
    show Steps p.tables e below (T6.setTop (mkF m 59 #[.val (.ref r0), .val (.int p1), .val (.int p2), .val (.ref r3), .unset] [(.int (1 : Int32))])) _
    refine XS.goto X6.here hx rfl (pc0 := 59) (pc' := 63) rfl (hb hby d4_59) (by decide) (by decide) ?_
    show Steps p.tables e below (T6.setTop (mkF m 63 #[.val (.ref r0), .val (.int p1), .val (.int p2), .val (.ref r3), .unset] [(.int (1 : Int32))])) _
    refine XS.istore X6.here hx rfl (hb hby d4_63) rfl (l' := #[.val (.ref r0), .val (.int p1), .val (.int p2), .val (.ref r3), .val (.int (1 : Int32))]) rfl ?_
    show Steps p.tables e below (T6.setTop (mkF m 65 #[.val (.ref r0), .val (.int p1), .val (.int p2), .val (.ref r3), .val (.int (1 : Int32))] [])) _
    refine XS.iloadN X6.here hx rfl (hb hby d4_65) rfl ?_
    show Steps p.tables e below (T6.setTop (mkF m 66 #[.val (.ref r0), .val (.int p1), .val (.int p2), .val (.ref r3), .val (.int (1 : Int32))] [(.int p1)])) _
    refine XS.iconst X6.here hx rfl (hb hby d4_66) ?_
    exact k
  refine own_go (A' := (T6.setTop (mkF m 70 #[.val (.ref r0), .val (.int p1), .val (.int p2), .val (.ref r3), .val (.int (1 : Int32))] []))) (fun t k => XS.icmpNo X6.here hx rfl (hb hby d4_67) rfl (flt hp1).1 k) ?_
  refine own_go (A' := (T6.setTop (mkF m 72 #[.val (.ref r0), .val (.int p1), .val (.int p2), .val (.ref r3), .val (.int (1 : Int32))] [(.int (1 : Int32)), (.int p2)]))) (fun t k => ?_) ?_
  · show Steps p.tables e below (T6.setTop (mkF m 70 #[.val (.ref r0), .val (.int p1), .val (.int p2), .val (.ref r3), .val (.int (1 : Int32))] [])) _
    refine XS.iloadN X6.here hx rfl (hb hby d4_70) rfl ?_
    show Steps p.tables e below (T6.setTop (mkF m 71 #[.val (.ref r0), .val (.int p1), .val (.int p2), .val (.ref r3), .val (.int (1 : Int32))] [(.int p2)])) _
    refine XS.iconst X6.here hx rfl (hb hby d4_71) ?_
    exact k
  refine own_go (A' := (T6.setTop (mkF m 75 #[.val (.ref r0), .val (.int p1), .val (.int p2), .val (.ref r3), .val (.int (1 : Int32))] []))) (fun t k => XS.icmpNo X6.here hx rfl (hb hby d4_72) rfl (flt hp2).1 k) ?_
  refine own_go (A' := (T6.setTop (mkF m 77 #[.val (.ref r0), .val (.int p1), .val (.int p2), .val (.ref r3), .val (.int (1 : Int32))] [(.int (1 : Int32))]))) (fun t k => ?_) ?_
  · show Steps p.tables e below (T6.setTop (mkF m 75 #[.val (.ref r0), .val (.int p1), .val (.int p2), .val (.ref r3), .val (.int (1 : Int32))] [])) _
    refine XS.iload X6.here hx rfl (hb hby d4_75) rfl ?_
    exact k
  refine own_go (A' := (T6.setTop (mkF m 95 #[.val (.ref r0), .val (.int p1), .val (.int p2), .val (.ref r3), .val (.int (1 : Int32))] []))) (fun t k => XS.ifYes X6.here hx rfl (pc0 := 77) (pc' := 95) rfl (hb hby d4_77) rfl ((if0 _ _).trans (feq (by decide : ¬ ((1 : Int32) = (0 : Int32)))).2) (by decide) (by decide) k) ?_
  obtain ⟨T7, h7, X7, e7, W7, st7⟩ := putF X6 hx hZ hown (host := "") (Or.inl (hw _ (List.mem_of_getElem? (i := 34) rfl))) Via.refl e6 F0_cells E0_r0 (Or.inr ⟨(hw _ (List.mem_of_getElem? (i := 35) rfl)), rfl, hnm⟩) (hw _ (List.mem_of_getElem? (i := 6) rfl)) (ty := .int) (by decide) rfl rfl (g := (mkF m 97 #[.val (.ref r0), .val (.int p1), .val (.int p2), .val (.ref r3), .val (.int (1 : Int32))] [(.int p1), (.ref r0)])) rfl rfl (hb hby d4_97)
  have K7 : Keep h0 h7 [r0] := (Keep.refl h0 [r0]).wr W7 (Or.inl (List.mem_of_getElem? (i := 0) rfl))
  have N7 := Fr.snoc X7 N6 g_r0
  obtain ⟨T8, h8, X8, e8, W8, st8⟩ := putF X7 hx hZ hown (host := "") (Or.inl (hw _ (List.mem_of_getElem? (i := 36) rfl))) Via.refl e7 (F0_columns.other W7 (Or.inr (slot_ne (Or.inr (hw _ (List.mem_of_getElem? (i := 37) rfl))) (Or.inr (hw _ (List.mem_of_getElem? (i := 35) rfl))) (by decide) (t := .int) (t' := .int) (by decide) (by decide)))) (E0_r0.wr W7) (Or.inr ⟨(hw _ (List.mem_of_getElem? (i := 37) rfl)), rfl, hnm⟩) (hw _ (List.mem_of_getElem? (i := 6) rfl)) (ty := .int) (by decide) rfl rfl (g := (mkF m 102 #[.val (.ref r0), .val (.int p1), .val (.int p2), .val (.ref r3), .val (.int (1 : Int32))] [(.int p2), (.ref r0)])) rfl rfl (hb hby d4_102)
  have K8 : Keep h0 h8 [r0] := K7.wr W8 (Or.inl (List.mem_of_getElem? (i := 0) rfl))
  have N8 := Fr.snoc X8 N7 g_r0
  obtain ⟨T9, h9, X9, e9, W9, st9⟩ := putF X8 hx hZ hown (host := "") (Or.inl (hw _ (List.mem_of_getElem? (i := 38) rfl))) Via.refl e8 ((F0_room.other W7 (Or.inr (slot_ne (Or.inr (hw _ (List.mem_of_getElem? (i := 39) rfl))) (Or.inr (hw _ (List.mem_of_getElem? (i := 35) rfl))) (by decide) (t := (.object "java/util/Optional")) (t' := .int) (by decide) (by decide)))).other W8 (Or.inr (slot_ne (Or.inr (hw _ (List.mem_of_getElem? (i := 39) rfl))) (Or.inr (hw _ (List.mem_of_getElem? (i := 37) rfl))) (by decide) (t := (.object "java/util/Optional")) (t' := .int) (by decide) (by decide)))) ((E0_r0.wr W7).wr W8) (Or.inr ⟨(hw _ (List.mem_of_getElem? (i := 39) rfl)), rfl, hnm⟩) (hw _ (List.mem_of_getElem? (i := 6) rfl)) (ty := (.object "java/util/Optional")) (by decide) rfl rfl (g := (mkF m 107 #[.val (.ref r0), .val (.int p1), .val (.int p2), .val (.ref r3), .val (.int (1 : Int32))] [(.ref r3), (.ref r0)])) rfl rfl (hb hby d4_107)
  have K9 : Keep h0 h9 [r0] := K8.wr W9 (Or.inl (List.mem_of_getElem? (i := 0) rfl))
  have N9 := Fr.snoc X9 N8 g_r0
  refine own_go (A' := (T9.setTop (mkF m 110 #[.val (.ref r0), .val (.int p1), .val (.int p2), .val (.ref r3), .val (.int (1 : Int32))] []))) (fun t k => ?_) ?_
  · show Steps p.tables e below (T6.setTop (mkF m 95 #[.val (.ref r0), .val (.int p1), .val (.int p2), .val (.ref r3), .val (.int (1 : Int32))] [])) _
    refine XS.aloadN X6.here hx rfl (hb hby d4_95) rfl rfl ?_
    show Steps p.tables e below (T6.setTop (mkF m 96 #[.val (.ref r0), .val (.int p1), .val (.int p2), .val (.ref r3), .val (.int (1 : Int32))] [(.ref r0)])) _
    refine XS.iloadN X6.here hx rfl (hb hby d4_96) rfl ?_
    show Steps p.tables e below (T6.setTop (mkF m 97 #[.val (.ref r0), .val (.int p1), .val (.int p2), .val (.ref r3), .val (.int (1 : Int32))] [(.int p1), (.ref r0)])) _
    refine st7 _ ?_
    show Steps p.tables e below (T7.setTop (mkF m 100 #[.val (.ref r0), .val (.int p1), .val (.int p2), .val (.ref r3), .val (.int (1 : Int32))] [])) _
    refine XS.aloadN X7.here hx rfl (hb hby d4_100) rfl rfl ?_
    show Steps p.tables e below (T7.setTop (mkF m 101 #[.val (.ref r0), .val (.int p1), .val (.int p2), .val (.ref r3), .val (.int (1 : Int32))] [(.ref r0)])) _
    refine XS.iloadN X7.here hx rfl (hb hby d4_101) rfl ?_
    show Steps p.tables e below (T7.setTop (mkF m 102 #[.val (.ref r0), .val (.int p1), .val (.int p2), .val (.ref r3), .val (.int (1 : Int32))] [(.int p2), (.ref r0)])) _
    refine st8 _ ?_
    show Steps p.tables e below (T8.setTop (mkF m 105 #[.val (.ref r0), .val (.int p1), .val (.int p2), .val (.ref r3), .val (.int (1 : Int32))] [])) _
    refine XS.aloadN X8.here hx rfl (hb hby d4_105) rfl rfl ?_
    show Steps p.tables e below (T8.setTop (mkF m 106 #[.val (.ref r0), .val (.int p1), .val (.int p2), .val (.ref r3), .val (.int (1 : Int32))] [(.ref r0)])) _
    refine XS.aloadN X8.here hx rfl (hb hby d4_106) rfl rfl ?_
    show Steps p.tables e below (T8.setTop (mkF m 107 #[.val (.ref r0), .val (.int p1), .val (.int p2), .val (.ref r3), .val (.int (1 : Int32))] [(.ref r3), (.ref r0)])) _
    refine st9 _ ?_
    exact k
  obtain ⟨fs, hr, hrun, hended, hW, hsame⟩ := X9.leave (v := none) (fun _ => rfl)
  refine ⟨_, _, ?_, hrun, hended, _, _, rfl, ?_, ⟨_, rfl⟩, hW, hsame.mono (by decide) (by decide)⟩
  · show Steps p.tables e below (T9.setTop (mkF m 110 #[.val (.ref r0), .val (.int p1), .val (.int p2), .val (.ref r3), .val (.int (1 : Int32))] [])) _
    exact X9.returnOut hx Bd.returns (hb hby d4_110) hr
  · show Q4 Z r0 p1 p2 r3 h0 n0 _ T9.heap _
    rw [e9]
    exact ⟨rfl, N9, K9, (((E0_r0.wr W7).wr W8).wr W9), (((F0_columns.other W7 (Or.inr (slot_ne (Or.inr (hw _ (List.mem_of_getElem? (i := 37) rfl))) (Or.inr (hw _ (List.mem_of_getElem? (i := 35) rfl))) (by decide) (t := .int) (t' := .int) (by decide) (by decide)))).same W8).other W9 (Or.inr (slot_ne (Or.inr (hw _ (List.mem_of_getElem? (i := 37) rfl))) (Or.inr (hw _ (List.mem_of_getElem? (i := 39) rfl))) (by decide) (t := .int) (t' := (.object "java/util/Optional")) (by decide) (by decide))))⟩
theorem pd_2 : parseMethodDescriptor "()Ljava/util/Optional;" = some ⟨[], some (.object "java/util/Optional")⟩ := by decide +kernel
theorem pd_3 : parseMethodDescriptor "(IILjava/util/Optional;)V" = some ⟨[.int, .int, (.object "java/util/Optional")], none⟩ := by decide +kernel
theorem d2_0 : decode prog_49_method_2_code 0 = .ok (.aload_n 0, 1) := by decide +kernel
theorem d2_1 : decode prog_49_method_2_code 1 = .ok (.iload_n 1, 1) := by decide +kernel
theorem d2_2 : decode prog_49_method_2_code 2 = .ok (.iload_n 2, 1) := by decide +kernel
theorem d2_3 : decode prog_49_method_2_code 3 = .ok (.invokestatic 47, 3) := by decide +kernel
theorem d2_6 : decode prog_49_method_2_code 6 = .ok (.invokespecial 51, 3) := by decide +kernel
theorem d2_9 : decode prog_49_method_2_code 9 = .ok (.return_, 1) := by decide +kernel
theorem pn_2 : plainName "com/example/reactions_to_maps/reactionstomaps/layout/DistrictPacking$Need" = true := by first | (simp [plainName, overriddenIn]; done) | decide +kernel
theorem ef_2 (m : MethodId) (r0 : Addr) (p1 : Int32) (p2 : Int32) : entryFrame m #[(.ref r0), (.int p1), (.int p2)] 3 = mkF m 0 #[.val (.ref r0), .val (.int p1), .val (.int p2)] [] := by first | (simp [entryFrame, mkF, argsToLocals, Value.category]; done) | rfl
def Q2 (Z : State) (r0 : Addr) (p1 : Int32) (p2 : Int32) (w_EMPTY : Addr) (h0 : Heap) (n0 : Nat) (v : Option Value) (h : Heap) (L : List Loc) : Prop := v = none ∧ Fr n0 L ∧ Keep h0 h [r0] ∧ Exa Z h r0 "com/example/reactions_to_maps/reactionstomaps/layout/DistrictPacking$Need" ∧ Fld Z h r0 "com/example/reactions_to_maps/reactionstomaps/layout/DistrictPacking$Need" "columns" "I" (.int p2)
set_option maxRecDepth 65536 in
set_option maxHeartbeats 40000000 in
theorem rm2 (l : Launch) (Z : State) (a0 : Array Value) (hw : ∀ d ∈ tables_1, d.before a0 Z = true) (ws : List Jvm.Cond) (r0 : Addr) (p1 : Int32) (p2 : Int32) (w_EMPTY : Addr) (h0 : Heap) (n0 : Nat) (Z0 : n0 ≤ h0.size) (E0_r0 : Exa Z h0 r0 "com/example/reactions_to_maps/reactionstomaps/layout/DistrictPacking$Need") (F0_cells : Fld Z h0 r0 "com/example/reactions_to_maps/reactionstomaps/layout/DistrictPacking$Need" "cells" "I" (.int (0 : Int32))) (F0_columns : Fld Z h0 r0 "com/example/reactions_to_maps/reactionstomaps/layout/DistrictPacking$Need" "columns" "I" (.int (0 : Int32))) (F0_room : Fld Z h0 r0 "com/example/reactions_to_maps/reactionstomaps/layout/DistrictPacking$Need" "room" "Ljava/util/Optional;" .null) (g_r0 : n0 ≤ r0) (S_EMPTY : Sta Z h0 "java/util/Optional" "EMPTY" "Ljava/util/Optional;" (.ref w_EMPTY)) (E_EMPTY : Exa Z h0 w_EMPTY "java/util/Optional") (F_EMPTY : Fld Z h0 w_EMPTY "java/util/Optional" "value" "Ljava/lang/Object;" .null) (hp1 : ¬ p1 < (1 : Int32)) (hp2 : ¬ p2 < (1 : Int32)) (hle : ¬ p1 < p2) :
    MetFree l (⟨"com/example/reactions_to_maps/reactionstomaps/layout/DistrictPacking$Need", "<init>", "(II)V"⟩ : MethodName) (head1 (Jvm.Cond.code (⟨"com/example/reactions_to_maps/reactionstomaps/layout/DistrictPacking$Need", "<init>", "(II)V"⟩ : MethodName) prog_49_method_2_code 3 none :: ws) ({ frames := 3, cells := 0, slots := 0, locals := 40 } : Room)) (fun a U => a = #[(.ref r0), (.int p1), (.int p2)] ∧ Z.Warmed39 U.vm ∧ U.heap = h0) (fun _ _ _ _ _ => True) (fun _ U o U' => ∃ v L, o = .returned v ∧ Q2 Z r0 p1 p2 w_EMPTY h0 n0 v U'.heap L ∧ FrameEnd U o U' L ({ frames := 3, cells := 0, slots := 0, locals := 40 } : Room).cells ({ frames := 3, cells := 0, slots := 0, locals := 40 } : Room).slots) := by
  refine MetFree.of_bodySF (plainFor_of_name pn_2) hisR ?_
  intro p e s m args below meth c s₁ Bd hml0 hP hK
  obtain ⟨rfl, hZ, hh⟩ := hP
  have hx := Bd.exec
  have hby := Bd.bytes
  have hml : c.maxLocals = 3 := hml0
  have hown : s.vm.findClass "com/example/reactions_to_maps/reactionstomaps/layout/DistrictPacking$Need" = some m.cls := findClass_of_methodNamed Bd.named
  have hnm := (name_of_methodNamed Bd.named Bd.method).1
  have X0 : Stand p l e ({ frames := 3, cells := 0, slots := 0, locals := 40 } : Room) s m #[(.ref r0), (.int p1), (.int p2)] below meth c s₁ [] 0 0 := Stand.of_body Bd
  have e0 : s₁.heap = h0 := by rw [← hh, Bd.state]; rfl
  have N0 := Fr.nil n0
  refine own_go (A' := (s₁.setTop (mkF m 0 #[.val (.ref r0), .val (.int p1), .val (.int p2)] []))) (fun t k => castTop (ef_2 m r0 p1 p2) k) ?_
  obtain ⟨_, _, ⟨T10, L10, k10, n10⟩, -, X10, ⟨Lc10, hQ10, l10, y10, z10⟩, st10⟩ := Jvm.LawKit.callS X0 hx (y := (⟨"java/util/Optional", "empty", "()Ljava/util/Optional;"⟩ : MethodName)) hown (mvT hZ (hw _ (List.mem_of_getElem? (i := 11) rfl))) (mvT hZ (hw _ (List.mem_of_getElem? (i := 12) rfl))) (mvT hZ (hw _ (List.mem_of_getElem? (i := 13) rfl))) (mvT hZ (hw _ (List.mem_of_getElem? (i := 14) rfl))) (by decide) (backOf (W := 3) (rm3 l Z a0 hw []  w_EMPTY h0 n0 Z0 S_EMPTY) hZ (hw _ (List.mem_of_getElem? (i := 14) rfl)) (hw _ (List.mem_of_getElem? (i := 13) rfl)) (by decide) (by decide)) (g := (mkF m 3 #[.val (.ref r0), .val (.int p1), .val (.int p2)] [(.int p2), (.int p1), (.ref r0)])) rfl (by rw [hml]; rfl) (argsL := []) (rest := [(.int p2), (.int p1), (.ref r0)]) (lenOf pd_2 rfl) rfl (by show 2 * 0 + _ ≤ _; exact Nat.le_of_eq rfl) (hb hby d2_3) (fun _ _ => ⟨rfl, e0, (by decide : 0 + 0 ≤ _), (by decide : 0 + 0 ≤ _)⟩)
  dsimp only [Pt.U, Pt.locs, Pt.cells, Pt.slots] at X10 l10 y10 z10 st10 hQ10
  subst l10 y10 z10
  obtain ⟨rfl, N10q, e10⟩ := hQ10
  have N10 := Fr.app N0 N10q
  obtain ⟨_, _, ⟨T11, L11, k11, n11⟩, -, X11, ⟨Lc11, hQ11, l11, y11, z11⟩, st11⟩ := X10.specialBack hx (y := (⟨"com/example/reactions_to_maps/reactionstomaps/layout/DistrictPacking$Need", "<init>", "(IILjava/util/Optional;)V"⟩ : MethodName)) rfl hown (mvT hZ (hw _ (List.mem_of_getElem? (i := 16) rfl))) (mvT hZ (hw _ (List.mem_of_getElem? (i := 17) rfl))) (mvT hZ (hw _ (List.mem_of_getElem? (i := 18) rfl))) (by decide) (backOf (W := 0) (rm4 l Z a0 hw [] r0 p1 p2 w_EMPTY  h0 n0 Z0 E0_r0 F0_cells F0_columns F0_room g_r0 E_EMPTY F_EMPTY hp1 hp2 hle) hZ (hw _ (List.mem_of_getElem? (i := 18) rfl)) (hw _ (List.mem_of_getElem? (i := 7) rfl)) (by decide) (by decide)) (g := (mkF m 6 #[.val (.ref r0), .val (.int p1), .val (.int p2)] [(.ref w_EMPTY), (.int p2), (.int p1), (.ref r0)])) rfl (by rw [hml]; rfl) (Steps.refl _) (a := r0) (argsL := [(.int p1), (.int p2), (.ref w_EMPTY)]) (rest := []) (lenOf pd_3 rfl) rfl (by show 2 * 0 + _ ≤ _; exact Nat.le_of_eq rfl) (hb hby d2_6) (fun _ _ => ⟨rfl, e10, (by decide : 0 + 0 ≤ _), (by decide : 0 + 0 ≤ _)⟩)
  dsimp only [Pt.U, Pt.locs, Pt.cells, Pt.slots] at X11 l11 y11 z11 st11 hQ11
  subst l11 y11 z11
  obtain ⟨rfl, N11q, K11q, E11q, F11q⟩ := hQ11
  have N11 := Fr.app N10 N11q
  have K11 : Keep h0 T11.heap [r0] := (Keep.refl h0 [r0]).trans K11q (allS (Or.inl (List.mem_of_getElem? (i := 0) rfl)) all0)
  refine own_go (A' := (T11.setTop (mkF m 9 #[.val (.ref r0), .val (.int p1), .val (.int p2)] []))) (fun t k => ?_) ?_
  · show Steps p.tables e below (s₁.setTop (mkF m 0 #[.val (.ref r0), .val (.int p1), .val (.int p2)] [])) _
    refine XS.aloadN X0.here hx rfl (hb hby d2_0) rfl rfl ?_
    show Steps p.tables e below (s₁.setTop (mkF m 1 #[.val (.ref r0), .val (.int p1), .val (.int p2)] [(.ref r0)])) _
    refine XS.iloadN X0.here hx rfl (hb hby d2_1) rfl ?_
    show Steps p.tables e below (s₁.setTop (mkF m 2 #[.val (.ref r0), .val (.int p1), .val (.int p2)] [(.int p1), (.ref r0)])) _
    refine XS.iloadN X0.here hx rfl (hb hby d2_2) rfl ?_
    show Steps p.tables e below (s₁.setTop (mkF m 3 #[.val (.ref r0), .val (.int p1), .val (.int p2)] [(.int p2), (.int p1), (.ref r0)])) _
    refine st10 _ ?_
    show Steps p.tables e below (T10.setTop (mkF m 6 #[.val (.ref r0), .val (.int p1), .val (.int p2)] [(.ref w_EMPTY), (.int p2), (.int p1), (.ref r0)])) _
    refine st11.trans ?_
    exact k
  obtain ⟨fs, hr, hrun, hended, hW, hsame⟩ := X11.leave (v := none) (fun _ => rfl)
  refine ⟨_, _, ?_, hrun, hended, _, _, rfl, ?_, ⟨_, rfl⟩, hW, hsame.mono (by decide) (by decide)⟩
  · show Steps p.tables e below (T11.setTop (mkF m 9 #[.val (.ref r0), .val (.int p1), .val (.int p2)] [])) _
    exact X11.returnOut hx Bd.returns (hb hby d2_9) hr
  · show Q2 Z r0 p1 p2 w_EMPTY h0 n0 _ T11.heap _
    exact ⟨rfl, N11, K11, E11q, F11q⟩
theorem pd_4 : parseMethodDescriptor "(II)V" = some ⟨[.int, .int], none⟩ := by decide +kernel
theorem d8_0 : decode prog_49_method_4_code 0 = .ok (.new 36, 3) := by decide +kernel
theorem d8_3 : decode prog_49_method_4_code 3 = .ok (.dup, 1) := by decide +kernel
theorem d8_4 : decode prog_49_method_4_code 4 = .ok (.iload_n 0, 1) := by decide +kernel
theorem d8_5 : decode prog_49_method_4_code 5 = .ok (.iconst 1, 1) := by decide +kernel
theorem d8_6 : decode prog_49_method_4_code 6 = .ok (.invokespecial 58, 3) := by decide +kernel
theorem d8_9 : decode prog_49_method_4_code 9 = .ok (.areturn, 1) := by decide +kernel
theorem pn_8 : plainName "com/example/reactions_to_maps/reactionstomaps/layout/DistrictPacking$Need" = true := by first | (simp [plainName, overriddenIn]; done) | decide +kernel
theorem ef_8 (m : MethodId) (p0 : Int32) : entryFrame m #[(.int p0)] 1 = mkF m 0 #[.val (.int p0)] [] := by first | (simp [entryFrame, mkF, argsToLocals, Value.category]; done) | rfl
def Q8 (Z : State) (p0 : Int32) (w_EMPTY : Addr) (h0 : Heap) (n0 : Nat) (v : Option Value) (h : Heap) (L : List Loc) : Prop := ∃ b : Addr, v = some (.ref b) ∧ Fr n0 L ∧ Keep h0 h [] ∧ Exa Z h b "com/example/reactions_to_maps/reactionstomaps/layout/DistrictPacking$Need" ∧ Fld Z h b "com/example/reactions_to_maps/reactionstomaps/layout/DistrictPacking$Need" "columns" "I" (.int (1 : Int32))
set_option maxRecDepth 65536 in
set_option maxHeartbeats 40000000 in
theorem rm8 (l : Launch) (Z : State) (a0 : Array Value) (hw : ∀ d ∈ tables_1, d.before a0 Z = true) (ws : List Jvm.Cond) (p0 : Int32) (w_EMPTY : Addr) (h0 : Heap) (n0 : Nat) (Z0 : n0 ≤ h0.size) (S_EMPTY : Sta Z h0 "java/util/Optional" "EMPTY" "Ljava/util/Optional;" (.ref w_EMPTY)) (E_EMPTY : Exa Z h0 w_EMPTY "java/util/Optional") (F_EMPTY : Fld Z h0 w_EMPTY "java/util/Optional" "value" "Ljava/lang/Object;" .null) (hp0 : ¬ p0 < (1 : Int32)) :
    MetFree l (⟨"com/example/reactions_to_maps/reactionstomaps/layout/DistrictPacking$Need", "of", "(I)Lcom/example/reactions_to_maps/reactionstomaps/layout/DistrictPacking$Need;"⟩ : MethodName) (head1 (Jvm.Cond.code (⟨"com/example/reactions_to_maps/reactionstomaps/layout/DistrictPacking$Need", "of", "(I)Lcom/example/reactions_to_maps/reactionstomaps/layout/DistrictPacking$Need;"⟩ : MethodName) prog_49_method_4_code 1 (some (.object "com/example/reactions_to_maps/reactionstomaps/layout/DistrictPacking$Need")) :: ws) ({ frames := 4, cells := 1, slots := 3, locals := 55 } : Room)) (fun a U => a = #[(.int p0)] ∧ Z.Warmed39 U.vm ∧ U.heap = h0) (fun _ _ _ _ _ => True) (fun _ U o U' => ∃ v L, o = .returned v ∧ Q8 Z p0 w_EMPTY h0 n0 v U'.heap L ∧ FrameEnd U o U' L ({ frames := 4, cells := 1, slots := 3, locals := 55 } : Room).cells ({ frames := 4, cells := 1, slots := 3, locals := 55 } : Room).slots) := by
  refine MetFree.of_bodySF (plainFor_of_name pn_8) hisR ?_
  intro p e s m args below meth c s₁ Bd hml0 hP hK
  obtain ⟨rfl, hZ, hh⟩ := hP
  have hx := Bd.exec
  have hby := Bd.bytes
  have hml : c.maxLocals = 1 := hml0
  have hown : s.vm.findClass "com/example/reactions_to_maps/reactionstomaps/layout/DistrictPacking$Need" = some m.cls := findClass_of_methodNamed Bd.named
  have hnm := (name_of_methodNamed Bd.named Bd.method).1
  have X0 : Stand p l e ({ frames := 4, cells := 1, slots := 3, locals := 55 } : Room) s m #[(.int p0)] below meth c s₁ [] 0 0 := Stand.of_body Bd
  have e0 : s₁.heap = h0 := by rw [← hh, Bd.state]; rfl
  have N0 := Fr.nil n0
  refine own_go (A' := (s₁.setTop (mkF m 0 #[.val (.int p0)] []))) (fun t k => castTop (ef_8 m p0) k) ?_
  obtain ⟨T12, h12, X12, e12, E12, A12, D12, -, st12⟩ := newO X0 hx hZ hown (hw _ (List.mem_of_getElem? (i := 43) rfl)) (hw _ (List.mem_of_getElem? (i := 6) rfl)) (hw _ (List.mem_of_getElem? (i := 7) rfl)) e0 (g := (mkF m 0 #[.val (.int p0)] [])) rfl (hb hby d8_0) (by decide) (by decide)
  obtain ⟨b12, g12⟩ : ∃ z, z = h0.size := ⟨_, rfl⟩
  have sz_b12 : h0.size ≤ b12 := Nat.le_of_eq g12.symm
  rw [← g12] at A12 D12 st12
  have K12 : Keep h0 h12 [] := (Keep.refl h0 []).ext E12
  have B12 : Ext h0 h12 := own_keep_ext K12
  have F12_cells : Fld Z h12 b12 "com/example/reactions_to_maps/reactionstomaps/layout/DistrictPacking$Need" "cells" "I" (.int (0 : Int32)) := D12 (Or.inr (hw _ (List.mem_of_getElem? (i := 35) rfl))) (ty := .int) (by decide)
  have F12_columns : Fld Z h12 b12 "com/example/reactions_to_maps/reactionstomaps/layout/DistrictPacking$Need" "columns" "I" (.int (0 : Int32)) := D12 (Or.inr (hw _ (List.mem_of_getElem? (i := 37) rfl))) (ty := .int) (by decide)
  have F12_room : Fld Z h12 b12 "com/example/reactions_to_maps/reactionstomaps/layout/DistrictPacking$Need" "room" "Ljava/util/Optional;" .null := D12 (Or.inr (hw _ (List.mem_of_getElem? (i := 39) rfl))) (ty := (.object "java/util/Optional")) (by decide)
  obtain ⟨_, _, ⟨T13, L13, k13, n13⟩, -, X13, ⟨Lc13, hQ13, l13, y13, z13⟩, st13⟩ := X12.specialBack hx (y := (⟨"com/example/reactions_to_maps/reactionstomaps/layout/DistrictPacking$Need", "<init>", "(II)V"⟩ : MethodName)) rfl hown (mvT hZ (hw _ (List.mem_of_getElem? (i := 44) rfl))) (mvT hZ (hw _ (List.mem_of_getElem? (i := 9) rfl))) (mvT hZ (hw _ (List.mem_of_getElem? (i := 10) rfl))) (by decide) (backOf (W := 1) (rm2 l Z a0 hw [] b12 p0 (1 : Int32) w_EMPTY h12 n0 (Nat.le_trans Z0 K12.1) A12 F12_cells F12_columns F12_room (Nat.le_trans Z0 sz_b12) (S_EMPTY.ext B12) (E_EMPTY.ext B12) (F_EMPTY.ext B12) hp0 (by decide) hp0) hZ (hw _ (List.mem_of_getElem? (i := 10) rfl)) (hw _ (List.mem_of_getElem? (i := 7) rfl)) (by decide) (by decide)) (g := (mkF m 6 #[.val (.int p0)] [(.int (1 : Int32)), (.int p0), (.ref b12), (.ref b12)])) rfl (by rw [hml]; rfl) (Steps.refl _) (a := b12) (argsL := [(.int p0), (.int (1 : Int32))]) (rest := [(.ref b12)]) (lenOf pd_4 rfl) rfl (by show 2 * 0 + _ ≤ _; exact Nat.le_of_eq rfl) (hb hby d8_6) (fun _ _ => ⟨rfl, e12, (by decide : 1 + 0 ≤ _), (by decide : 3 + 0 ≤ _)⟩)
  dsimp only [Pt.U, Pt.locs, Pt.cells, Pt.slots] at X13 l13 y13 z13 st13 hQ13
  subst l13 y13 z13
  obtain ⟨rfl, N13q, K13q, E13q, F13q⟩ := hQ13
  have N13 := Fr.app N0 N13q
  have K13 : Keep h0 T13.heap [] := K12.trans K13q (allS (Or.inr sz_b12) all0)
  have B13 : Ext h0 T13.heap := own_keep_ext K13
  refine own_go (A' := (T13.setTop (mkF m 9 #[.val (.int p0)] [(.ref b12)]))) (fun t k => ?_) ?_
  · show Steps p.tables e below (s₁.setTop (mkF m 0 #[.val (.int p0)] [])) _
    refine st12 _ ?_
    show Steps p.tables e below (T12.setTop (mkF m 3 #[.val (.int p0)] [(.ref b12)])) _
    refine XS.dup X12.here hx rfl (hb hby d8_3) rfl rfl ?_
    show Steps p.tables e below (T12.setTop (mkF m 4 #[.val (.int p0)] [(.ref b12), (.ref b12)])) _
    refine XS.iloadN X12.here hx rfl (hb hby d8_4) rfl ?_
    show Steps p.tables e below (T12.setTop (mkF m 5 #[.val (.int p0)] [(.int p0), (.ref b12), (.ref b12)])) _
    refine XS.iconst X12.here hx rfl (hb hby d8_5) ?_
    show Steps p.tables e below (T12.setTop (mkF m 6 #[.val (.int p0)] [(.int (1 : Int32)), (.int p0), (.ref b12), (.ref b12)])) _
    refine st13.trans ?_
    exact k
  obtain ⟨fs, hr, hrun, hended, hW, hsame⟩ := X13.leave (v := some (.ref b12)) (fun h => by rw [Bd.returns] at h; cases h)
  refine ⟨_, _, ?_, hrun, hended, _, _, rfl, ?_, ⟨_, rfl⟩, hW, hsame.mono (by decide) (by decide)⟩
  · show Steps p.tables e below (T13.setTop (mkF m 9 #[.val (.int p0)] [(.ref b12)])) _
    exact own_retV X13 hx Bd.returns rfl rfl (hb hby d8_9) hr
  · show Q8 Z p0 w_EMPTY h0 n0 _ T13.heap _
    exact ⟨_, rfl, N13, K13, E13q, F13q⟩
theorem d9_0 : decode prog_49_method_5_code 0 = .ok (.aload_n 0, 1) := by decide +kernel
theorem d9_1 : decode prog_49_method_5_code 1 = .ok (.getfield 41, 3) := by decide +kernel
theorem d9_4 : decode prog_49_method_5_code 4 = .ok (.iconst 1, 1) := by decide +kernel
theorem d9_5 : decode prog_49_method_5_code 5 = .ok (.if_icmp .le 7, 3) := by decide +kernel
theorem d9_8 : decode prog_49_method_5_code 8 = .ok (.iconst 1, 1) := by decide +kernel
theorem d9_9 : decode prog_49_method_5_code 9 = .ok (.goto 4, 3) := by decide +kernel
theorem d9_12 : decode prog_49_method_5_code 12 = .ok (.iconst 0, 1) := by decide +kernel
theorem d9_13 : decode prog_49_method_5_code 13 = .ok (.ireturn, 1) := by decide +kernel
theorem pn_9 : plainName "com/example/reactions_to_maps/reactionstomaps/layout/DistrictPacking$Need" = true := by first | (simp [plainName, overriddenIn]; done) | decide +kernel
theorem ef_9 (m : MethodId) (r0 : Addr) : entryFrame m #[(.ref r0)] 1 = mkF m 0 #[.val (.ref r0)] [] := by first | (simp [entryFrame, mkF, argsToLocals, Value.category]; done) | rfl
def Q9 (Z : State) (r0 : Addr) (kc : Int32) (h0 : Heap) (n0 : Nat) (v : Option Value) (h : Heap) (L : List Loc) : Prop := v = some (.int (wd kc)) ∧ Fr n0 L ∧ h = h0
set_option maxRecDepth 65536 in
set_option maxHeartbeats 40000000 in
theorem rm9 (l : Launch) (Z : State) (a0 : Array Value) (hw : ∀ d ∈ tables_1, d.before a0 Z = true) (ws : List Jvm.Cond) (r0 : Addr) (kc : Int32) (h0 : Heap) (n0 : Nat) (Z0 : n0 ≤ h0.size) (F1 : Fld Z h0 r0 "com/example/reactions_to_maps/reactionstomaps/layout/DistrictPacking$Need" "columns" "I" (.int kc)) :
    MetFree l (⟨"com/example/reactions_to_maps/reactionstomaps/layout/DistrictPacking$Need", "widened", "()Z"⟩ : MethodName) (head1 (Jvm.Cond.code (⟨"com/example/reactions_to_maps/reactionstomaps/layout/DistrictPacking$Need", "widened", "()Z"⟩ : MethodName) prog_49_method_5_code 1 (some .boolean) :: ws) ({ frames := 0, cells := 0, slots := 0, locals := 0 } : Room)) (fun a U => a = #[(.ref r0)] ∧ Z.Warmed39 U.vm ∧ U.heap = h0) (fun _ _ _ _ _ => True) (fun _ U o U' => ∃ v L, o = .returned v ∧ Q9 Z r0 kc h0 n0 v U'.heap L ∧ FrameEnd U o U' L ({ frames := 0, cells := 0, slots := 0, locals := 0 } : Room).cells ({ frames := 0, cells := 0, slots := 0, locals := 0 } : Room).slots) := by
  refine MetFree.of_bodySF (plainFor_of_name pn_9) hisR ?_
  intro p e s m args below meth c s₁ Bd hml0 hP hK
  obtain ⟨rfl, hZ, hh⟩ := hP
  have hx := Bd.exec
  have hby := Bd.bytes
  have hml : c.maxLocals = 1 := hml0
  have hown : s.vm.findClass "com/example/reactions_to_maps/reactionstomaps/layout/DistrictPacking$Need" = some m.cls := findClass_of_methodNamed Bd.named
  have hnm := (name_of_methodNamed Bd.named Bd.method).1
  have X0 : Stand p l e ({ frames := 0, cells := 0, slots := 0, locals := 0 } : Room) s m #[(.ref r0)] below meth c s₁ [] 0 0 := Stand.of_body Bd
  have e0 : s₁.heap = h0 := by rw [← hh, Bd.state]; rfl
  have N0 := Fr.nil n0
  refine own_go (A' := (s₁.setTop (mkF m 0 #[.val (.ref r0)] []))) (fun t k => castTop (ef_9 m r0) k) ?_
  obtain ⟨T14, X14, e14, st14⟩ := getF X0 hx hZ hown (host := "") (Or.inl (hw _ (List.mem_of_getElem? (i := 36) rfl))) Via.refl e0 F1 (g := (mkF m 1 #[.val (.ref r0)] [(.ref r0)])) rfl rfl (hb hby d9_1)
  refine own_go (A' := (T14.setTop (mkF m 5 #[.val (.ref r0)] [(.int (1 : Int32)), (.int kc)]))) (fun t k => ?_) ?_
  · show Steps p.tables e below (s₁.setTop (mkF m 0 #[.val (.ref r0)] [])) _
    refine XS.aloadN X0.here hx rfl (hb hby d9_0) rfl rfl ?_
    show Steps p.tables e below (s₁.setTop (mkF m 1 #[.val (.ref r0)] [(.ref r0)])) _
    refine st14 _ ?_
    show Steps p.tables e below (T14.setTop (mkF m 4 #[.val (.ref r0)] [(.int kc)])) _
    refine XS.iconst X14.here hx rfl (hb hby d9_4) ?_
    exact k
  by_cases hc15 : (1 : Int32) < kc
  · -- hc15: yes
    refine own_go (A' := (T14.setTop (mkF m 8 #[.val (.ref r0)] []))) (fun t k => XS.icmpNo X14.here hx rfl (hb hby d9_5) rfl (tlt hc15).2.2.2 k) ?_
    refine own_go (A' := (T14.setTop (mkF m 13 #[.val (.ref r0)] [(.int (1 : Int32))]))) (fun t k => ?_) ?_
    · show Steps p.tables e below (T14.setTop (mkF m 8 #[.val (.ref r0)] [])) _
      refine XS.iconst X14.here hx rfl (hb hby d9_8) ?_
      show Steps p.tables e below (T14.setTop (mkF m 9 #[.val (.ref r0)] [(.int (1 : Int32))])) _
      refine XS.goto X14.here hx rfl (pc0 := 9) (pc' := 13) rfl (hb hby d9_9) (by decide) (by decide) ?_
      exact k
    obtain ⟨fs, hr, hrun, hended, hW, hsame⟩ := X14.leave (v := some (.int (1 : Int32))) (fun h => by rw [Bd.returns] at h; cases h)
    refine ⟨_, _, ?_, hrun, hended, _, _, rfl, ?_, ⟨_, rfl⟩, hW, hsame.mono (by decide) (by decide)⟩
    · show Steps p.tables e below (T14.setTop (mkF m 13 #[.val (.ref r0)] [(.int (1 : Int32))])) _
      exact retN X14 hx (t := .boolean) Bd.returns (by simp) (hb hby d9_13) hr
    · show Q9 Z r0 kc h0 n0 _ T14.heap _
      exact ⟨(by rw [wd, if_pos hc15]), N0, e14⟩
  · -- hc15: no
    refine own_go (A' := (T14.setTop (mkF m 12 #[.val (.ref r0)] []))) (fun t k => XS.icmpYes X14.here hx rfl (pc0 := 5) (pc' := 12) rfl (hb hby d9_5) rfl (flt hc15).2.2.2 (by decide) (by decide) k) ?_
    refine own_go (A' := (T14.setTop (mkF m 13 #[.val (.ref r0)] [(.int (0 : Int32))]))) (fun t k => ?_) ?_
    · show Steps p.tables e below (T14.setTop (mkF m 12 #[.val (.ref r0)] [])) _
      refine XS.iconst X14.here hx rfl (hb hby d9_12) ?_
      exact k
    obtain ⟨fs, hr, hrun, hended, hW, hsame⟩ := X14.leave (v := some (.int (0 : Int32))) (fun h => by rw [Bd.returns] at h; cases h)
    refine ⟨_, _, ?_, hrun, hended, _, _, rfl, ?_, ⟨_, rfl⟩, hW, hsame.mono (by decide) (by decide)⟩
    · show Steps p.tables e below (T14.setTop (mkF m 13 #[.val (.ref r0)] [(.int (0 : Int32))])) _
      exact retN X14 hx (t := .boolean) Bd.returns (by simp) (hb hby d9_13) hr
    · show Q9 Z r0 kc h0 n0 _ T14.heap _
      exact ⟨(by rw [wd, if_neg hc15]), N0, e14⟩
theorem pd_5 : parseMethodDescriptor "(II)I" = some ⟨[.int, .int], some .int⟩ := by decide +kernel
theorem pd_6 : parseMethodDescriptor "(I)Lcom/example/reactions_to_maps/reactionstomaps/layout/DistrictPacking$Need;" = some ⟨[.int], some (.object "com/example/reactions_to_maps/reactionstomaps/layout/DistrictPacking$Need")⟩ := by decide +kernel
theorem pn_0 : plainName "com/example/reactions_to_maps/reactionstomaps/layout/NeedWidenedPinLaw" = true := by first | (simp [plainName, overriddenIn]; done) | decide +kernel
theorem ef_0 (m : MethodId) (p0 : Int32) (p1 : Int32) : entryFrame m #[(.int p0), (.int p1)] maxLocals = mkF m 0 #[.val (.int p0), .val (.int p1), .unset, .unset, .unset, .unset, .unset] [] := by first | (simp [entryFrame, mkF, argsToLocals, Value.category, maxLocals]; done) | rfl
def Q0 (Z : State) (p0 : Int32) (p1 : Int32) (w_EMPTY : Addr) (h0 : Heap) (n0 : Nat) (v : Option Value) (h : Heap) (L : List Loc) : Prop := v = some (.int (1 : Int32)) ∧ Fr n0 L
set_option maxRecDepth 65536 in
set_option maxHeartbeats 40000000 in
theorem rm0 (l : Launch) (Z : State) (a0 : Array Value) (hw : ∀ d ∈ tables_1, d.before a0 Z = true) (ws : List Jvm.Cond) (p0 : Int32) (p1 : Int32) (w_EMPTY : Addr) (h0 : Heap) (n0 : Nat) (Z0 : n0 ≤ h0.size) (S_EMPTY : Sta Z h0 "java/util/Optional" "EMPTY" "Ljava/util/Optional;" (.ref w_EMPTY)) (E_EMPTY : Exa Z h0 w_EMPTY "java/util/Optional") (F_EMPTY : Fld Z h0 w_EMPTY "java/util/Optional" "value" "Ljava/lang/Object;" .null) :
    MetFree l x (head1 (Jvm.Cond.code x code maxLocals ret :: ws) room_1) (fun a U => a = #[(.int p0), (.int p1)] ∧ Z.Warmed39 U.vm ∧ U.heap = h0) (fun _ _ _ _ _ => True) (fun _ U o U' => ∃ v L, o = .returned v ∧ Q0 Z p0 p1 w_EMPTY h0 n0 v U'.heap L ∧ FrameEnd U o U' L room_1.cells room_1.slots) := by
  refine MetFree.of_bodySF (plainFor_of_name pn_0) hisR ?_
  intro p e s m args below meth c s₁ Bd hml0 hP hK
  obtain ⟨rfl, hZ, hh⟩ := hP
  have hx := Bd.exec
  have hby := Bd.bytes
  have hml : c.maxLocals = 7 := hml0
  have hown : s.vm.findClass "com/example/reactions_to_maps/reactionstomaps/layout/NeedWidenedPinLaw" = some m.cls := findClass_of_methodNamed Bd.named
  have hnm := (name_of_methodNamed Bd.named Bd.method).1
  have X0 : Stand p l e room_1 s m #[(.int p0), (.int p1)] below meth c s₁ [] 0 0 := Stand.of_body Bd
  have e0 : s₁.heap = h0 := by rw [← hh, Bd.state]; rfl
  have N0 := Fr.nil n0
  refine own_go (A' := (s₁.setTop (mkF m 0 #[.val (.int p0), .val (.int p1), .unset, .unset, .unset, .unset, .unset] []))) (fun t k => castTop (ef_0 m p0 p1) k) ?_
  obtain ⟨_, _, ⟨T16, L16, k16, n16⟩, -, X16, ⟨Lc16, hQ16, l16, y16, z16⟩, st16⟩ := Jvm.LawKit.callS X0 hx (y := (⟨"java/lang/Math", "max", "(II)I"⟩ : MethodName)) hown (mvT hZ (hw _ (List.mem_of_getElem? (i := 1) rfl))) (mvT hZ (hw _ (List.mem_of_getElem? (i := 2) rfl))) (mvT hZ (hw _ (List.mem_of_getElem? (i := 3) rfl))) (mvT hZ (hw _ (List.mem_of_getElem? (i := 4) rfl))) (by decide) (backOf (W := 0) (rm1 l Z a0 hw [] (1 : Int32) (p0 &&& (2147483647 : Int32))  h0 n0 Z0 ) hZ (hw _ (List.mem_of_getElem? (i := 4) rfl)) (hw _ (List.mem_of_getElem? (i := 3) rfl)) (by decide) (by decide)) (g := (mkF m 5 #[.val (.int p0), .val (.int p1), .unset, .unset, .unset, .unset, .unset] [(.int (p0 &&& (2147483647 : Int32))), (.int (1 : Int32))])) rfl (by rw [hml]; rfl) (argsL := [(.int (1 : Int32)), (.int (p0 &&& (2147483647 : Int32)))]) (rest := []) (lenOf pd_5 rfl) rfl (by show 2 * 0 + _ ≤ _; exact Nat.le_of_eq rfl) (hb hby at_5) (fun _ _ => ⟨rfl, e0, (by decide : 0 + 0 ≤ _), (by decide : 0 + 0 ≤ _)⟩)
  dsimp only [Pt.U, Pt.locs, Pt.cells, Pt.slots] at X16 l16 y16 z16 st16 hQ16
  subst l16 y16 z16
  obtain ⟨rfl, N16q, e16⟩ := hQ16
  have N16 := Fr.app N0 N16q
  obtain ⟨T17, h17, X17, e17, E17, A17, D17, -, st17⟩ := newO X16 hx hZ hown (hw _ (List.mem_of_getElem? (i := 5) rfl)) (hw _ (List.mem_of_getElem? (i := 6) rfl)) (hw _ (List.mem_of_getElem? (i := 7) rfl)) e16 (g := (mkF m 18 #[.val (.int p0), .val (.int p1), .val (.int (mx (1 : Int32) (p0 &&& (2147483647 : Int32)))), .val (.int ((1 : Int32) + ((p1 &&& (2147483647 : Int32)) % (mx (1 : Int32) (p0 &&& (2147483647 : Int32)))))), .unset, .unset, .unset] [])) rfl (hb hby at_18) (by decide) (by decide)
  obtain ⟨b17, g17⟩ : ∃ z, z = h0.size := ⟨_, rfl⟩
  have sz_b17 : h0.size ≤ b17 := Nat.le_of_eq g17.symm
  rw [← g17] at A17 D17 st17
  have K17 : Keep h0 h17 [] := (Keep.refl h0 []).ext E17
  have B17 : Ext h0 h17 := own_keep_ext K17
  have F17_cells : Fld Z h17 b17 "com/example/reactions_to_maps/reactionstomaps/layout/DistrictPacking$Need" "cells" "I" (.int (0 : Int32)) := D17 (Or.inr (hw _ (List.mem_of_getElem? (i := 35) rfl))) (ty := .int) (by decide)
  have F17_columns : Fld Z h17 b17 "com/example/reactions_to_maps/reactionstomaps/layout/DistrictPacking$Need" "columns" "I" (.int (0 : Int32)) := D17 (Or.inr (hw _ (List.mem_of_getElem? (i := 37) rfl))) (ty := .int) (by decide)
  have F17_room : Fld Z h17 b17 "com/example/reactions_to_maps/reactionstomaps/layout/DistrictPacking$Need" "room" "Ljava/util/Optional;" .null := D17 (Or.inr (hw _ (List.mem_of_getElem? (i := 39) rfl))) (ty := (.object "java/util/Optional")) (by decide)
  obtain ⟨_, _, ⟨T18, L18, k18, n18⟩, -, X18, ⟨Lc18, hQ18, l18, y18, z18⟩, st18⟩ := X17.specialBack hx (y := (⟨"com/example/reactions_to_maps/reactionstomaps/layout/DistrictPacking$Need", "<init>", "(II)V"⟩ : MethodName)) rfl hown (mvT hZ (hw _ (List.mem_of_getElem? (i := 8) rfl))) (mvT hZ (hw _ (List.mem_of_getElem? (i := 9) rfl))) (mvT hZ (hw _ (List.mem_of_getElem? (i := 10) rfl))) (by decide) (backOf (W := 1) (rm2 l Z a0 hw [] b17 (mx (1 : Int32) (p0 &&& (2147483647 : Int32))) ((1 : Int32) + ((p1 &&& (2147483647 : Int32)) % (mx (1 : Int32) (p0 &&& (2147483647 : Int32))))) w_EMPTY h17 n0 (Nat.le_trans Z0 K17.1) A17 F17_cells F17_columns F17_room (Nat.le_trans Z0 sz_b17) (S_EMPTY.ext B17) (E_EMPTY.ext B17) (F_EMPTY.ext B17) (own_cells _) (own_cols1 _ _) (own_colsN _ _)) hZ (hw _ (List.mem_of_getElem? (i := 10) rfl)) (hw _ (List.mem_of_getElem? (i := 7) rfl)) (by decide) (by decide)) (g := (mkF m 24 #[.val (.int p0), .val (.int p1), .val (.int (mx (1 : Int32) (p0 &&& (2147483647 : Int32)))), .val (.int ((1 : Int32) + ((p1 &&& (2147483647 : Int32)) % (mx (1 : Int32) (p0 &&& (2147483647 : Int32)))))), .unset, .unset, .unset] [(.int ((1 : Int32) + ((p1 &&& (2147483647 : Int32)) % (mx (1 : Int32) (p0 &&& (2147483647 : Int32)))))), (.int (mx (1 : Int32) (p0 &&& (2147483647 : Int32)))), (.ref b17), (.ref b17)])) rfl (by rw [hml]; rfl) (Steps.refl _) (a := b17) (argsL := [(.int (mx (1 : Int32) (p0 &&& (2147483647 : Int32)))), (.int ((1 : Int32) + ((p1 &&& (2147483647 : Int32)) % (mx (1 : Int32) (p0 &&& (2147483647 : Int32))))))]) (rest := [(.ref b17)]) (lenOf pd_4 rfl) rfl (by show 2 * 0 + _ ≤ _; exact Nat.le_of_eq rfl) (hb hby at_24) (fun _ _ => ⟨rfl, e17, (by decide : 1 + 0 ≤ _), (by decide : 3 + 0 ≤ _)⟩)
  dsimp only [Pt.U, Pt.locs, Pt.cells, Pt.slots] at X18 l18 y18 z18 st18 hQ18
  subst l18 y18 z18
  obtain ⟨rfl, N18q, K18q, E18q, F18q⟩ := hQ18
  have N18 := Fr.app N16 N18q
  have K18 : Keep h0 T18.heap [] := K17.trans K18q (allS (Or.inr sz_b17) all0)
  have B18 : Ext h0 T18.heap := own_keep_ext K18
  refine own_go (A' := (T18.setTop (mkF m 31 #[.val (.int p0), .val (.int p1), .val (.int (mx (1 : Int32) (p0 &&& (2147483647 : Int32)))), .val (.int ((1 : Int32) + ((p1 &&& (2147483647 : Int32)) % (mx (1 : Int32) (p0 &&& (2147483647 : Int32)))))), .val (.ref b17), .unset, .unset] [(.int (1 : Int32)), (.int ((1 : Int32) + ((p1 &&& (2147483647 : Int32)) % (mx (1 : Int32) (p0 &&& (2147483647 : Int32))))))]))) (fun t k => ?_) ?_
  · show Steps p.tables e below (s₁.setTop (mkF m 0 #[.val (.int p0), .val (.int p1), .unset, .unset, .unset, .unset, .unset] [])) _
    refine XS.iconst X0.here hx rfl (hb hby at_0) ?_
    show Steps p.tables e below (s₁.setTop (mkF m 1 #[.val (.int p0), .val (.int p1), .unset, .unset, .unset, .unset, .unset] [(.int (1 : Int32))])) _
    refine XS.iloadN X0.here hx rfl (hb hby at_1) rfl ?_
    show Steps p.tables e below (s₁.setTop (mkF m 2 #[.val (.int p0), .val (.int p1), .unset, .unset, .unset, .unset, .unset] [(.int p0), (.int (1 : Int32))])) _
    refine X0.ldcInt hx hown (mvT hZ (hw _ (List.mem_of_getElem? (i := 0) rfl))) (g := (mkF m 2 #[.val (.int p0), .val (.int p1), .unset, .unset, .unset, .unset, .unset] [(.int p0), (.int (1 : Int32))])) rfl (hb hby at_2) _ ?_
    show Steps p.tables e below (s₁.setTop (mkF m 4 #[.val (.int p0), .val (.int p1), .unset, .unset, .unset, .unset, .unset] [(.int (2147483647 : Int32)), (.int p0), (.int (1 : Int32))])) _
    refine XS.iand X0.here hx rfl (hb hby at_4) rfl ?_
    show Steps p.tables e below (s₁.setTop (mkF m 5 #[.val (.int p0), .val (.int p1), .unset, .unset, .unset, .unset, .unset] [(.int (p0 &&& (2147483647 : Int32))), (.int (1 : Int32))])) _
    refine st16 _ ?_
    show Steps p.tables e below (T16.setTop (mkF m 8 #[.val (.int p0), .val (.int p1), .unset, .unset, .unset, .unset, .unset] [(.int (mx (1 : Int32) (p0 &&& (2147483647 : Int32))))])) _
    refine XS.istoreN X16.here hx rfl (hb hby at_8) rfl (l' := #[.val (.int p0), .val (.int p1), .val (.int (mx (1 : Int32) (p0 &&& (2147483647 : Int32)))), .unset, .unset, .unset, .unset]) rfl ?_
    show Steps p.tables e below (T16.setTop (mkF m 9 #[.val (.int p0), .val (.int p1), .val (.int (mx (1 : Int32) (p0 &&& (2147483647 : Int32)))), .unset, .unset, .unset, .unset] [])) _
    refine XS.iconst X16.here hx rfl (hb hby at_9) ?_
    show Steps p.tables e below (T16.setTop (mkF m 10 #[.val (.int p0), .val (.int p1), .val (.int (mx (1 : Int32) (p0 &&& (2147483647 : Int32)))), .unset, .unset, .unset, .unset] [(.int (1 : Int32))])) _
    refine XS.iloadN X16.here hx rfl (hb hby at_10) rfl ?_
    show Steps p.tables e below (T16.setTop (mkF m 11 #[.val (.int p0), .val (.int p1), .val (.int (mx (1 : Int32) (p0 &&& (2147483647 : Int32)))), .unset, .unset, .unset, .unset] [(.int p1), (.int (1 : Int32))])) _
    refine X16.ldcInt hx hown (mvT hZ (hw _ (List.mem_of_getElem? (i := 0) rfl))) (g := (mkF m 11 #[.val (.int p0), .val (.int p1), .val (.int (mx (1 : Int32) (p0 &&& (2147483647 : Int32)))), .unset, .unset, .unset, .unset] [(.int p1), (.int (1 : Int32))])) rfl (hb hby at_11) _ ?_
    show Steps p.tables e below (T16.setTop (mkF m 13 #[.val (.int p0), .val (.int p1), .val (.int (mx (1 : Int32) (p0 &&& (2147483647 : Int32)))), .unset, .unset, .unset, .unset] [(.int (2147483647 : Int32)), (.int p1), (.int (1 : Int32))])) _
    refine XS.iand X16.here hx rfl (hb hby at_13) rfl ?_
    show Steps p.tables e below (T16.setTop (mkF m 14 #[.val (.int p0), .val (.int p1), .val (.int (mx (1 : Int32) (p0 &&& (2147483647 : Int32)))), .unset, .unset, .unset, .unset] [(.int (p1 &&& (2147483647 : Int32))), (.int (1 : Int32))])) _
    refine XS.iloadN X16.here hx rfl (hb hby at_14) rfl ?_
    show Steps p.tables e below (T16.setTop (mkF m 15 #[.val (.int p0), .val (.int p1), .val (.int (mx (1 : Int32) (p0 &&& (2147483647 : Int32)))), .unset, .unset, .unset, .unset] [(.int (mx (1 : Int32) (p0 &&& (2147483647 : Int32)))), (.int (p1 &&& (2147483647 : Int32))), (.int (1 : Int32))])) _
    refine iremM X16 hx (g := (mkF m 15 #[.val (.int p0), .val (.int p1), .val (.int (mx (1 : Int32) (p0 &&& (2147483647 : Int32)))), .unset, .unset, .unset, .unset] [(.int (mx (1 : Int32) (p0 &&& (2147483647 : Int32)))), (.int (p1 &&& (2147483647 : Int32))), (.int (1 : Int32))])) rfl (hb hby at_15) rfl (own_nz _) ?_
    show Steps p.tables e below (T16.setTop (mkF m 16 #[.val (.int p0), .val (.int p1), .val (.int (mx (1 : Int32) (p0 &&& (2147483647 : Int32)))), .unset, .unset, .unset, .unset] [(.int ((p1 &&& (2147483647 : Int32)) % (mx (1 : Int32) (p0 &&& (2147483647 : Int32))))), (.int (1 : Int32))])) _
    refine XS.iadd X16.here hx rfl (hb hby at_16) rfl ?_
    show Steps p.tables e below (T16.setTop (mkF m 17 #[.val (.int p0), .val (.int p1), .val (.int (mx (1 : Int32) (p0 &&& (2147483647 : Int32)))), .unset, .unset, .unset, .unset] [(.int ((1 : Int32) + ((p1 &&& (2147483647 : Int32)) % (mx (1 : Int32) (p0 &&& (2147483647 : Int32))))))])) _
    refine XS.istoreN X16.here hx rfl (hb hby at_17) rfl (l' := #[.val (.int p0), .val (.int p1), .val (.int (mx (1 : Int32) (p0 &&& (2147483647 : Int32)))), .val (.int ((1 : Int32) + ((p1 &&& (2147483647 : Int32)) % (mx (1 : Int32) (p0 &&& (2147483647 : Int32)))))), .unset, .unset, .unset]) rfl ?_
    show Steps p.tables e below (T16.setTop (mkF m 18 #[.val (.int p0), .val (.int p1), .val (.int (mx (1 : Int32) (p0 &&& (2147483647 : Int32)))), .val (.int ((1 : Int32) + ((p1 &&& (2147483647 : Int32)) % (mx (1 : Int32) (p0 &&& (2147483647 : Int32)))))), .unset, .unset, .unset] [])) _
    refine st17 _ ?_
    show Steps p.tables e below (T17.setTop (mkF m 21 #[.val (.int p0), .val (.int p1), .val (.int (mx (1 : Int32) (p0 &&& (2147483647 : Int32)))), .val (.int ((1 : Int32) + ((p1 &&& (2147483647 : Int32)) % (mx (1 : Int32) (p0 &&& (2147483647 : Int32)))))), .unset, .unset, .unset] [(.ref b17)])) _
    refine XS.dup X17.here hx rfl (hb hby at_21) rfl rfl ?_
    show Steps p.tables e below (T17.setTop (mkF m 22 #[.val (.int p0), .val (.int p1), .val (.int (mx (1 : Int32) (p0 &&& (2147483647 : Int32)))), .val (.int ((1 : Int32) + ((p1 &&& (2147483647 : Int32)) % (mx (1 : Int32) (p0 &&& (2147483647 : Int32)))))), .unset, .unset, .unset] [(.ref b17), (.ref b17)])) _
    refine XS.iloadN X17.here hx rfl (hb hby at_22) rfl ?_
    show Steps p.tables e below (T17.setTop (mkF m 23 #[.val (.int p0), .val (.int p1), .val (.int (mx (1 : Int32) (p0 &&& (2147483647 : Int32)))), .val (.int ((1 : Int32) + ((p1 &&& (2147483647 : Int32)) % (mx (1 : Int32) (p0 &&& (2147483647 : Int32)))))), .unset, .unset, .unset] [(.int (mx (1 : Int32) (p0 &&& (2147483647 : Int32)))), (.ref b17), (.ref b17)])) _
    refine XS.iloadN X17.here hx rfl (hb hby at_23) rfl ?_
    show Steps p.tables e below (T17.setTop (mkF m 24 #[.val (.int p0), .val (.int p1), .val (.int (mx (1 : Int32) (p0 &&& (2147483647 : Int32)))), .val (.int ((1 : Int32) + ((p1 &&& (2147483647 : Int32)) % (mx (1 : Int32) (p0 &&& (2147483647 : Int32)))))), .unset, .unset, .unset] [(.int ((1 : Int32) + ((p1 &&& (2147483647 : Int32)) % (mx (1 : Int32) (p0 &&& (2147483647 : Int32)))))), (.int (mx (1 : Int32) (p0 &&& (2147483647 : Int32)))), (.ref b17), (.ref b17)])) _
    refine st18.trans ?_
    show Steps p.tables e below (T18.setTop (mkF m 27 #[.val (.int p0), .val (.int p1), .val (.int (mx (1 : Int32) (p0 &&& (2147483647 : Int32)))), .val (.int ((1 : Int32) + ((p1 &&& (2147483647 : Int32)) % (mx (1 : Int32) (p0 &&& (2147483647 : Int32)))))), .unset, .unset, .unset] [(.ref b17)])) _
    refine XS.astore X18.here hx rfl (hb hby at_27) rfl rfl (l' := #[.val (.int p0), .val (.int p1), .val (.int (mx (1 : Int32) (p0 &&& (2147483647 : Int32)))), .val (.int ((1 : Int32) + ((p1 &&& (2147483647 : Int32)) % (mx (1 : Int32) (p0 &&& (2147483647 : Int32)))))), .val (.ref b17), .unset, .unset]) rfl ?_
    show Steps p.tables e below (T18.setTop (mkF m 29 #[.val (.int p0), .val (.int p1), .val (.int (mx (1 : Int32) (p0 &&& (2147483647 : Int32)))), .val (.int ((1 : Int32) + ((p1 &&& (2147483647 : Int32)) % (mx (1 : Int32) (p0 &&& (2147483647 : Int32)))))), .val (.ref b17), .unset, .unset] [])) _
    refine XS.iloadN X18.here hx rfl (hb hby at_29) rfl ?_
    show Steps p.tables e below (T18.setTop (mkF m 30 #[.val (.int p0), .val (.int p1), .val (.int (mx (1 : Int32) (p0 &&& (2147483647 : Int32)))), .val (.int ((1 : Int32) + ((p1 &&& (2147483647 : Int32)) % (mx (1 : Int32) (p0 &&& (2147483647 : Int32)))))), .val (.ref b17), .unset, .unset] [(.int ((1 : Int32) + ((p1 &&& (2147483647 : Int32)) % (mx (1 : Int32) (p0 &&& (2147483647 : Int32))))))])) _
    refine XS.iconst X18.here hx rfl (hb hby at_30) ?_
    exact k
  by_cases hc19 : ((1 : Int32) + ((p1 &&& (2147483647 : Int32)) % (mx (1 : Int32) (p0 &&& (2147483647 : Int32))))) = (1 : Int32)
  · -- hc19: yes
    refine own_go (A' := (T18.setTop (mkF m 38 #[.val (.int p0), .val (.int p1), .val (.int (mx (1 : Int32) (p0 &&& (2147483647 : Int32)))), .val (.int ((1 : Int32) + ((p1 &&& (2147483647 : Int32)) % (mx (1 : Int32) (p0 &&& (2147483647 : Int32)))))), .val (.ref b17), .unset, .unset] []))) (fun t k => XS.icmpYes X18.here hx rfl (pc0 := 31) (pc' := 38) rfl (hb hby at_31) rfl (teq hc19).1 (by decide) (by decide) k) ?_
    obtain ⟨_, _, ⟨T20, L20, k20, n20⟩, -, X20, ⟨Lc20, hQ20, l20, y20, z20⟩, st20⟩ := Jvm.LawKit.callS X18 hx (y := (⟨"com/example/reactions_to_maps/reactionstomaps/layout/DistrictPacking$Need", "of", "(I)Lcom/example/reactions_to_maps/reactionstomaps/layout/DistrictPacking$Need;"⟩ : MethodName)) hown (mvT hZ (hw _ (List.mem_of_getElem? (i := 40) rfl))) (mvT hZ (hw _ (List.mem_of_getElem? (i := 41) rfl))) (mvT hZ (hw _ (List.mem_of_getElem? (i := 7) rfl))) (mvT hZ (hw _ (List.mem_of_getElem? (i := 42) rfl))) (by decide) (backOf (W := 0) (rm8 l Z a0 hw [] (mx (1 : Int32) (p0 &&& (2147483647 : Int32))) w_EMPTY T18.heap n0 (Nat.le_trans Z0 K18.1) (S_EMPTY.ext B18) (E_EMPTY.ext B18) (F_EMPTY.ext B18) (own_cells _)) hZ (hw _ (List.mem_of_getElem? (i := 42) rfl)) (hw _ (List.mem_of_getElem? (i := 7) rfl)) (by decide) (by decide)) (g := (mkF m 42 #[.val (.int p0), .val (.int p1), .val (.int (mx (1 : Int32) (p0 &&& (2147483647 : Int32)))), .val (.int ((1 : Int32) + ((p1 &&& (2147483647 : Int32)) % (mx (1 : Int32) (p0 &&& (2147483647 : Int32)))))), .val (.ref b17), .val (.int (0 : Int32)), .unset] [(.int (mx (1 : Int32) (p0 &&& (2147483647 : Int32))))])) rfl (by rw [hml]; rfl) (argsL := [(.int (mx (1 : Int32) (p0 &&& (2147483647 : Int32))))]) (rest := []) (lenOf pd_6 rfl) rfl (by show 2 * 0 + _ ≤ _; exact Nat.le_of_eq rfl) (hb hby at_42) (fun _ _ => ⟨rfl, rfl, (by decide : 1 + 1 ≤ _), (by decide : 3 + 3 ≤ _)⟩)
    dsimp only [Pt.U, Pt.locs, Pt.cells, Pt.slots] at X20 l20 y20 z20 st20 hQ20
    subst l20 y20 z20
    obtain ⟨c20, rfl, N20q, K20q, E20q, F20q⟩ := hQ20
    have N20 := Fr.app N18 N20q
    have K20 : Keep h0 T20.heap [] := K18.trans K20q all0
    have B20 : Ext h0 T20.heap := own_keep_ext K20
    obtain ⟨cq21, kq21, q21a, q21b, q21c⟩ := isOf hZ rfl E20q
    obtain ⟨_, _, ⟨T21, L21, k21, n21⟩, -, X21, ⟨Lc21, hQ21, l21, y21, z21⟩, st21⟩ := X20.virtualBack hx (y := (⟨"com/example/reactions_to_maps/reactionstomaps/layout/DistrictPacking$Need", "widened", "()Z"⟩ : MethodName)) (z := (⟨"com/example/reactions_to_maps/reactionstomaps/layout/DistrictPacking$Need", "widened", "()Z"⟩ : MethodName)) hown (mvT hZ (hw _ (List.mem_of_getElem? (i := 45) rfl))) (mvT hZ (hw _ (List.mem_of_getElem? (i := 46) rfl))) (notFace_of_selects (args := #[]) (mvT hZ (hw _ (List.mem_of_getElem? (i := 48) rfl)))) (mvT hZ (hw _ (List.mem_of_getElem? (i := 48) rfl))) (mvT hZ (hw _ (List.mem_of_getElem? (i := 47) rfl))) (by decide) (backOf (W := 0) (rm9 l Z a0 hw [] c20 (1 : Int32) T20.heap n0 (Nat.le_trans Z0 K20.1) F20q) hZ (hw _ (List.mem_of_getElem? (i := 49) rfl)) (hw _ (List.mem_of_getElem? (i := 7) rfl)) (by decide) (by decide)) q21a q21c (g := (mkF m 45 #[.val (.int p0), .val (.int p1), .val (.int (mx (1 : Int32) (p0 &&& (2147483647 : Int32)))), .val (.int ((1 : Int32) + ((p1 &&& (2147483647 : Int32)) % (mx (1 : Int32) (p0 &&& (2147483647 : Int32)))))), .val (.ref b17), .val (.int (0 : Int32)), .unset] [(.ref c20)])) rfl (by rw [hml]; rfl) (Steps.refl _) (argsL := []) (rest := []) (lenOf pd_1 rfl) rfl (by show 2 * 0 + _ ≤ _; exact Nat.le_of_eq rfl) (hb hby at_45) (fun _ _ => ⟨rfl, rfl, (by decide : 2 + 0 ≤ _), (by decide : 6 + 0 ≤ _)⟩)
    dsimp only [Pt.U, Pt.locs, Pt.cells, Pt.slots] at X21 l21 y21 z21 st21 hQ21
    subst l21 y21 z21
    obtain ⟨rfl, N21q, e21⟩ := hQ21
    have N21 := Fr.app N20 N21q
    refine own_go (A' := (T21.setTop (mkF m 48 #[.val (.int p0), .val (.int p1), .val (.int (mx (1 : Int32) (p0 &&& (2147483647 : Int32)))), .val (.int ((1 : Int32) + ((p1 &&& (2147483647 : Int32)) % (mx (1 : Int32) (p0 &&& (2147483647 : Int32)))))), .val (.ref b17), .val (.int (0 : Int32)), .unset] [(.int (wd (1 : Int32)))]))) (fun t k => ?_) ?_
    · show Steps p.tables e below (T18.setTop (mkF m 38 #[.val (.int p0), .val (.int p1), .val (.int (mx (1 : Int32) (p0 &&& (2147483647 : Int32)))), .val (.int ((1 : Int32) + ((p1 &&& (2147483647 : Int32)) % (mx (1 : Int32) (p0 &&& (2147483647 : Int32)))))), .val (.ref b17), .unset, .unset] [])) _
      refine XS.iconst X18.here hx rfl (hb hby at_38) ?_
      show Steps p.tables e below (T18.setTop (mkF m 39 #[.val (.int p0), .val (.int p1), .val (.int (mx (1 : Int32) (p0 &&& (2147483647 : Int32)))), .val (.int ((1 : Int32) + ((p1 &&& (2147483647 : Int32)) % (mx (1 : Int32) (p0 &&& (2147483647 : Int32)))))), .val (.ref b17), .unset, .unset] [(.int (0 : Int32))])) _
      refine XS.istore X18.here hx rfl (hb hby at_39) rfl (l' := #[.val (.int p0), .val (.int p1), .val (.int (mx (1 : Int32) (p0 &&& (2147483647 : Int32)))), .val (.int ((1 : Int32) + ((p1 &&& (2147483647 : Int32)) % (mx (1 : Int32) (p0 &&& (2147483647 : Int32)))))), .val (.ref b17), .val (.int (0 : Int32)), .unset]) rfl ?_
      show Steps p.tables e below (T18.setTop (mkF m 41 #[.val (.int p0), .val (.int p1), .val (.int (mx (1 : Int32) (p0 &&& (2147483647 : Int32)))), .val (.int ((1 : Int32) + ((p1 &&& (2147483647 : Int32)) % (mx (1 : Int32) (p0 &&& (2147483647 : Int32)))))), .val (.ref b17), .val (.int (0 : Int32)), .unset] [])) _
      refine XS.iloadN X18.here hx rfl (hb hby at_41) rfl ?_
      show Steps p.tables e below (T18.setTop (mkF m 42 #[.val (.int p0), .val (.int p1), .val (.int (mx (1 : Int32) (p0 &&& (2147483647 : Int32)))), .val (.int ((1 : Int32) + ((p1 &&& (2147483647 : Int32)) % (mx (1 : Int32) (p0 &&& (2147483647 : Int32)))))), .val (.ref b17), .val (.int (0 : Int32)), .unset] [(.int (mx (1 : Int32) (p0 &&& (2147483647 : Int32))))])) _
      refine st20 _ ?_
      show Steps p.tables e below (T20.setTop (mkF m 45 #[.val (.int p0), .val (.int p1), .val (.int (mx (1 : Int32) (p0 &&& (2147483647 : Int32)))), .val (.int ((1 : Int32) + ((p1 &&& (2147483647 : Int32)) % (mx (1 : Int32) (p0 &&& (2147483647 : Int32)))))), .val (.ref b17), .val (.int (0 : Int32)), .unset] [(.ref c20)])) _
      refine st21.trans ?_
      exact k
    refine own_go (A' := (T21.setTop (mkF m 51 #[.val (.int p0), .val (.int p1), .val (.int (mx (1 : Int32) (p0 &&& (2147483647 : Int32)))), .val (.int ((1 : Int32) + ((p1 &&& (2147483647 : Int32)) % (mx (1 : Int32) (p0 &&& (2147483647 : Int32)))))), .val (.ref b17), .val (.int (0 : Int32)), .unset] []))) (fun t k => XS.ifNo X21.here hx rfl (hb hby at_48) rfl ((if0 _ _).trans (teq (by decide : wd (1 : Int32) = (0 : Int32))).2) k) ?_
    obtain ⟨cq22, kq22, q22a, q22b, q22c⟩ := isOf hZ e21 (E18q.keep K20q)
    obtain ⟨_, _, ⟨T22, L22, k22, n22⟩, -, X22, ⟨Lc22, hQ22, l22, y22, z22⟩, st22⟩ := X21.virtualBack hx (y := (⟨"com/example/reactions_to_maps/reactionstomaps/layout/DistrictPacking$Need", "widened", "()Z"⟩ : MethodName)) (z := (⟨"com/example/reactions_to_maps/reactionstomaps/layout/DistrictPacking$Need", "widened", "()Z"⟩ : MethodName)) hown (mvT hZ (hw _ (List.mem_of_getElem? (i := 45) rfl))) (mvT hZ (hw _ (List.mem_of_getElem? (i := 46) rfl))) (notFace_of_selects (args := #[]) (mvT hZ (hw _ (List.mem_of_getElem? (i := 48) rfl)))) (mvT hZ (hw _ (List.mem_of_getElem? (i := 48) rfl))) (mvT hZ (hw _ (List.mem_of_getElem? (i := 47) rfl))) (by decide) (backOf (W := 0) (rm9 l Z a0 hw [] b17 ((1 : Int32) + ((p1 &&& (2147483647 : Int32)) % (mx (1 : Int32) (p0 &&& (2147483647 : Int32))))) T20.heap n0 (Nat.le_trans Z0 K20.1) (F18q.keep K20q nin0)) hZ (hw _ (List.mem_of_getElem? (i := 49) rfl)) (hw _ (List.mem_of_getElem? (i := 7) rfl)) (by decide) (by decide)) q22a q22c (g := (mkF m 60 #[.val (.int p0), .val (.int p1), .val (.int (mx (1 : Int32) (p0 &&& (2147483647 : Int32)))), .val (.int ((1 : Int32) + ((p1 &&& (2147483647 : Int32)) % (mx (1 : Int32) (p0 &&& (2147483647 : Int32)))))), .val (.ref b17), .val (.int (0 : Int32)), .val (.int (1 : Int32))] [(.ref b17)])) rfl (by rw [hml]; rfl) (Steps.refl _) (argsL := []) (rest := []) (lenOf pd_1 rfl) rfl (by show 2 * 0 + _ ≤ _; exact Nat.le_of_eq rfl) (hb hby at_60) (fun _ _ => ⟨rfl, e21, (by decide : 2 + 0 ≤ _), (by decide : 6 + 0 ≤ _)⟩)
    dsimp only [Pt.U, Pt.locs, Pt.cells, Pt.slots] at X22 l22 y22 z22 st22 hQ22
    subst l22 y22 z22
    obtain ⟨rfl, N22q, e22⟩ := hQ22
    have N22 := Fr.app N21 N22q
    refine own_go (A' := (T22.setTop (mkF m 65 #[.val (.int p0), .val (.int p1), .val (.int (mx (1 : Int32) (p0 &&& (2147483647 : Int32)))), .val (.int ((1 : Int32) + ((p1 &&& (2147483647 : Int32)) % (mx (1 : Int32) (p0 &&& (2147483647 : Int32)))))), .val (.ref b17), .val (.int (0 : Int32)), .val (.int (1 : Int32))] [(.int (0 : Int32)), (.int (wd ((1 : Int32) + ((p1 &&& (2147483647 : Int32)) % (mx (1 : Int32) (p0 &&& (2147483647 : Int32)))))))]))) (fun t k => ?_) ?_
    · show Steps p.tables e below (T21.setTop (mkF m 51 #[.val (.int p0), .val (.int p1), .val (.int (mx (1 : Int32) (p0 &&& (2147483647 : Int32)))), .val (.int ((1 : Int32) + ((p1 &&& (2147483647 : Int32)) % (mx (1 : Int32) (p0 &&& (2147483647 : Int32)))))), .val (.ref b17), .val (.int (0 : Int32)), .unset] [])) _
      refine XS.iconst X21.here hx rfl (hb hby at_51) ?_
      show Steps p.tables e below (T21.setTop (mkF m 52 #[.val (.int p0), .val (.int p1), .val (.int (mx (1 : Int32) (p0 &&& (2147483647 : Int32)))), .val (.int ((1 : Int32) + ((p1 &&& (2147483647 : Int32)) % (mx (1 : Int32) (p0 &&& (2147483647 : Int32)))))), .val (.ref b17), .val (.int (0 : Int32)), .unset] [(.int (1 : Int32))])) _
      refine XS.goto X21.here hx rfl (pc0 := 52) (pc' := 56) rfl (hb hby at_52) (by decide) (by decide) ?_
      show Steps p.tables e below (T21.setTop (mkF m 56 #[.val (.int p0), .val (.int p1), .val (.int (mx (1 : Int32) (p0 &&& (2147483647 : Int32)))), .val (.int ((1 : Int32) + ((p1 &&& (2147483647 : Int32)) % (mx (1 : Int32) (p0 &&& (2147483647 : Int32)))))), .val (.ref b17), .val (.int (0 : Int32)), .unset] [(.int (1 : Int32))])) _
      refine XS.istore X21.here hx rfl (hb hby at_56) rfl (l' := #[.val (.int p0), .val (.int p1), .val (.int (mx (1 : Int32) (p0 &&& (2147483647 : Int32)))), .val (.int ((1 : Int32) + ((p1 &&& (2147483647 : Int32)) % (mx (1 : Int32) (p0 &&& (2147483647 : Int32)))))), .val (.ref b17), .val (.int (0 : Int32)), .val (.int (1 : Int32))]) rfl ?_
      show Steps p.tables e below (T21.setTop (mkF m 58 #[.val (.int p0), .val (.int p1), .val (.int (mx (1 : Int32) (p0 &&& (2147483647 : Int32)))), .val (.int ((1 : Int32) + ((p1 &&& (2147483647 : Int32)) % (mx (1 : Int32) (p0 &&& (2147483647 : Int32)))))), .val (.ref b17), .val (.int (0 : Int32)), .val (.int (1 : Int32))] [])) _
      refine XS.aload X21.here hx rfl (hb hby at_58) rfl rfl ?_
      show Steps p.tables e below (T21.setTop (mkF m 60 #[.val (.int p0), .val (.int p1), .val (.int (mx (1 : Int32) (p0 &&& (2147483647 : Int32)))), .val (.int ((1 : Int32) + ((p1 &&& (2147483647 : Int32)) % (mx (1 : Int32) (p0 &&& (2147483647 : Int32)))))), .val (.ref b17), .val (.int (0 : Int32)), .val (.int (1 : Int32))] [(.ref b17)])) _
      refine st22.trans ?_
      show Steps p.tables e below (T22.setTop (mkF m 63 #[.val (.int p0), .val (.int p1), .val (.int (mx (1 : Int32) (p0 &&& (2147483647 : Int32)))), .val (.int ((1 : Int32) + ((p1 &&& (2147483647 : Int32)) % (mx (1 : Int32) (p0 &&& (2147483647 : Int32)))))), .val (.ref b17), .val (.int (0 : Int32)), .val (.int (1 : Int32))] [(.int (wd ((1 : Int32) + ((p1 &&& (2147483647 : Int32)) % (mx (1 : Int32) (p0 &&& (2147483647 : Int32)))))))])) _
      refine XS.iload X22.here hx rfl (hb hby at_63) rfl ?_
      exact k
    refine own_go (A' := (T22.setTop (mkF m 68 #[.val (.int p0), .val (.int p1), .val (.int (mx (1 : Int32) (p0 &&& (2147483647 : Int32)))), .val (.int ((1 : Int32) + ((p1 &&& (2147483647 : Int32)) % (mx (1 : Int32) (p0 &&& (2147483647 : Int32)))))), .val (.ref b17), .val (.int (0 : Int32)), .val (.int (1 : Int32))] []))) (fun t k => XS.icmpNo X22.here hx rfl (hb hby at_65) rfl (teq (by rw [hc19]; decide)).2 k) ?_
    refine own_go (A' := (T22.setTop (mkF m 70 #[.val (.int p0), .val (.int p1), .val (.int (mx (1 : Int32) (p0 &&& (2147483647 : Int32)))), .val (.int ((1 : Int32) + ((p1 &&& (2147483647 : Int32)) % (mx (1 : Int32) (p0 &&& (2147483647 : Int32)))))), .val (.ref b17), .val (.int (0 : Int32)), .val (.int (1 : Int32))] [(.int (1 : Int32))]))) (fun t k => ?_) ?_
    · show Steps p.tables e below (T22.setTop (mkF m 68 #[.val (.int p0), .val (.int p1), .val (.int (mx (1 : Int32) (p0 &&& (2147483647 : Int32)))), .val (.int ((1 : Int32) + ((p1 &&& (2147483647 : Int32)) % (mx (1 : Int32) (p0 &&& (2147483647 : Int32)))))), .val (.ref b17), .val (.int (0 : Int32)), .val (.int (1 : Int32))] [])) _
      refine XS.iload X22.here hx rfl (hb hby at_68) rfl ?_
      exact k
    refine own_go (A' := (T22.setTop (mkF m 73 #[.val (.int p0), .val (.int p1), .val (.int (mx (1 : Int32) (p0 &&& (2147483647 : Int32)))), .val (.int ((1 : Int32) + ((p1 &&& (2147483647 : Int32)) % (mx (1 : Int32) (p0 &&& (2147483647 : Int32)))))), .val (.ref b17), .val (.int (0 : Int32)), .val (.int (1 : Int32))] []))) (fun t k => XS.ifNo X22.here hx rfl (hb hby at_70) rfl ((if0 _ _).trans (feq (by decide : ¬ ((1 : Int32) = (0 : Int32)))).1) k) ?_
    refine own_go (A' := (T22.setTop (mkF m 78 #[.val (.int p0), .val (.int p1), .val (.int (mx (1 : Int32) (p0 &&& (2147483647 : Int32)))), .val (.int ((1 : Int32) + ((p1 &&& (2147483647 : Int32)) % (mx (1 : Int32) (p0 &&& (2147483647 : Int32)))))), .val (.ref b17), .val (.int (0 : Int32)), .val (.int (1 : Int32))] [(.int (1 : Int32))]))) (fun t k => ?_) ?_
    · show Steps p.tables e below (T22.setTop (mkF m 73 #[.val (.int p0), .val (.int p1), .val (.int (mx (1 : Int32) (p0 &&& (2147483647 : Int32)))), .val (.int ((1 : Int32) + ((p1 &&& (2147483647 : Int32)) % (mx (1 : Int32) (p0 &&& (2147483647 : Int32)))))), .val (.ref b17), .val (.int (0 : Int32)), .val (.int (1 : Int32))] [])) _
      refine XS.iconst X22.here hx rfl (hb hby at_73) ?_
      show Steps p.tables e below (T22.setTop (mkF m 74 #[.val (.int p0), .val (.int p1), .val (.int (mx (1 : Int32) (p0 &&& (2147483647 : Int32)))), .val (.int ((1 : Int32) + ((p1 &&& (2147483647 : Int32)) % (mx (1 : Int32) (p0 &&& (2147483647 : Int32)))))), .val (.ref b17), .val (.int (0 : Int32)), .val (.int (1 : Int32))] [(.int (1 : Int32))])) _
      refine XS.goto X22.here hx rfl (pc0 := 74) (pc' := 78) rfl (hb hby at_74) (by decide) (by decide) ?_
      exact k
    obtain ⟨fs, hr, hrun, hended, hW, hsame⟩ := X22.leave (v := some (.int (1 : Int32))) (fun h => by rw [Bd.returns] at h; cases h)
    refine ⟨_, _, ?_, hrun, hended, _, _, rfl, ?_, ⟨_, rfl⟩, hW, hsame.mono (by decide) (by decide)⟩
    · show Steps p.tables e below (T22.setTop (mkF m 78 #[.val (.int p0), .val (.int p1), .val (.int (mx (1 : Int32) (p0 &&& (2147483647 : Int32)))), .val (.int ((1 : Int32) + ((p1 &&& (2147483647 : Int32)) % (mx (1 : Int32) (p0 &&& (2147483647 : Int32)))))), .val (.ref b17), .val (.int (0 : Int32)), .val (.int (1 : Int32))] [(.int (1 : Int32))])) _
      exact retN X22 hx (t := .boolean) Bd.returns (by simp) (hb hby at_78) hr
    · show Q0 Z p0 p1 w_EMPTY h0 n0 _ T22.heap _
      exact ⟨rfl, N22⟩
  · -- hc19: no
    refine own_go (A' := (T18.setTop (mkF m 34 #[.val (.int p0), .val (.int p1), .val (.int (mx (1 : Int32) (p0 &&& (2147483647 : Int32)))), .val (.int ((1 : Int32) + ((p1 &&& (2147483647 : Int32)) % (mx (1 : Int32) (p0 &&& (2147483647 : Int32)))))), .val (.ref b17), .unset, .unset] []))) (fun t k => XS.icmpNo X18.here hx rfl (hb hby at_31) rfl (feq hc19).1 k) ?_
    obtain ⟨_, _, ⟨T23, L23, k23, n23⟩, -, X23, ⟨Lc23, hQ23, l23, y23, z23⟩, st23⟩ := Jvm.LawKit.callS X18 hx (y := (⟨"com/example/reactions_to_maps/reactionstomaps/layout/DistrictPacking$Need", "of", "(I)Lcom/example/reactions_to_maps/reactionstomaps/layout/DistrictPacking$Need;"⟩ : MethodName)) hown (mvT hZ (hw _ (List.mem_of_getElem? (i := 40) rfl))) (mvT hZ (hw _ (List.mem_of_getElem? (i := 41) rfl))) (mvT hZ (hw _ (List.mem_of_getElem? (i := 7) rfl))) (mvT hZ (hw _ (List.mem_of_getElem? (i := 42) rfl))) (by decide) (backOf (W := 0) (rm8 l Z a0 hw [] (mx (1 : Int32) (p0 &&& (2147483647 : Int32))) w_EMPTY T18.heap n0 (Nat.le_trans Z0 K18.1) (S_EMPTY.ext B18) (E_EMPTY.ext B18) (F_EMPTY.ext B18) (own_cells _)) hZ (hw _ (List.mem_of_getElem? (i := 42) rfl)) (hw _ (List.mem_of_getElem? (i := 7) rfl)) (by decide) (by decide)) (g := (mkF m 42 #[.val (.int p0), .val (.int p1), .val (.int (mx (1 : Int32) (p0 &&& (2147483647 : Int32)))), .val (.int ((1 : Int32) + ((p1 &&& (2147483647 : Int32)) % (mx (1 : Int32) (p0 &&& (2147483647 : Int32)))))), .val (.ref b17), .val (.int (1 : Int32)), .unset] [(.int (mx (1 : Int32) (p0 &&& (2147483647 : Int32))))])) rfl (by rw [hml]; rfl) (argsL := [(.int (mx (1 : Int32) (p0 &&& (2147483647 : Int32))))]) (rest := []) (lenOf pd_6 rfl) rfl (by show 2 * 0 + _ ≤ _; exact Nat.le_of_eq rfl) (hb hby at_42) (fun _ _ => ⟨rfl, rfl, (by decide : 1 + 1 ≤ _), (by decide : 3 + 3 ≤ _)⟩)
    dsimp only [Pt.U, Pt.locs, Pt.cells, Pt.slots] at X23 l23 y23 z23 st23 hQ23
    subst l23 y23 z23
    obtain ⟨c23, rfl, N23q, K23q, E23q, F23q⟩ := hQ23
    have N23 := Fr.app N18 N23q
    have K23 : Keep h0 T23.heap [] := K18.trans K23q all0
    have B23 : Ext h0 T23.heap := own_keep_ext K23
    obtain ⟨cq24, kq24, q24a, q24b, q24c⟩ := isOf hZ rfl E23q
    obtain ⟨_, _, ⟨T24, L24, k24, n24⟩, -, X24, ⟨Lc24, hQ24, l24, y24, z24⟩, st24⟩ := X23.virtualBack hx (y := (⟨"com/example/reactions_to_maps/reactionstomaps/layout/DistrictPacking$Need", "widened", "()Z"⟩ : MethodName)) (z := (⟨"com/example/reactions_to_maps/reactionstomaps/layout/DistrictPacking$Need", "widened", "()Z"⟩ : MethodName)) hown (mvT hZ (hw _ (List.mem_of_getElem? (i := 45) rfl))) (mvT hZ (hw _ (List.mem_of_getElem? (i := 46) rfl))) (notFace_of_selects (args := #[]) (mvT hZ (hw _ (List.mem_of_getElem? (i := 48) rfl)))) (mvT hZ (hw _ (List.mem_of_getElem? (i := 48) rfl))) (mvT hZ (hw _ (List.mem_of_getElem? (i := 47) rfl))) (by decide) (backOf (W := 0) (rm9 l Z a0 hw [] c23 (1 : Int32) T23.heap n0 (Nat.le_trans Z0 K23.1) F23q) hZ (hw _ (List.mem_of_getElem? (i := 49) rfl)) (hw _ (List.mem_of_getElem? (i := 7) rfl)) (by decide) (by decide)) q24a q24c (g := (mkF m 45 #[.val (.int p0), .val (.int p1), .val (.int (mx (1 : Int32) (p0 &&& (2147483647 : Int32)))), .val (.int ((1 : Int32) + ((p1 &&& (2147483647 : Int32)) % (mx (1 : Int32) (p0 &&& (2147483647 : Int32)))))), .val (.ref b17), .val (.int (1 : Int32)), .unset] [(.ref c23)])) rfl (by rw [hml]; rfl) (Steps.refl _) (argsL := []) (rest := []) (lenOf pd_1 rfl) rfl (by show 2 * 0 + _ ≤ _; exact Nat.le_of_eq rfl) (hb hby at_45) (fun _ _ => ⟨rfl, rfl, (by decide : 2 + 0 ≤ _), (by decide : 6 + 0 ≤ _)⟩)
    dsimp only [Pt.U, Pt.locs, Pt.cells, Pt.slots] at X24 l24 y24 z24 st24 hQ24
    subst l24 y24 z24
    obtain ⟨rfl, N24q, e24⟩ := hQ24
    have N24 := Fr.app N23 N24q
    refine own_go (A' := (T24.setTop (mkF m 48 #[.val (.int p0), .val (.int p1), .val (.int (mx (1 : Int32) (p0 &&& (2147483647 : Int32)))), .val (.int ((1 : Int32) + ((p1 &&& (2147483647 : Int32)) % (mx (1 : Int32) (p0 &&& (2147483647 : Int32)))))), .val (.ref b17), .val (.int (1 : Int32)), .unset] [(.int (wd (1 : Int32)))]))) (fun t k => ?_) ?_
    · show Steps p.tables e below (T18.setTop (mkF m 34 #[.val (.int p0), .val (.int p1), .val (.int (mx (1 : Int32) (p0 &&& (2147483647 : Int32)))), .val (.int ((1 : Int32) + ((p1 &&& (2147483647 : Int32)) % (mx (1 : Int32) (p0 &&& (2147483647 : Int32)))))), .val (.ref b17), .unset, .unset] [])) _
      refine XS.iconst X18.here hx rfl (hb hby at_34) ?_
      show Steps p.tables e below (T18.setTop (mkF m 35 #[.val (.int p0), .val (.int p1), .val (.int (mx (1 : Int32) (p0 &&& (2147483647 : Int32)))), .val (.int ((1 : Int32) + ((p1 &&& (2147483647 : Int32)) % (mx (1 : Int32) (p0 &&& (2147483647 : Int32)))))), .val (.ref b17), .unset, .unset] [(.int (1 : Int32))])) _
      refine XS.goto X18.here hx rfl (pc0 := 35) (pc' := 39) rfl (hb hby at_35) (by decide) (by decide) ?_
      show Steps p.tables e below (T18.setTop (mkF m 39 #[.val (.int p0), .val (.int p1), .val (.int (mx (1 : Int32) (p0 &&& (2147483647 : Int32)))), .val (.int ((1 : Int32) + ((p1 &&& (2147483647 : Int32)) % (mx (1 : Int32) (p0 &&& (2147483647 : Int32)))))), .val (.ref b17), .unset, .unset] [(.int (1 : Int32))])) _
      refine XS.istore X18.here hx rfl (hb hby at_39) rfl (l' := #[.val (.int p0), .val (.int p1), .val (.int (mx (1 : Int32) (p0 &&& (2147483647 : Int32)))), .val (.int ((1 : Int32) + ((p1 &&& (2147483647 : Int32)) % (mx (1 : Int32) (p0 &&& (2147483647 : Int32)))))), .val (.ref b17), .val (.int (1 : Int32)), .unset]) rfl ?_
      show Steps p.tables e below (T18.setTop (mkF m 41 #[.val (.int p0), .val (.int p1), .val (.int (mx (1 : Int32) (p0 &&& (2147483647 : Int32)))), .val (.int ((1 : Int32) + ((p1 &&& (2147483647 : Int32)) % (mx (1 : Int32) (p0 &&& (2147483647 : Int32)))))), .val (.ref b17), .val (.int (1 : Int32)), .unset] [])) _
      refine XS.iloadN X18.here hx rfl (hb hby at_41) rfl ?_
      show Steps p.tables e below (T18.setTop (mkF m 42 #[.val (.int p0), .val (.int p1), .val (.int (mx (1 : Int32) (p0 &&& (2147483647 : Int32)))), .val (.int ((1 : Int32) + ((p1 &&& (2147483647 : Int32)) % (mx (1 : Int32) (p0 &&& (2147483647 : Int32)))))), .val (.ref b17), .val (.int (1 : Int32)), .unset] [(.int (mx (1 : Int32) (p0 &&& (2147483647 : Int32))))])) _
      refine st23 _ ?_
      show Steps p.tables e below (T23.setTop (mkF m 45 #[.val (.int p0), .val (.int p1), .val (.int (mx (1 : Int32) (p0 &&& (2147483647 : Int32)))), .val (.int ((1 : Int32) + ((p1 &&& (2147483647 : Int32)) % (mx (1 : Int32) (p0 &&& (2147483647 : Int32)))))), .val (.ref b17), .val (.int (1 : Int32)), .unset] [(.ref c23)])) _
      refine st24.trans ?_
      exact k
    refine own_go (A' := (T24.setTop (mkF m 51 #[.val (.int p0), .val (.int p1), .val (.int (mx (1 : Int32) (p0 &&& (2147483647 : Int32)))), .val (.int ((1 : Int32) + ((p1 &&& (2147483647 : Int32)) % (mx (1 : Int32) (p0 &&& (2147483647 : Int32)))))), .val (.ref b17), .val (.int (1 : Int32)), .unset] []))) (fun t k => XS.ifNo X24.here hx rfl (hb hby at_48) rfl ((if0 _ _).trans (teq (by decide : wd (1 : Int32) = (0 : Int32))).2) k) ?_
    obtain ⟨cq25, kq25, q25a, q25b, q25c⟩ := isOf hZ e24 (E18q.keep K23q)
    obtain ⟨_, _, ⟨T25, L25, k25, n25⟩, -, X25, ⟨Lc25, hQ25, l25, y25, z25⟩, st25⟩ := X24.virtualBack hx (y := (⟨"com/example/reactions_to_maps/reactionstomaps/layout/DistrictPacking$Need", "widened", "()Z"⟩ : MethodName)) (z := (⟨"com/example/reactions_to_maps/reactionstomaps/layout/DistrictPacking$Need", "widened", "()Z"⟩ : MethodName)) hown (mvT hZ (hw _ (List.mem_of_getElem? (i := 45) rfl))) (mvT hZ (hw _ (List.mem_of_getElem? (i := 46) rfl))) (notFace_of_selects (args := #[]) (mvT hZ (hw _ (List.mem_of_getElem? (i := 48) rfl)))) (mvT hZ (hw _ (List.mem_of_getElem? (i := 48) rfl))) (mvT hZ (hw _ (List.mem_of_getElem? (i := 47) rfl))) (by decide) (backOf (W := 0) (rm9 l Z a0 hw [] b17 ((1 : Int32) + ((p1 &&& (2147483647 : Int32)) % (mx (1 : Int32) (p0 &&& (2147483647 : Int32))))) T23.heap n0 (Nat.le_trans Z0 K23.1) (F18q.keep K23q nin0)) hZ (hw _ (List.mem_of_getElem? (i := 49) rfl)) (hw _ (List.mem_of_getElem? (i := 7) rfl)) (by decide) (by decide)) q25a q25c (g := (mkF m 60 #[.val (.int p0), .val (.int p1), .val (.int (mx (1 : Int32) (p0 &&& (2147483647 : Int32)))), .val (.int ((1 : Int32) + ((p1 &&& (2147483647 : Int32)) % (mx (1 : Int32) (p0 &&& (2147483647 : Int32)))))), .val (.ref b17), .val (.int (1 : Int32)), .val (.int (1 : Int32))] [(.ref b17)])) rfl (by rw [hml]; rfl) (Steps.refl _) (argsL := []) (rest := []) (lenOf pd_1 rfl) rfl (by show 2 * 0 + _ ≤ _; exact Nat.le_of_eq rfl) (hb hby at_60) (fun _ _ => ⟨rfl, e24, (by decide : 2 + 0 ≤ _), (by decide : 6 + 0 ≤ _)⟩)
    dsimp only [Pt.U, Pt.locs, Pt.cells, Pt.slots] at X25 l25 y25 z25 st25 hQ25
    subst l25 y25 z25
    obtain ⟨rfl, N25q, e25⟩ := hQ25
    have N25 := Fr.app N24 N25q
    refine own_go (A' := (T25.setTop (mkF m 65 #[.val (.int p0), .val (.int p1), .val (.int (mx (1 : Int32) (p0 &&& (2147483647 : Int32)))), .val (.int ((1 : Int32) + ((p1 &&& (2147483647 : Int32)) % (mx (1 : Int32) (p0 &&& (2147483647 : Int32)))))), .val (.ref b17), .val (.int (1 : Int32)), .val (.int (1 : Int32))] [(.int (1 : Int32)), (.int (wd ((1 : Int32) + ((p1 &&& (2147483647 : Int32)) % (mx (1 : Int32) (p0 &&& (2147483647 : Int32)))))))]))) (fun t k => ?_) ?_
    · show Steps p.tables e below (T24.setTop (mkF m 51 #[.val (.int p0), .val (.int p1), .val (.int (mx (1 : Int32) (p0 &&& (2147483647 : Int32)))), .val (.int ((1 : Int32) + ((p1 &&& (2147483647 : Int32)) % (mx (1 : Int32) (p0 &&& (2147483647 : Int32)))))), .val (.ref b17), .val (.int (1 : Int32)), .unset] [])) _
      refine XS.iconst X24.here hx rfl (hb hby at_51) ?_
      show Steps p.tables e below (T24.setTop (mkF m 52 #[.val (.int p0), .val (.int p1), .val (.int (mx (1 : Int32) (p0 &&& (2147483647 : Int32)))), .val (.int ((1 : Int32) + ((p1 &&& (2147483647 : Int32)) % (mx (1 : Int32) (p0 &&& (2147483647 : Int32)))))), .val (.ref b17), .val (.int (1 : Int32)), .unset] [(.int (1 : Int32))])) _
      refine XS.goto X24.here hx rfl (pc0 := 52) (pc' := 56) rfl (hb hby at_52) (by decide) (by decide) ?_
      show Steps p.tables e below (T24.setTop (mkF m 56 #[.val (.int p0), .val (.int p1), .val (.int (mx (1 : Int32) (p0 &&& (2147483647 : Int32)))), .val (.int ((1 : Int32) + ((p1 &&& (2147483647 : Int32)) % (mx (1 : Int32) (p0 &&& (2147483647 : Int32)))))), .val (.ref b17), .val (.int (1 : Int32)), .unset] [(.int (1 : Int32))])) _
      refine XS.istore X24.here hx rfl (hb hby at_56) rfl (l' := #[.val (.int p0), .val (.int p1), .val (.int (mx (1 : Int32) (p0 &&& (2147483647 : Int32)))), .val (.int ((1 : Int32) + ((p1 &&& (2147483647 : Int32)) % (mx (1 : Int32) (p0 &&& (2147483647 : Int32)))))), .val (.ref b17), .val (.int (1 : Int32)), .val (.int (1 : Int32))]) rfl ?_
      show Steps p.tables e below (T24.setTop (mkF m 58 #[.val (.int p0), .val (.int p1), .val (.int (mx (1 : Int32) (p0 &&& (2147483647 : Int32)))), .val (.int ((1 : Int32) + ((p1 &&& (2147483647 : Int32)) % (mx (1 : Int32) (p0 &&& (2147483647 : Int32)))))), .val (.ref b17), .val (.int (1 : Int32)), .val (.int (1 : Int32))] [])) _
      refine XS.aload X24.here hx rfl (hb hby at_58) rfl rfl ?_
      show Steps p.tables e below (T24.setTop (mkF m 60 #[.val (.int p0), .val (.int p1), .val (.int (mx (1 : Int32) (p0 &&& (2147483647 : Int32)))), .val (.int ((1 : Int32) + ((p1 &&& (2147483647 : Int32)) % (mx (1 : Int32) (p0 &&& (2147483647 : Int32)))))), .val (.ref b17), .val (.int (1 : Int32)), .val (.int (1 : Int32))] [(.ref b17)])) _
      refine st25.trans ?_
      show Steps p.tables e below (T25.setTop (mkF m 63 #[.val (.int p0), .val (.int p1), .val (.int (mx (1 : Int32) (p0 &&& (2147483647 : Int32)))), .val (.int ((1 : Int32) + ((p1 &&& (2147483647 : Int32)) % (mx (1 : Int32) (p0 &&& (2147483647 : Int32)))))), .val (.ref b17), .val (.int (1 : Int32)), .val (.int (1 : Int32))] [(.int (wd ((1 : Int32) + ((p1 &&& (2147483647 : Int32)) % (mx (1 : Int32) (p0 &&& (2147483647 : Int32)))))))])) _
      refine XS.iload X25.here hx rfl (hb hby at_63) rfl ?_
      exact k
    refine own_go (A' := (T25.setTop (mkF m 68 #[.val (.int p0), .val (.int p1), .val (.int (mx (1 : Int32) (p0 &&& (2147483647 : Int32)))), .val (.int ((1 : Int32) + ((p1 &&& (2147483647 : Int32)) % (mx (1 : Int32) (p0 &&& (2147483647 : Int32)))))), .val (.ref b17), .val (.int (1 : Int32)), .val (.int (1 : Int32))] []))) (fun t k => XS.icmpNo X25.here hx rfl (hb hby at_65) rfl (teq (own_wd _ _ hc19)).2 k) ?_
    refine own_go (A' := (T25.setTop (mkF m 70 #[.val (.int p0), .val (.int p1), .val (.int (mx (1 : Int32) (p0 &&& (2147483647 : Int32)))), .val (.int ((1 : Int32) + ((p1 &&& (2147483647 : Int32)) % (mx (1 : Int32) (p0 &&& (2147483647 : Int32)))))), .val (.ref b17), .val (.int (1 : Int32)), .val (.int (1 : Int32))] [(.int (1 : Int32))]))) (fun t k => ?_) ?_
    · show Steps p.tables e below (T25.setTop (mkF m 68 #[.val (.int p0), .val (.int p1), .val (.int (mx (1 : Int32) (p0 &&& (2147483647 : Int32)))), .val (.int ((1 : Int32) + ((p1 &&& (2147483647 : Int32)) % (mx (1 : Int32) (p0 &&& (2147483647 : Int32)))))), .val (.ref b17), .val (.int (1 : Int32)), .val (.int (1 : Int32))] [])) _
      refine XS.iload X25.here hx rfl (hb hby at_68) rfl ?_
      exact k
    refine own_go (A' := (T25.setTop (mkF m 73 #[.val (.int p0), .val (.int p1), .val (.int (mx (1 : Int32) (p0 &&& (2147483647 : Int32)))), .val (.int ((1 : Int32) + ((p1 &&& (2147483647 : Int32)) % (mx (1 : Int32) (p0 &&& (2147483647 : Int32)))))), .val (.ref b17), .val (.int (1 : Int32)), .val (.int (1 : Int32))] []))) (fun t k => XS.ifNo X25.here hx rfl (hb hby at_70) rfl ((if0 _ _).trans (feq (by decide : ¬ ((1 : Int32) = (0 : Int32)))).1) k) ?_
    refine own_go (A' := (T25.setTop (mkF m 78 #[.val (.int p0), .val (.int p1), .val (.int (mx (1 : Int32) (p0 &&& (2147483647 : Int32)))), .val (.int ((1 : Int32) + ((p1 &&& (2147483647 : Int32)) % (mx (1 : Int32) (p0 &&& (2147483647 : Int32)))))), .val (.ref b17), .val (.int (1 : Int32)), .val (.int (1 : Int32))] [(.int (1 : Int32))]))) (fun t k => ?_) ?_
    · show Steps p.tables e below (T25.setTop (mkF m 73 #[.val (.int p0), .val (.int p1), .val (.int (mx (1 : Int32) (p0 &&& (2147483647 : Int32)))), .val (.int ((1 : Int32) + ((p1 &&& (2147483647 : Int32)) % (mx (1 : Int32) (p0 &&& (2147483647 : Int32)))))), .val (.ref b17), .val (.int (1 : Int32)), .val (.int (1 : Int32))] [])) _
      refine XS.iconst X25.here hx rfl (hb hby at_73) ?_
      show Steps p.tables e below (T25.setTop (mkF m 74 #[.val (.int p0), .val (.int p1), .val (.int (mx (1 : Int32) (p0 &&& (2147483647 : Int32)))), .val (.int ((1 : Int32) + ((p1 &&& (2147483647 : Int32)) % (mx (1 : Int32) (p0 &&& (2147483647 : Int32)))))), .val (.ref b17), .val (.int (1 : Int32)), .val (.int (1 : Int32))] [(.int (1 : Int32))])) _
      refine XS.goto X25.here hx rfl (pc0 := 74) (pc' := 78) rfl (hb hby at_74) (by decide) (by decide) ?_
      exact k
    obtain ⟨fs, hr, hrun, hended, hW, hsame⟩ := X25.leave (v := some (.int (1 : Int32))) (fun h => by rw [Bd.returns] at h; cases h)
    refine ⟨_, _, ?_, hrun, hended, _, _, rfl, ?_, ⟨_, rfl⟩, hW, hsame.mono (by decide) (by decide)⟩
    · show Steps p.tables e below (T25.setTop (mkF m 78 #[.val (.int p0), .val (.int p1), .val (.int (mx (1 : Int32) (p0 &&& (2147483647 : Int32)))), .val (.int ((1 : Int32) + ((p1 &&& (2147483647 : Int32)) % (mx (1 : Int32) (p0 &&& (2147483647 : Int32)))))), .val (.ref b17), .val (.int (1 : Int32)), .val (.int (1 : Int32))] [(.int (1 : Int32))])) _
      exact retN X25 hx (t := .boolean) Bd.returns (by simp) (hb hby at_78) hr
    · show Q0 Z p0 p1 w_EMPTY h0 n0 _ T25.heap _
      exact ⟨rfl, N25⟩
theorem own_eqint {t : Term} {k : Int32} {args : Array Value} {first s : State} {o : Option Outcome} {idx : List Nat} (h : (Jvm.Cond.eq t (.int k)).value args first o s idx = some true) : t.eval args first o idx s = some (.int k) := by
  cases ht : t.eval args first o idx s with
  | none => simp [Cond.value, Term.eval, ht] at h
  | some x => cases x <;> simp [Cond.value, Term.eval, ht] at h; subst h; rfl
set_option maxRecDepth 65536 in
set_option maxHeartbeats 40000000 in
theorem comes_1 {Post : Tables → Env → Array Value → State → Outcome → State → Prop} (hpost : ∀ tb e args s v u, (limb_1_1.after args s (.returned v) u = true ∧ limb_1_2.after args s (.returned v) u = true ∧ True) → FrameEnd s (.returned v) u (Jvm.fieldLocs frame_1_writes args s ++ Jvm.arrayLocs frame_1_arrays args s ++ Jvm.staticLocs frame_1_statics s) 16 128 → Post tb e args s (.returned v) u) :
    ArmFor flags0 classFile x code maxLocals ret World_1 tables_1 room_1 Calls_1 rest_1 Pre_1 Post := by
  intro l hfl _ _ p e ha hc hk s m args below hf hA hF happ hP
  obtain ⟨hcalls, hrest, hpre⟩ := hP
  obtain ⟨-, -, -, hnamed, -, -, -, hat⟩ := (Spec.applies_iff hf).mp happ
  obtain ⟨hg, hn⟩ := and_e (Cond.before_iff.mp (show (Jvm.Cond.and given_1 narrow_1).before args s = true from hpre))
  have hv0 := (and_e (and_e hg).2).1
  have hv1 := (and_e (and_e hg).2).2
  obtain ⟨w0, w1, rfl⟩ : ∃ w0 w1 : Value, args = #[w0, w1] := by
    have hs : args.size = 2 := by simpa [Cond.value, given_1] using (and_e hg).1
    obtain ⟨L⟩ := args
    match L, hs with
    | [w0, w1], _ => exact ⟨w0, w1, rfl⟩
  have hw := fun d (hd : d ∈ tables_1) => atoms_spec (ws := Jvm.Cond.code x code maxLocals ret :: tables_1) hat d (List.mem_cons_of_mem _ hd)
  have hfit : Fit s := fun {y c} hc i hi => by
    obtain ⟨ha, rfl⟩ := Array.getElem?_eq_some_iff.mp hc
    have q := List.all_eq_true.mp ((Array.all_eq_true_iff_forall_mem.mp hF) _ (Array.getElem_mem ha)) i (List.mem_range.mpr hi)
    simpa [Array.getElem?_eq_getElem hi] using q
  obtain ⟨hsets, hown0⟩ := atoms_of _ (rest_1_c_eq ▸ (show rest_1_c.before _ s = true from hrest))
  have hr0 := Cond.before_iff.mp hown0
  obtain ⟨i0, ei0⟩ := is_v hv0
  obtain rfl : w0 = (.int i0) := Option.some.inj ei0
  obtain ⟨i1, ei1⟩ := is_v hv1
  obtain rfl : w1 = (.int i1) := Option.some.inj ei1
  have hx_EMPTY := Cond.before_iff.mp (hsets _ (List.mem_of_getElem? (i := 2) rfl))
  obtain ⟨w_EMPTY, ev_EMPTY⟩ := exa_v hx_EMPTY
  have S_EMPTY : Sta s s.heap "java/util/Optional" "EMPTY" "Ljava/util/Optional;" (.ref w_EMPTY) := Sta.start ev_EMPTY (Or.inl (hsets _ (List.mem_of_getElem? (i := 1) rfl)))
  have E_EMPTY : Exa s s.heap w_EMPTY "java/util/Optional" := Exa.start ev_EMPTY hx_EMPTY
  have F_EMPTY : Fld s s.heap w_EMPTY "java/util/Optional" "value" "Ljava/lang/Object;" .null := Fld.start ((fld_at ev_EMPTY).symm.trans (null_v (Cond.before_iff.mp (hsets _ (List.mem_of_getElem? (i := 3) rfl)))))
  obtain ⟨n, o, h1, h2, h3, _, L, rfl, ⟨rfl, N⟩, hq⟩ := rm0 l s _ hw tables_1 i0 i1 w_EMPTY s.heap s.heap.size (Nat.le_refl _) S_EMPTY E_EMPTY F_EMPTY p e ha hc hk s m _ below hf ((Spec.applies_iff_loose hf).mp happ).1 ⟨rfl, State.Warmed39.refl s, rfl⟩ trivial
  refine ⟨n, _, h1, h2, h3, hpost _ _ _ _ _ _ ⟨Cond.after_iff.mpr rfl, Cond.after_iff.mpr (eq_i res_at (Term.int_eval (1)) rfl), trivial⟩ ⟨hq.1, hq.2.1, (hq.2.2.sift fun y hy => Or.inr (N y hy)).mono (by decide) (by decide)⟩⟩
theorem main_1_1 : Claimed_1_1 := comes_1 fun _ _ _ _ _ _ h hF => ⟨h.1, hF⟩
theorem main_1_2 : Claimed_1_2 := comes_1 fun _ _ _ _ _ _ h hF => ⟨h.2.1, hF⟩
end Jvm.Pilot.@@N@@
namespace Jvm.Pilot.@@N@@
open Jvm Jvm.ClassFile Sem Op Lib Jvm.Free Jvm.Stand Jvm.Pilot.@@N@@.Jvm.D
/-! MADE BY PROGRAM (witnessworld.py) out of the Statement's table words and the real class files: 12 classes; the members and pool entries that the words name. The judged class is class 1, her method 1. -/
namespace start1
open Jvm.ClassFile
def u (s : String) : CpInfo := .utf8 (stringToUtf16 s)
/-- a pool by its gaps: so many unusable entries, then the entry; so many at the end -/
def gap : Nat → List CpInfo → List CpInfo
  | 0, r => r
  | n + 1, r => .unusable :: gap n r
def poolList (es : List (Nat × CpInfo)) (last : Nat) : List CpInfo := es.foldr (fun e r => gap e.1 (e.2 :: r)) (gap last [])
def pool (es : List (Nat × CpInfo)) (last : Nat) : Array CpInfo := ⟨poolList es last⟩
def fileOf (pool : Array CpInfo) (this : Nat) (attrs : Array Attribute := #[]) (ms : Array MethodInfo := #[]) (fl : Nat := 33) (sup : Nat := 0) (ifs : Array Nat := #[]) (fds : Array FieldInfo := #[]) : ClassFile where
  minorVersion := 0
  majorVersion := 65
  constantPool := pool
  accessFlags := fl
  thisClass := this
  superClass := sup
  interfaces := ifs
  fields := fds
  methods := ms
  attributes := attrs
def plain (name : String) (sup : Option ClassId) : Class where
  name := name
  kind := .ordinary
  loader := none
  accessFlags := 33
  super := sup
  interfaces := #[]
  cf := none
  fields := #[]
  methods := #[]
  instanceTypes := #[]
  staticTypes := #[]
  resolved := #[]
  callSites := []
  init := .initialized
  statics := none
  mirror := none

def pool0 : Array CpInfo := pool [(5, u "<init>"), (0, u "()V"), (1, .class_ 10), (1, u "java/lang/Object")] 113

def k0c0 : Code := { maxStack := 0, maxLocals := 1, code := object_method_1_code, exceptionTable := #[], attributes := #[] }
def k0m0 : Method := { name := "<init>", desc := "()V", sig := { parameters := [], returnType := none }, accessFlags := 1, code := some k0c0 }
/-- java/lang/Object -/
def k0 : Class := { plain "java/lang/Object" none with
  accessFlags := 33
  interfaces := #[]
  cf := some (fileOf pool0 8 #[] #[{ accessFlags := 1, nameIndex := 5, descriptorIndex := 6, attributes := #[] }] 33 0 #[] #[])
  fields := #[]
  methods := #[k0m0]
  instanceTypes := #[]
  staticTypes := #[]
  resolved := Array.replicate 124 none
  statics := none }

def pool1 : Array CpInfo := pool [(2, .class_ 4), (1, u "java/lang/Object"), (0, u "<init>"), (0, u "()V"), (0, .integer 2147483647), (0, .methodref 9 10), (0, .class_ 11), (0, .nameAndType 12 13), (0, u "java/lang/Math"), (0, u "max"), (0, u "(II)I"), (0, .class_ 15), (0, u "com/example/reactions_to_maps/reactionstomaps/layout/DistrictPacking$Need"), (0, .methodref 14 17), (0, .nameAndType 5 18), (0, u "(II)V"), (0, .methodref 14 20), (0, .nameAndType 21 22), (0, u "of"), (0, u "(I)Lcom/example/reactions_to_maps/reactionstomaps/layout/DistrictPacking$Need;"), (0, .methodref 14 24), (0, .nameAndType 25 26), (0, u "widened"), (0, u "()Z"), (0, .class_ 28), (0, u "com/example/reactions_to_maps/reactionstomaps/layout/NeedWidenedPinLaw"), (2, u "law"), (0, u "(II)Z")] 7

def k1m0 : Method := { name := "<init>", desc := "()V", sig := { parameters := [], returnType := none }, accessFlags := 2, code := none }
def k1c1 : Code := { maxStack := 4, maxLocals := 7, code := code, exceptionTable := #[], attributes := #[] }
def k1m1 : Method := { name := "law", desc := "(II)Z", sig := { parameters := [.int, .int], returnType := some .boolean }, accessFlags := 9, code := some k1c1 }
/-- com/example/reactions_to_maps/reactionstomaps/layout/NeedWidenedPinLaw -/
def k1 : Class := { plain "com/example/reactions_to_maps/reactionstomaps/layout/NeedWidenedPinLaw" (some 0) with
  accessFlags := 49
  interfaces := #[]
  cf := some (fileOf pool1 27 #[] #[{ accessFlags := 2, nameIndex := 5, descriptorIndex := 6, attributes := #[] }, { accessFlags := 9, nameIndex := 31, descriptorIndex := 32, attributes := #[] }] 49 2 #[] #[])
  fields := #[]
  methods := #[k1m0, k1m1]
  instanceTypes := #[]
  staticTypes := #[]
  resolved := Array.replicate 40 none
  statics := none }

def pool2 : Array CpInfo := pool [(1, .class_ 2), (0, u "java/lang/Math"), (1, .class_ 6), (1, u "java/lang/Object"), (0, u "<init>"), (0, u "()V"), (89, .class_ 100), (1, u "java/lang/Math$RandomNumberGeneratorHolder"), (71, u "negativeZeroFloatBits"), (0, u "J"), (2, u "negativeZeroDoubleBits"), (21, u "max"), (46, u "$assertionsDisabled"), (0, u "Z"), (88, u "(II)I"), (2, u "twoToTheDoubleScaleDown"), (0, u "D"), (4, u "twoToTheDoubleScaleUp"), (9, u "E"), (3, u "PI"), (2, u "TAU"), (2, u "DEGREES_TO_RADIANS"), (0, u "RADIANS_TO_DEGREES")] 94

def k2m0 : Method := { name := "<init>", desc := "()V", sig := { parameters := [], returnType := none }, accessFlags := 2, code := none }
def k2c1 : Code := { maxStack := 2, maxLocals := 2, code := jdk_29_method_65_code, exceptionTable := #[], attributes := #[] }
def k2m1 : Method := { name := "max", desc := "(II)I", sig := { parameters := [.int, .int], returnType := some .int }, accessFlags := 9, code := some k2c1 }
/-- java/lang/Math -/
def k2 : Class := { plain "java/lang/Math" (some 0) with
  accessFlags := 49
  interfaces := #[]
  cf := some (fileOf pool2 1 #[.nestMembers #[98]] #[{ accessFlags := 2, nameIndex := 7, descriptorIndex := 8, attributes := #[] }, { accessFlags := 9, nameIndex := 198, descriptorIndex := 335, attributes := #[] }] 49 4 #[] #[{ accessFlags := 25, nameIndex := 354, descriptorIndex := 339, attributes := #[] }, { accessFlags := 25, nameIndex := 358, descriptorIndex := 339, attributes := #[] }, { accessFlags := 25, nameIndex := 361, descriptorIndex := 339, attributes := #[] }, { accessFlags := 26, nameIndex := 364, descriptorIndex := 339, attributes := #[] }, { accessFlags := 26, nameIndex := 365, descriptorIndex := 339, attributes := #[] }, { accessFlags := 26, nameIndex := 172, descriptorIndex := 173, attributes := #[] }, { accessFlags := 26, nameIndex := 176, descriptorIndex := 173, attributes := #[] }, { accessFlags := 8, nameIndex := 344, descriptorIndex := 339, attributes := #[] }, { accessFlags := 8, nameIndex := 338, descriptorIndex := 339, attributes := #[] }, { accessFlags := 4120, nameIndex := 245, descriptorIndex := 246, attributes := #[] }])
  fields := #[{ name := "E", type := .double, accessFlags := 25, slot := 0, constantValue := 0 }, { name := "PI", type := .double, accessFlags := 25, slot := 1, constantValue := 0 }, { name := "TAU", type := .double, accessFlags := 25, slot := 2, constantValue := 0 }, { name := "DEGREES_TO_RADIANS", type := .double, accessFlags := 26, slot := 3, constantValue := 0 }, { name := "RADIANS_TO_DEGREES", type := .double, accessFlags := 26, slot := 4, constantValue := 0 }, { name := "negativeZeroFloatBits", type := .long, accessFlags := 26, slot := 5, constantValue := 0 }, { name := "negativeZeroDoubleBits", type := .long, accessFlags := 26, slot := 6, constantValue := 0 }, { name := "twoToTheDoubleScaleUp", type := .double, accessFlags := 8, slot := 7, constantValue := 0 }, { name := "twoToTheDoubleScaleDown", type := .double, accessFlags := 8, slot := 8, constantValue := 0 }, { name := "$assertionsDisabled", type := .boolean, accessFlags := 4120, slot := 9, constantValue := 0 }]
  methods := #[k2m0, k2m1]
  instanceTypes := #[]
  staticTypes := #[.double, .double, .double, .double, .double, .long, .long, .double, .double, .boolean]
  resolved := Array.replicate 460 none
  statics := none }

def pool3 : Array CpInfo := pool [(1, .methodref 2 3), (0, .class_ 4), (0, .nameAndType 5 6), (0, u "java/lang/Object"), (0, u "<init>"), (0, u "()V"), (0, .class_ 8), (0, u "java/lang/Record")] 13

def k3c0 : Code := { maxStack := 1, maxLocals := 1, code := jdk_30_method_1_code, exceptionTable := #[], attributes := #[] }
def k3m0 : Method := { name := "<init>", desc := "()V", sig := { parameters := [], returnType := none }, accessFlags := 4, code := some k3c0 }
/-- java/lang/Record -/
def k3 : Class := { plain "java/lang/Record" (some 0) with
  accessFlags := 1057
  interfaces := #[]
  cf := some (fileOf pool3 7 #[] #[{ accessFlags := 4, nameIndex := 5, descriptorIndex := 6, attributes := #[] }] 1057 2 #[] #[])
  fields := #[]
  methods := #[k3m0]
  instanceTypes := #[]
  staticTypes := #[]
  resolved := Array.replicate 22 none
  statics := none }

def pool4 : Array CpInfo := pool [(1, .methodref 2 3), (0, .class_ 4), (0, .nameAndType 5 6), (0, u "java/lang/Record"), (0, u "<init>"), (0, u "()V"), (0, .methodref 8 9), (0, .class_ 10), (0, .nameAndType 11 12), (0, u "java/util/Optional"), (0, u "isPresent"), (0, u "()Z"), (8, u "columns"), (13, .fieldref 36 37), (0, .class_ 38), (0, .nameAndType 39 40), (0, u "com/example/reactions_to_maps/reactionstomaps/layout/DistrictPacking$Need"), (0, u "cells"), (0, u "I"), (0, .fieldref 36 42), (0, .nameAndType 21 40), (0, .fieldref 36 44), (0, .nameAndType 45 46), (0, u "room"), (0, u "Ljava/util/Optional;"), (0, .methodref 8 48), (0, .nameAndType 49 50), (0, u "empty"), (0, u "()Ljava/util/Optional;"), (0, .methodref 36 52), (0, .nameAndType 5 53), (0, u "(IILjava/util/Optional;)V"), (2, u "of"), (1, .methodref 36 59), (0, .nameAndType 5 60), (0, u "(II)V"), (20, u "(I)Lcom/example/reactions_to_maps/reactionstomaps/layout/DistrictPacking$Need;"), (0, u "widened"), (6, .class_ 90), (0, u "com/example/reactions_to_maps/reactionstomaps/layout/DistrictPacking")] 29

def k4c0 : Code := { maxStack := 4, maxLocals := 5, code := prog_49_method_1_code, exceptionTable := #[], attributes := #[] }
def k4m0 : Method := { name := "<init>", desc := "(IILjava/util/Optional;)V", sig := { parameters := [.int, .int, (.object "java/util/Optional")], returnType := none }, accessFlags := 0, code := some k4c0 }
def k4c1 : Code := { maxStack := 4, maxLocals := 3, code := prog_49_method_2_code, exceptionTable := #[], attributes := #[] }
def k4m1 : Method := { name := "<init>", desc := "(II)V", sig := { parameters := [.int, .int], returnType := none }, accessFlags := 0, code := some k4c1 }
def k4c2 : Code := { maxStack := 4, maxLocals := 1, code := prog_49_method_4_code, exceptionTable := #[], attributes := #[] }
def k4m2 : Method := { name := "of", desc := "(I)Lcom/example/reactions_to_maps/reactionstomaps/layout/DistrictPacking$Need;", sig := { parameters := [.int], returnType := some (.object "com/example/reactions_to_maps/reactionstomaps/layout/DistrictPacking$Need") }, accessFlags := 8, code := some k4c2 }
def k4c3 : Code := { maxStack := 2, maxLocals := 1, code := prog_49_method_5_code, exceptionTable := #[], attributes := #[] }
def k4m3 : Method := { name := "widened", desc := "()Z", sig := { parameters := [], returnType := some .boolean }, accessFlags := 0, code := some k4c3 }
/-- com/example/reactions_to_maps/reactionstomaps/layout/DistrictPacking$Need -/
def k4 : Class := { plain "com/example/reactions_to_maps/reactionstomaps/layout/DistrictPacking$Need" (some 3) with
  accessFlags := 48
  interfaces := #[]
  cf := some (fileOf pool4 36 #[.nestHost 89] #[{ accessFlags := 0, nameIndex := 5, descriptorIndex := 53, attributes := #[] }, { accessFlags := 0, nameIndex := 5, descriptorIndex := 60, attributes := #[] }, { accessFlags := 8, nameIndex := 56, descriptorIndex := 81, attributes := #[] }, { accessFlags := 0, nameIndex := 82, descriptorIndex := 12, attributes := #[] }] 48 2 #[] #[{ accessFlags := 18, nameIndex := 39, descriptorIndex := 40, attributes := #[] }, { accessFlags := 18, nameIndex := 21, descriptorIndex := 40, attributes := #[] }, { accessFlags := 18, nameIndex := 45, descriptorIndex := 46, attributes := #[] }])
  fields := #[{ name := "cells", type := .int, accessFlags := 18, slot := 0, constantValue := 0 }, { name := "columns", type := .int, accessFlags := 18, slot := 1, constantValue := 0 }, { name := "room", type := (.object "java/util/Optional"), accessFlags := 18, slot := 2, constantValue := 0 }]
  methods := #[k4m0, k4m1, k4m2, k4m3]
  instanceTypes := #[.int, .int, (.object "java/util/Optional")]
  staticTypes := #[]
  resolved := Array.replicate 120 none
  statics := none }

def pool5 : Array CpInfo := pool [(1, .fieldref 2 3), (0, .class_ 4), (0, .nameAndType 5 6), (0, u "java/util/Optional"), (0, u "EMPTY"), (0, u "Ljava/util/Optional;"), (1, .class_ 10), (1, u "java/lang/Object"), (2, .fieldref 2 14), (0, .nameAndType 15 16), (0, u "value"), (0, u "Ljava/lang/Object;"), (29, u "()Z"), (8, u "empty"), (0, u "()Ljava/util/Optional;"), (11, u "isPresent")] 118

def k5c0 : Code := { maxStack := 1, maxLocals := 1, code := jdk_32_method_1_code, exceptionTable := #[], attributes := #[] }
def k5m0 : Method := { name := "empty", desc := "()Ljava/util/Optional;", sig := { parameters := [], returnType := some (.object "java/util/Optional") }, accessFlags := 9, code := some k5c0 }
def k5c1 : Code := { maxStack := 1, maxLocals := 1, code := jdk_32_method_6_code, exceptionTable := #[], attributes := #[] }
def k5m1 : Method := { name := "isPresent", desc := "()Z", sig := { parameters := [], returnType := some .boolean }, accessFlags := 1, code := some k5c1 }
/-- java/util/Optional -/
def k5 : Class := { plain "java/util/Optional" (some 0) with
  accessFlags := 49
  interfaces := #[]
  cf := some (fileOf pool5 2 #[] #[{ accessFlags := 9, nameIndex := 55, descriptorIndex := 56, attributes := #[] }, { accessFlags := 1, nameIndex := 68, descriptorIndex := 46, attributes := #[] }] 49 8 #[] #[{ accessFlags := 26, nameIndex := 5, descriptorIndex := 6, attributes := #[] }, { accessFlags := 18, nameIndex := 15, descriptorIndex := 16, attributes := #[] }])
  fields := #[{ name := "EMPTY", type := (.object "java/util/Optional"), accessFlags := 26, slot := 0, constantValue := 0 }, { name := "value", type := (.object "java/lang/Object"), accessFlags := 18, slot := 0, constantValue := 0 }]
  methods := #[k5m0, k5m1]
  instanceTypes := #[(.object "java/lang/Object")]
  staticTypes := #[(.object "java/util/Optional")]
  resolved := Array.replicate 187 none
  statics := some 0 }

def pool6 : Array CpInfo := pool [(1, u "java/lang/Cloneable"), (0, .class_ 1), (0, u "java/lang/Object"), (0, .class_ 3)] 3

/-- java/lang/Cloneable -/
def k6 : Class := { plain "java/lang/Cloneable" (some 0) with
  accessFlags := 1537
  interfaces := #[]
  cf := some (fileOf pool6 2 #[] #[] 1537 4 #[] #[])
  fields := #[]
  methods := #[]
  instanceTypes := #[]
  staticTypes := #[]
  resolved := Array.replicate 8 none
  statics := none }

def pool7 : Array CpInfo := pool [(1, u "java/io/Serializable"), (0, .class_ 1), (0, u "java/lang/Object"), (0, .class_ 3)] 3

/-- java/io/Serializable -/
def k7 : Class := { plain "java/io/Serializable" (some 0) with
  accessFlags := 1537
  interfaces := #[]
  cf := some (fileOf pool7 2 #[] #[] 1537 4 #[] #[])
  fields := #[]
  methods := #[]
  instanceTypes := #[]
  staticTypes := #[]
  resolved := Array.replicate 8 none
  statics := none }

/-- the primitive byte -/
def k8 : Class := { plain "byte" none with kind := .primitive 'B', accessFlags := 0x411 }
/-- [B -/
def k9 : Class := { plain "[B" (some 0) with kind := .array 8 .byte, interfaces := #[6, 7], accessFlags := 1041 }

/-- the primitive int -/
def k10 : Class := { plain "int" none with kind := .primitive 'I', accessFlags := 0x411 }
/-- [I -/
def k11 : Class := { plain "[I" (some 0) with kind := .array 10 .int, interfaces := #[6, 7], accessFlags := 1041 }

def heap : Heap := #[{ cls := 5, slots := #[.ref 1], vm := .statics 5 },
  { cls := 5, slots := #[.null], vm := .none }]
def classes : Array Class := #[k0, k1, k2, k3, k4, k5, k6, k7, k8, k9, k10, k11]
def interned : List (Array UInt16 × Addr) := []
def slotsUsed : Nat := 2
def theMethod : MethodId := ⟨1, 1⟩
def args0 : Array Value := #[.int 5, .int 3]
def aboutOver (below : List Frame) : State where
  vm := { classes := classes, interned := interned.toArray }
  heap := heap
  slotsUsed := slotsUsed
  threads := #[{ frames := .invoking theMethod args0 :: below }]
def below0 : List Frame := [.native { method := ⟨0, 0⟩, args := #[] }]
def about1 : State := aboutOver below0
def p0 : Program := .bare "" "" ""
def e0 : Env := launch0.env 0 0 0
theorem w_frames : about1.frames = Frame.invoking theMethod args0 :: below0 := rfl
set_option maxRecDepth 65536 in
theorem w_args : argsFit about1.vm theMethod args0 = true := by decide +kernel
set_option maxRecDepth 65536 in
theorem w_heap : heapFits about1 = true := by decide +kernel
set_option maxRecDepth 65536 in
theorem w_runnable : about1.curStatus? = some .runnable := by decide +kernel
set_option maxRecDepth 65536 in
theorem w_alone : about1.alone = true := by decide +kernel
set_option maxRecDepth 65536 in
theorem w_named : about1.methodNamed? x = some theMethod := by decide +kernel
set_option maxRecDepth 65536 in
theorem w_hears : about1.hears theMethod below0 = true := by decide +kernel
set_option maxRecDepth 65536 in
theorem w_ripe : about1.ripe theMethod args0 below0 = true := by decide +kernel
theorem w_running : about1.status = .running := rfl
set_option maxRecDepth 65536 in
theorem w_room : about1.hasRoom e0.platform room_1 = true :=
  launch0.hasRoom_least _ room_1 (by decide +kernel) (by decide +kernel) (by decide +kernel) (by decide +kernel) (by decide +kernel) (by decide +kernel)
theorem allAtoms_all (ts : List Jvm.Cond) (a : Array Jvm.Value) (st : Jvm.State) : (allAtoms ts).before a st = ts.all (fun c => c.before a st) := by
  induction ts with
  | nil => rfl
  | cons c t ih =>
    show (Jvm.Cond.and c (allAtoms t)).before a st = _
    rw [Jvm.Cond.before_and, ih, List.all_cons]
def words1 : List Jvm.Cond := Jvm.Cond.code x code maxLocals ret :: tables_1
/-- a 'code' word, met by the world's own term for the bytes: nothing is compared byte by byte -/
theorem code_word {y : MethodName} {bytes : ByteArray} {mx : Nat} {rt : Option FieldType} {a : Array Value} {s : State} {m : MethodId} {meth : Method} {c : Code} (h1 : s.methodNamed? y = some m) (h2 : s.vm.method? m = some meth) (h3 : meth.code = some c) (h4 : c.code = bytes)
    (h5 : (c.maxLocals == mx && c.exceptionTable.isEmpty && decide (c.maxStack ≤ mostOperands) && decide (meth.sig.returnType = rt) && !meth.locks && decide (parseMethodDescriptor y.desc = some meth.sig)) = true) : (Jvm.Cond.code y bytes mx rt).before a s = true := by
  simp only [Bool.and_eq_true, beq_iff_eq, Bool.not_eq_true', decide_eq_true_eq] at h5
  obtain ⟨⟨⟨⟨⟨g1, g2⟩, g3⟩, g4⟩, g5⟩, g6⟩ := h5
  simp [Cond.before, Cond.holds, Cond.value, h1, h2, h3, h4, g1, g2, g3, g4, g5, g6]
def isCode : Jvm.Cond → Bool
  | .code _ _ _ _ => true
  | _ => false
theorem all_split {L : List Jvm.Cond} {P : Jvm.Cond → Bool} (h1 : L.all (fun c => isCode c || P c) = true) (h2 : ∀ c ∈ L.filter isCode, P c = true) : L.all P = true := by
  refine List.all_eq_true.mpr fun c hc => ?_
  have h := List.all_eq_true.mp h1 c hc
  rcases Bool.eq_false_or_eq_true (isCode c) with hi | hi
  · exact h2 c (List.mem_filter.mpr ⟨hc, hi⟩)
  · simpa [hi] using h
set_option maxRecDepth 65536 in
theorem w_c0 : (Jvm.Cond.code x code maxLocals ret).before args0 about1 = true := code_word (m := ⟨1, 1⟩) (meth := k1m1) (c := k1c1) (by decide +kernel) rfl rfl rfl (by decide +kernel)
set_option maxRecDepth 65536 in
theorem w_c1 : (Jvm.Cond.code ({ cls := "java/lang/Math", name := "max", desc := "(II)I" } : Jvm.MethodName) jdk_29_method_65_code (2 : Nat) (Option.some Jvm.ClassFile.FieldType.int)).before args0 about1 = true := code_word (m := ⟨2, 1⟩) (meth := k2m1) (c := k2c1) (by decide +kernel) rfl rfl rfl (by decide +kernel)
set_option maxRecDepth 65536 in
theorem w_c2 : (Jvm.Cond.code ({ cls := "com/example/reactions_to_maps/reactionstomaps/layout/DistrictPacking$Need", name := "<init>", desc := "(II)V" } : Jvm.MethodName) prog_49_method_2_code (3 : Nat) (Option.none : Option Jvm.ClassFile.FieldType)).before args0 about1 = true := code_word (m := ⟨4, 1⟩) (meth := k4m1) (c := k4c1) (by decide +kernel) rfl rfl rfl (by decide +kernel)
set_option maxRecDepth 65536 in
theorem w_c3 : (Jvm.Cond.code ({ cls := "java/util/Optional", name := "empty", desc := "()Ljava/util/Optional;" } : Jvm.MethodName) jdk_32_method_1_code (1 : Nat) (Option.some (Jvm.ClassFile.FieldType.object "java/util/Optional"))).before args0 about1 = true := code_word (m := ⟨5, 0⟩) (meth := k5m0) (c := k5c0) (by decide +kernel) rfl rfl rfl (by decide +kernel)
set_option maxRecDepth 65536 in
theorem w_c4 : (Jvm.Cond.code ({ cls := "com/example/reactions_to_maps/reactionstomaps/layout/DistrictPacking$Need", name := "<init>", desc := "(IILjava/util/Optional;)V" } : Jvm.MethodName) prog_49_method_1_code (5 : Nat) (Option.none : Option Jvm.ClassFile.FieldType)).before args0 about1 = true := code_word (m := ⟨4, 0⟩) (meth := k4m0) (c := k4c0) (by decide +kernel) rfl rfl rfl (by decide +kernel)
set_option maxRecDepth 65536 in
theorem w_c5 : (Jvm.Cond.code ({ cls := "java/lang/Record", name := "<init>", desc := "()V" } : Jvm.MethodName) jdk_30_method_1_code (1 : Nat) (Option.none : Option Jvm.ClassFile.FieldType)).before args0 about1 = true := code_word (m := ⟨3, 0⟩) (meth := k3m0) (c := k3c0) (by decide +kernel) rfl rfl rfl (by decide +kernel)
set_option maxRecDepth 65536 in
theorem w_c6 : (Jvm.Cond.code ({ cls := "java/lang/Object", name := "<init>", desc := "()V" } : Jvm.MethodName) object_method_1_code (1 : Nat) (Option.none : Option Jvm.ClassFile.FieldType)).before args0 about1 = true := code_word (m := ⟨0, 0⟩) (meth := k0m0) (c := k0c0) (by decide +kernel) rfl rfl rfl (by decide +kernel)
set_option maxRecDepth 65536 in
theorem w_c7 : (Jvm.Cond.code ({ cls := "java/util/Optional", name := "isPresent", desc := "()Z" } : Jvm.MethodName) jdk_32_method_6_code (1 : Nat) (Option.some Jvm.ClassFile.FieldType.boolean)).before args0 about1 = true := code_word (m := ⟨5, 1⟩) (meth := k5m1) (c := k5c1) (by decide +kernel) rfl rfl rfl (by decide +kernel)
set_option maxRecDepth 65536 in
theorem w_c8 : (Jvm.Cond.code ({ cls := "com/example/reactions_to_maps/reactionstomaps/layout/DistrictPacking$Need", name := "of", desc := "(I)Lcom/example/reactions_to_maps/reactionstomaps/layout/DistrictPacking$Need;" } : Jvm.MethodName) prog_49_method_4_code (1 : Nat) (Option.some (Jvm.ClassFile.FieldType.object "com/example/reactions_to_maps/reactionstomaps/layout/DistrictPacking$Need"))).before args0 about1 = true := code_word (m := ⟨4, 2⟩) (meth := k4m2) (c := k4c2) (by decide +kernel) rfl rfl rfl (by decide +kernel)
set_option maxRecDepth 65536 in
theorem w_c9 : (Jvm.Cond.code ({ cls := "com/example/reactions_to_maps/reactionstomaps/layout/DistrictPacking$Need", name := "widened", desc := "()Z" } : Jvm.MethodName) prog_49_method_5_code (1 : Nat) (Option.some Jvm.ClassFile.FieldType.boolean)).before args0 about1 = true := code_word (m := ⟨4, 3⟩) (meth := k4m3) (c := k4c3) (by decide +kernel) rfl rfl rfl (by decide +kernel)
def codes1 : List Jvm.Cond := [Jvm.Cond.code x code maxLocals ret, Jvm.Cond.code ({ cls := "java/lang/Math", name := "max", desc := "(II)I" } : Jvm.MethodName) jdk_29_method_65_code (2 : Nat) (Option.some Jvm.ClassFile.FieldType.int), Jvm.Cond.code ({ cls := "com/example/reactions_to_maps/reactionstomaps/layout/DistrictPacking$Need", name := "<init>", desc := "(II)V" } : Jvm.MethodName) prog_49_method_2_code (3 : Nat) (Option.none : Option Jvm.ClassFile.FieldType), Jvm.Cond.code ({ cls := "java/util/Optional", name := "empty", desc := "()Ljava/util/Optional;" } : Jvm.MethodName) jdk_32_method_1_code (1 : Nat) (Option.some (Jvm.ClassFile.FieldType.object "java/util/Optional")), Jvm.Cond.code ({ cls := "com/example/reactions_to_maps/reactionstomaps/layout/DistrictPacking$Need", name := "<init>", desc := "(IILjava/util/Optional;)V" } : Jvm.MethodName) prog_49_method_1_code (5 : Nat) (Option.none : Option Jvm.ClassFile.FieldType), Jvm.Cond.code ({ cls := "java/lang/Record", name := "<init>", desc := "()V" } : Jvm.MethodName) jdk_30_method_1_code (1 : Nat) (Option.none : Option Jvm.ClassFile.FieldType), Jvm.Cond.code ({ cls := "java/lang/Object", name := "<init>", desc := "()V" } : Jvm.MethodName) object_method_1_code (1 : Nat) (Option.none : Option Jvm.ClassFile.FieldType), Jvm.Cond.code ({ cls := "java/util/Optional", name := "isPresent", desc := "()Z" } : Jvm.MethodName) jdk_32_method_6_code (1 : Nat) (Option.some Jvm.ClassFile.FieldType.boolean), Jvm.Cond.code ({ cls := "com/example/reactions_to_maps/reactionstomaps/layout/DistrictPacking$Need", name := "of", desc := "(I)Lcom/example/reactions_to_maps/reactionstomaps/layout/DistrictPacking$Need;" } : Jvm.MethodName) prog_49_method_4_code (1 : Nat) (Option.some (Jvm.ClassFile.FieldType.object "com/example/reactions_to_maps/reactionstomaps/layout/DistrictPacking$Need")), Jvm.Cond.code ({ cls := "com/example/reactions_to_maps/reactionstomaps/layout/DistrictPacking$Need", name := "widened", desc := "()Z" } : Jvm.MethodName) prog_49_method_5_code (1 : Nat) (Option.some Jvm.ClassFile.FieldType.boolean)]
set_option maxRecDepth 65536 in
theorem codes_eq : words1.filter isCode = codes1 := rfl
theorem w_codes : ∀ c ∈ words1.filter isCode, c.before args0 about1 = true := by
  rw [codes_eq]
  intro c hc
  simp only [codes1, List.mem_cons, List.not_mem_nil, or_false] at hc
  rcases hc with rfl | rfl | rfl | rfl | rfl | rfl | rfl | rfl | rfl | rfl
  · exact w_c0
  · exact w_c1
  · exact w_c2
  · exact w_c3
  · exact w_c4
  · exact w_c5
  · exact w_c6
  · exact w_c7
  · exact w_c8
  · exact w_c9
set_option maxRecDepth 65536 in
theorem w_t1 : (words1.take 24).all (fun c => isCode c || c.before args0 about1) = true := by decide +kernel
set_option maxRecDepth 65536 in
theorem w_t2 : ((words1.drop 24).take 24).all (fun c => isCode c || c.before args0 about1) = true := by decide +kernel
set_option maxRecDepth 65536 in
theorem w_t3 : ((words1.drop 24).drop 24).all (fun c => isCode c || c.before args0 about1) = true := by decide +kernel
theorem w_tables : (allAtoms (Jvm.Cond.code x code maxLocals ret :: tables_1)).before args0 about1 = true := by
  rw [allAtoms_all]
  show words1.all (fun c => c.before args0 about1) = true
  refine all_split ?_ w_codes
  rw [← List.take_append_drop 24 words1, List.all_append, w_t1, ← List.take_append_drop 24 (words1.drop 24), List.all_append, w_t2, w_t3]
  rfl
set_option maxRecDepth 65536 in
theorem w_rest : rest_1_c.before args0 about1 = true := by decide +kernel
set_option maxRecDepth 65536 in
theorem w_case : (Jvm.Cond.and given_1 narrow_1).before args0 about1 = true := by decide +kernel
theorem w_applies : (headSpec (Jvm.Cond.code x code maxLocals ret :: tables_1) room_1).applies x e0.platform about1 = true :=
  (Spec.applies_iff w_frames).mpr ⟨w_running, w_runnable, w_alone, w_named, w_hears, w_ripe, w_room, w_tables⟩
theorem atStart : AtStart classFile x code maxLocals ret World_1 tables_1 room_1 Calls_1 rest_1 Pre_1 launch0 p0 e0 about1 theMethod args0 below0 :=
  ⟨lists_1, trivial, launch0.admits_env _ _ _, launch0.least_env, fairChoices_fair.cas, fairChoices_fair.clock, w_frames, w_args, w_heap, w_applies, trivial, w_rest, w_case⟩
end start1
theorem witness_1 : WitnessClaimed_1 := ⟨start1.p0, start1.e0, start1.about1, start1.theMethod, start1.args0, start1.below0, start1.atStart⟩
end Jvm.Pilot.@@N@@
