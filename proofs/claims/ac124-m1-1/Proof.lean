import JvmDerived
import JvmDerived.Pilot.@@N@@Statement
import JvmDerived.Pilot.@@N@@Code
set_option linter.unusedVariables false
set_option linter.unusedSimpArgs false
namespace Jvm.RoadKit
open Sem ClassFile Op Lib Jvm.Stand Jvm.Free Jvm.LawKit
section New
variable {p : Program} {l : Launch} {e : Env} {R : Room} {s : State} {m : MethodId} {args : Array Value} {below : List Frame} {meth : Method} {c : Code} {T : State} {locs : List Loc} {cells slots : Nat}
theorem own_retV (X : Stand p l e R s m args below meth c T locs cells slots) (hx : p.tables.exec = Jvm.exec) {pc : Nat} {Ls : Array Slot} {w : Value} {rest : List Value} {t : FieldType} (hret : meth.sig.returnType = some t) (ht : t.isReference = true) (hw : w.isRef = true)
    (hd : decode c.code pc = .ok (.areturn, 1)) {fs : List Frame} (hl : ∀ (f : JFrame) (acts : List Action), f.method = m → f.locked = none → f.entered = [] → (doReturn e (T.setTop f) acts (some w)).1 = T.setFrames fs) :
    Steps p.tables e below (T.setTop (mkF m pc Ls (w :: rest))) (T.setFrames fs) :=
  retOut X hx hret (by cases t <;> first | rfl | cases ht) (Or.inr (Or.inr (Or.inr (Or.inr ⟨rfl, ht, hw⟩)))) hd hl
theorem own_retI (X : Stand p l e R s m args below meth c T locs cells slots) (hx : p.tables.exec = Jvm.exec) {pc : Nat} {Ls : Array Slot} {z : Int32} {rest : List Value} (hret : meth.sig.returnType = some .int)
    (hd : decode c.code pc = .ok (.ireturn, 1)) {fs : List Frame} (hl : ∀ (f : JFrame) (acts : List Action), f.method = m → f.locked = none → f.entered = [] → (doReturn e (T.setTop f) acts (some (.int z))).1 = T.setFrames fs) :
    Steps p.tables e below (T.setTop (mkF m pc Ls (.int z :: rest))) (T.setFrames fs) :=
  retOut X hx hret rfl (Or.inl ⟨rfl, Or.inl rfl, z, rfl⟩) hd hl
theorem own_retL (X : Stand p l e R s m args below meth c T locs cells slots) (hx : p.tables.exec = Jvm.exec) {pc : Nat} {Ls : Array Slot} {z : Int64} {rest : List Value} (hret : meth.sig.returnType = some .long)
    (hd : decode c.code pc = .ok (.lreturn, 1)) {fs : List Frame} (hl : ∀ (f : JFrame) (acts : List Action), f.method = m → f.locked = none → f.entered = [] → (doReturn e (T.setTop f) acts (some (.long z))).1 = T.setFrames fs) :
    Steps p.tables e below (T.setTop (mkF m pc Ls (.long z :: rest))) (T.setFrames fs) :=
  retOut X hx hret rfl (Or.inr (Or.inl ⟨rfl, rfl, z, rfl⟩)) hd hl
theorem own_go {tb : Tables} {e : Env} {below : List Frame} {A A' : State} {P : State → Outcome → Prop} (st : ∀ t, Steps tb e below A' t → Steps tb e below A t) (h : ∃ s₂ o, Steps tb e below A' s₂ ∧ P s₂ o) : ∃ s₂ o, Steps tb e below A s₂ ∧ P s₂ o :=
  let ⟨s₂, o, h1, h2⟩ := h
  ⟨s₂, o, st _ h1, h2⟩
theorem own_fld_inj {Z : State} {h : Heap} {a : Addr} {C n d : String} {v w : Value} (F : Fld Z h a C n d v) (G : Fld Z h a C n d w) : v = w := by
  obtain ⟨c1, cf1, k1, i1, f1, p1, p2, -, -, -, -, p5⟩ := F
  obtain ⟨c2, cf2, k2, i2, f2, q1, q2, -, -, -, -, q5⟩ := G
  rw [p1] at q1; cases q1
  rw [p2] at q2; cases q2
  have := p5.symm.trans q5
  simpa using this
theorem own_fld_ne {Z : State} {h : Heap} {a b : Addr} {C n d : String} {i j : Int32} (F : Fld Z h a C n d (.int i)) (G : Fld Z h b C n d (.int j)) (hij : ¬ i = j) : ¬ a = b := fun q => by
  subst q
  exact hij (Value.int.inj (own_fld_inj F G))
theorem own_keep_ext {h h' : Heap} (K : Keep h h' []) : Ext h h' := ⟨K.1, fun a c q => K.2.1 a c q nin0⟩
theorem own_sta_keep {Z : State} {h h' : Heap} {C n d K : String} {v : Value} {a : Addr} (F : Sta Z h C n d v) (k : Keep h h' [a]) (E : Exa Z h a K) : Sta Z h' C n d v := by
  obtain ⟨cf, i, kk, f, st, cell, h1, h2, h3, h4, h5, h6, h7⟩ := F
  refine ⟨cf, i, kk, f, st, cell, h1, h2, h3, h4, k.2.1 _ _ h5 (ninS (fun q => ?_) nin0), h6, h7⟩
  obtain ⟨cell', k', g1, -, -, g4, -⟩ := E
  subst q
  cases h5.symm.trans g1
  rw [h6] at g4; cases g4
theorem own_ext_trans {h h' h'' : Heap} (E : Ext h h') (F : Ext h' h'') : Ext h h'' := ⟨Nat.le_trans E.1 F.1, fun a c q => F.2 a c (E.2 a c q)⟩
theorem own_ext_keep {h h' h'' : Heap} {ws : List Addr} (E : Ext h h') (K : Keep h' h'' ws) (q : ∀ x ∈ ws, h.size ≤ x) : Ext h h'' :=
  ⟨Nat.le_trans E.1 K.1, fun a c r => K.2.1 a c (E.2 a c r) fun z => absurd (Array.getElem?_eq_some_iff.mp r).1 (Nat.not_lt.mpr (q a z))⟩
theorem own_ext_wr {h h' h'' : Heap} {b : Addr} {sl : Nat} {v : Value} (E : Ext h h') (W : Wr h' h'' b sl v) (q : h.size ≤ b) : Ext h h'' :=
  own_ext_keep E (Keep.of_wr W) fun x hx => by cases List.mem_singleton.mp hx; exact q
end New
end Jvm.RoadKit
namespace Jvm.Pilot.@@N@@
open Jvm Jvm.ClassFile Sem Op Lib Jvm.Free Jvm.Stand Jvm.LawKit Jvm.RoadKit Bundle Jvm.Pilot.@@N@@.Jvm.D
def pk (w_LEFT w_RIGHT w_TOP w_BOTTOM : Addr) (k : Int32) : Addr := if k = (0 : Int32) then w_LEFT else if k = (1 : Int32) then w_RIGHT else if k = (2 : Int32) then w_TOP else w_BOTTOM
def isF (v0 v1 a : Addr) : Int32 := if a = v0 then 1 else if a = v1 then 1 else 0
def exF (k : Int32) : Int32 := if k = (0 : Int32) then 1 else if k = (1 : Int32) then 1 else 0
theorem pk_exa {Z : State} {h : Heap} {C : String} {w_LEFT w_RIGHT w_TOP w_BOTTOM : Addr} (k : Int32) (e0 : Exa Z h w_LEFT C) (e1 : Exa Z h w_RIGHT C) (e2 : Exa Z h w_TOP C) (e3 : Exa Z h w_BOTTOM C) : Exa Z h (pk w_LEFT w_RIGHT w_TOP w_BOTTOM k) C := by
  unfold pk
  repeat' split
  all_goals assumption
theorem own_key {w_LEFT w_RIGHT w_TOP w_BOTTOM : Addr} (n0_1 : ¬ w_LEFT = w_RIGHT) (n1_0 : ¬ w_RIGHT = w_LEFT) (n2_0 : ¬ w_TOP = w_LEFT) (n2_1 : ¬ w_TOP = w_RIGHT) (n3_0 : ¬ w_BOTTOM = w_LEFT) (n3_1 : ¬ w_BOTTOM = w_RIGHT) (k : Int32) : isF w_LEFT w_RIGHT (pk w_LEFT w_RIGHT w_TOP w_BOTTOM k) = exF k := by
  unfold pk exF
  repeat' split
  all_goals simp_all [isF]
theorem d1_0 : decode method_2_code 0 = .ok (.iload_n 0, 1) := by decide +kernel
theorem d1_1 : decode method_2_code 1 = .ok (.ifCond .ne 7, 3) := by decide +kernel
theorem d1_4 : decode method_2_code 4 = .ok (.getstatic 7, 3) := by decide +kernel
theorem d1_7 : decode method_2_code 7 = .ok (.areturn, 1) := by decide +kernel
theorem d1_8 : decode method_2_code 8 = .ok (.iload_n 0, 1) := by decide +kernel
theorem d1_9 : decode method_2_code 9 = .ok (.iconst 1, 1) := by decide +kernel
theorem d1_10 : decode method_2_code 10 = .ok (.if_icmp .ne 7, 3) := by decide +kernel
theorem d1_13 : decode method_2_code 13 = .ok (.getstatic 13, 3) := by decide +kernel
theorem d1_16 : decode method_2_code 16 = .ok (.areturn, 1) := by decide +kernel
theorem d1_17 : decode method_2_code 17 = .ok (.iload_n 0, 1) := by decide +kernel
theorem d1_18 : decode method_2_code 18 = .ok (.iconst 2, 1) := by decide +kernel
theorem d1_19 : decode method_2_code 19 = .ok (.if_icmp .ne 7, 3) := by decide +kernel
theorem d1_22 : decode method_2_code 22 = .ok (.getstatic 16, 3) := by decide +kernel
theorem d1_25 : decode method_2_code 25 = .ok (.areturn, 1) := by decide +kernel
theorem d1_26 : decode method_2_code 26 = .ok (.getstatic 19, 3) := by decide +kernel
theorem d1_29 : decode method_2_code 29 = .ok (.areturn, 1) := by decide +kernel
theorem pn_1 : plainName "com/example/reactions_to_maps/reactionstomaps/layout/SideUpAndDownPinLaw" = true := by first | (simp [plainName, overriddenIn]; done) | decide +kernel
theorem ef_1 (m : MethodId) (p0 : Int32) : entryFrame m #[(.int p0)] 1 = mkF m 0 #[.val (.int p0)] [] := by first | (simp [entryFrame, mkF, argsToLocals, Value.category]; done) | rfl
def Q1 (Z : State) (p0 : Int32) (w_LEFT : Addr) (w_BOTTOM : Addr) (w_RIGHT : Addr) (w_TOP : Addr) (h0 : Heap) (n0 : Nat) (v : Option Value) (h : Heap) (L : List Loc) : Prop := v = some (.ref (pk w_LEFT w_RIGHT w_TOP w_BOTTOM p0)) ∧ Fr n0 L ∧ h = h0
set_option maxRecDepth 65536 in
set_option maxHeartbeats 40000000 in
theorem rm1 (l : Launch) (Z : State) (a0 : Array Value) (hw : ∀ d ∈ tables_1, d.before a0 Z = true) (ws : List Jvm.Cond) (p0 : Int32) (w_LEFT : Addr) (w_BOTTOM : Addr) (w_RIGHT : Addr) (w_TOP : Addr) (h0 : Heap) (n0 : Nat) (Z0 : n0 ≤ h0.size) (S_LEFT : Sta Z h0 "com/example/reactions_to_maps/reactionstomaps/layout/Side" "LEFT" "Lcom/example/reactions_to_maps/reactionstomaps/layout/Side;" (.ref w_LEFT)) (S_BOTTOM : Sta Z h0 "com/example/reactions_to_maps/reactionstomaps/layout/Side" "BOTTOM" "Lcom/example/reactions_to_maps/reactionstomaps/layout/Side;" (.ref w_BOTTOM)) (S_RIGHT : Sta Z h0 "com/example/reactions_to_maps/reactionstomaps/layout/Side" "RIGHT" "Lcom/example/reactions_to_maps/reactionstomaps/layout/Side;" (.ref w_RIGHT)) (S_TOP : Sta Z h0 "com/example/reactions_to_maps/reactionstomaps/layout/Side" "TOP" "Lcom/example/reactions_to_maps/reactionstomaps/layout/Side;" (.ref w_TOP)) (E_LEFT : Exa Z h0 w_LEFT "com/example/reactions_to_maps/reactionstomaps/layout/Side") (E_BOTTOM : Exa Z h0 w_BOTTOM "com/example/reactions_to_maps/reactionstomaps/layout/Side") (E_RIGHT : Exa Z h0 w_RIGHT "com/example/reactions_to_maps/reactionstomaps/layout/Side") (E_TOP : Exa Z h0 w_TOP "com/example/reactions_to_maps/reactionstomaps/layout/Side") (O_LEFT_ordinal : Fld Z h0 w_LEFT "java/lang/Enum" "ordinal" "I" (.int (0 : Int32))) (O_BOTTOM_ordinal : Fld Z h0 w_BOTTOM "java/lang/Enum" "ordinal" "I" (.int (3 : Int32))) (O_RIGHT_ordinal : Fld Z h0 w_RIGHT "java/lang/Enum" "ordinal" "I" (.int (1 : Int32))) (O_TOP_ordinal : Fld Z h0 w_TOP "java/lang/Enum" "ordinal" "I" (.int (2 : Int32))) :
    MetFree l (⟨"com/example/reactions_to_maps/reactionstomaps/layout/SideUpAndDownPinLaw", "pick", "(I)Lcom/example/reactions_to_maps/reactionstomaps/layout/Side;"⟩ : MethodName) (head1 (Jvm.Cond.code (⟨"com/example/reactions_to_maps/reactionstomaps/layout/SideUpAndDownPinLaw", "pick", "(I)Lcom/example/reactions_to_maps/reactionstomaps/layout/Side;"⟩ : MethodName) method_2_code 1 (some (.object "com/example/reactions_to_maps/reactionstomaps/layout/Side")) :: ws) ({ frames := 0, cells := 0, slots := 0, locals := 0 } : Room)) (fun a U => a = #[(.int p0)] ∧ Z.Warmed39 U.vm ∧ U.heap = h0) (fun _ _ _ _ _ => True) (fun _ U o U' => ∃ v L, o = .returned v ∧ Q1 Z p0 w_LEFT w_BOTTOM w_RIGHT w_TOP h0 n0 v U'.heap L ∧ FrameEnd U o U' L ({ frames := 0, cells := 0, slots := 0, locals := 0 } : Room).cells ({ frames := 0, cells := 0, slots := 0, locals := 0 } : Room).slots) := by
  refine MetFree.of_bodySF (plainFor_of_name pn_1) hisR ?_
  intro p e s m args below meth c s₁ Bd hml0 hP hK
  obtain ⟨rfl, hZ, hh⟩ := hP
  have hx := Bd.exec
  have hby := Bd.bytes
  have hml : c.maxLocals = 1 := hml0
  have hown : s.vm.findClass "com/example/reactions_to_maps/reactionstomaps/layout/SideUpAndDownPinLaw" = some m.cls := findClass_of_methodNamed Bd.named
  have hnm := (name_of_methodNamed Bd.named Bd.method).1
  have X0 : Stand p l e ({ frames := 0, cells := 0, slots := 0, locals := 0 } : Room) s m #[(.int p0)] below meth c s₁ [] 0 0 := Stand.of_body Bd
  have e0 : s₁.heap = h0 := by rw [← hh, Bd.state]; rfl
  have N0 := Fr.nil n0
  refine own_go (A' := (s₁.setTop (mkF m 0 #[.val (.int p0)] []))) (fun t k => castTop (ef_1 m p0) k) ?_
  refine own_go (A' := (s₁.setTop (mkF m 1 #[.val (.int p0)] [(.int p0)]))) (fun t k => ?_) ?_
  · show Steps p.tables e below (s₁.setTop (mkF m 0 #[.val (.int p0)] [])) _
    refine XS.iloadN X0.here hx rfl (hb hby d1_0) rfl ?_
    exact k
  by_cases hc1 : p0 = (0 : Int32)
  · -- hc1: yes
    refine own_go (A' := (s₁.setTop (mkF m 4 #[.val (.int p0)] []))) (fun t k => XS.ifNo X0.here hx rfl (hb hby d1_1) rfl ((if0 _ _).trans (teq hc1).2) k) ?_
    obtain ⟨T2, X2, e2, st2⟩ := getS2 X0 hx hZ hown (host := "") (Or.inl (hw _ (List.mem_of_getElem? (i := 4) rfl))) Via.refl e0 S_LEFT (g := (mkF m 4 #[.val (.int p0)] [])) rfl (hb hby d1_4)
    refine own_go (A' := (T2.setTop (mkF m 7 #[.val (.int p0)] [(.ref w_LEFT)]))) (fun t k => ?_) ?_
    · show Steps p.tables e below (s₁.setTop (mkF m 4 #[.val (.int p0)] [])) _
      refine st2 _ ?_
      exact k
    obtain ⟨fs, hr, hrun, hended, hW, hsame⟩ := X2.leave (v := some (.ref w_LEFT)) (fun h => by rw [Bd.returns] at h; cases h)
    refine ⟨_, _, ?_, hrun, hended, _, _, rfl, ?_, ⟨_, rfl⟩, hW, hsame.mono (by decide) (by decide)⟩
    · show Steps p.tables e below (T2.setTop (mkF m 7 #[.val (.int p0)] [(.ref w_LEFT)])) _
      exact own_retV X2 hx Bd.returns rfl rfl (hb hby d1_7) hr
    · show Q1 Z p0 w_LEFT w_BOTTOM w_RIGHT w_TOP h0 n0 _ _ _
      exact ⟨(by rw [pk, if_pos hc1]), N0, e2⟩
  · -- hc1: no
    refine own_go (A' := (s₁.setTop (mkF m 8 #[.val (.int p0)] []))) (fun t k => XS.ifYes X0.here hx rfl (pc0 := 1) (pc' := 8) rfl (hb hby d1_1) rfl ((if0 _ _).trans (feq hc1).2) (by decide) (by decide) k) ?_
    refine own_go (A' := (s₁.setTop (mkF m 10 #[.val (.int p0)] [(.int (1 : Int32)), (.int p0)]))) (fun t k => ?_) ?_
    · show Steps p.tables e below (s₁.setTop (mkF m 8 #[.val (.int p0)] [])) _
      refine XS.iloadN X0.here hx rfl (hb hby d1_8) rfl ?_
      show Steps p.tables e below (s₁.setTop (mkF m 9 #[.val (.int p0)] [(.int p0)])) _
      refine XS.iconst X0.here hx rfl (hb hby d1_9) ?_
      exact k
    by_cases hc3 : p0 = (1 : Int32)
    · -- hc3: yes
      refine own_go (A' := (s₁.setTop (mkF m 13 #[.val (.int p0)] []))) (fun t k => XS.icmpNo X0.here hx rfl (hb hby d1_10) rfl (teq hc3).2 k) ?_
      obtain ⟨T4, X4, e4, st4⟩ := getS2 X0 hx hZ hown (host := "") (Or.inl (hw _ (List.mem_of_getElem? (i := 19) rfl))) Via.refl e0 S_RIGHT (g := (mkF m 13 #[.val (.int p0)] [])) rfl (hb hby d1_13)
      refine own_go (A' := (T4.setTop (mkF m 16 #[.val (.int p0)] [(.ref w_RIGHT)]))) (fun t k => ?_) ?_
      · show Steps p.tables e below (s₁.setTop (mkF m 13 #[.val (.int p0)] [])) _
        refine st4 _ ?_
        exact k
      obtain ⟨fs, hr, hrun, hended, hW, hsame⟩ := X4.leave (v := some (.ref w_RIGHT)) (fun h => by rw [Bd.returns] at h; cases h)
      refine ⟨_, _, ?_, hrun, hended, _, _, rfl, ?_, ⟨_, rfl⟩, hW, hsame.mono (by decide) (by decide)⟩
      · show Steps p.tables e below (T4.setTop (mkF m 16 #[.val (.int p0)] [(.ref w_RIGHT)])) _
        exact own_retV X4 hx Bd.returns rfl rfl (hb hby d1_16) hr
      · show Q1 Z p0 w_LEFT w_BOTTOM w_RIGHT w_TOP h0 n0 _ _ _
        exact ⟨(by rw [pk, if_neg hc1, if_pos hc3]), N0, e4⟩
    · -- hc3: no
      refine own_go (A' := (s₁.setTop (mkF m 17 #[.val (.int p0)] []))) (fun t k => XS.icmpYes X0.here hx rfl (pc0 := 10) (pc' := 17) rfl (hb hby d1_10) rfl (feq hc3).2 (by decide) (by decide) k) ?_
      refine own_go (A' := (s₁.setTop (mkF m 19 #[.val (.int p0)] [(.int (2 : Int32)), (.int p0)]))) (fun t k => ?_) ?_
      · show Steps p.tables e below (s₁.setTop (mkF m 17 #[.val (.int p0)] [])) _
        refine XS.iloadN X0.here hx rfl (hb hby d1_17) rfl ?_
        show Steps p.tables e below (s₁.setTop (mkF m 18 #[.val (.int p0)] [(.int p0)])) _
        refine XS.iconst X0.here hx rfl (hb hby d1_18) ?_
        exact k
      by_cases hc5 : p0 = (2 : Int32)
      · -- hc5: yes
        refine own_go (A' := (s₁.setTop (mkF m 22 #[.val (.int p0)] []))) (fun t k => XS.icmpNo X0.here hx rfl (hb hby d1_19) rfl (teq hc5).2 k) ?_
        obtain ⟨T6, X6, e6, st6⟩ := getS2 X0 hx hZ hown (host := "") (Or.inl (hw _ (List.mem_of_getElem? (i := 17) rfl))) Via.refl e0 S_TOP (g := (mkF m 22 #[.val (.int p0)] [])) rfl (hb hby d1_22)
        refine own_go (A' := (T6.setTop (mkF m 25 #[.val (.int p0)] [(.ref w_TOP)]))) (fun t k => ?_) ?_
        · show Steps p.tables e below (s₁.setTop (mkF m 22 #[.val (.int p0)] [])) _
          refine st6 _ ?_
          exact k
        obtain ⟨fs, hr, hrun, hended, hW, hsame⟩ := X6.leave (v := some (.ref w_TOP)) (fun h => by rw [Bd.returns] at h; cases h)
        refine ⟨_, _, ?_, hrun, hended, _, _, rfl, ?_, ⟨_, rfl⟩, hW, hsame.mono (by decide) (by decide)⟩
        · show Steps p.tables e below (T6.setTop (mkF m 25 #[.val (.int p0)] [(.ref w_TOP)])) _
          exact own_retV X6 hx Bd.returns rfl rfl (hb hby d1_25) hr
        · show Q1 Z p0 w_LEFT w_BOTTOM w_RIGHT w_TOP h0 n0 _ _ _
          exact ⟨(by rw [pk, if_neg hc1, if_neg hc3, if_pos hc5]), N0, e6⟩
      · -- hc5: no
        refine own_go (A' := (s₁.setTop (mkF m 26 #[.val (.int p0)] []))) (fun t k => XS.icmpYes X0.here hx rfl (pc0 := 19) (pc' := 26) rfl (hb hby d1_19) rfl (feq hc5).2 (by decide) (by decide) k) ?_
        obtain ⟨T7, X7, e7, st7⟩ := getS2 X0 hx hZ hown (host := "") (Or.inl (hw _ (List.mem_of_getElem? (i := 13) rfl))) Via.refl e0 S_BOTTOM (g := (mkF m 26 #[.val (.int p0)] [])) rfl (hb hby d1_26)
        refine own_go (A' := (T7.setTop (mkF m 29 #[.val (.int p0)] [(.ref w_BOTTOM)]))) (fun t k => ?_) ?_
        · show Steps p.tables e below (s₁.setTop (mkF m 26 #[.val (.int p0)] [])) _
          refine st7 _ ?_
          exact k
        obtain ⟨fs, hr, hrun, hended, hW, hsame⟩ := X7.leave (v := some (.ref w_BOTTOM)) (fun h => by rw [Bd.returns] at h; cases h)
        refine ⟨_, _, ?_, hrun, hended, _, _, rfl, ?_, ⟨_, rfl⟩, hW, hsame.mono (by decide) (by decide)⟩
        · show Steps p.tables e below (T7.setTop (mkF m 29 #[.val (.int p0)] [(.ref w_BOTTOM)])) _
          exact own_retV X7 hx Bd.returns rfl rfl (hb hby d1_29) hr
        · show Q1 Z p0 w_LEFT w_BOTTOM w_RIGHT w_TOP h0 n0 _ _ _
          exact ⟨(by rw [pk, if_neg hc1, if_neg hc3, if_neg hc5]), N0, e7⟩
theorem d2_0 : decode prog_64_method_4_code 0 = .ok (.aload_n 0, 1) := by decide +kernel
theorem d2_1 : decode prog_64_method_4_code 1 = .ok (.getstatic 3, 3) := by decide +kernel
theorem d2_4 : decode prog_64_method_4_code 4 = .ok (.if_acmp .eq 10, 3) := by decide +kernel
theorem d2_7 : decode prog_64_method_4_code 7 = .ok (.aload_n 0, 1) := by decide +kernel
theorem d2_8 : decode prog_64_method_4_code 8 = .ok (.getstatic 7, 3) := by decide +kernel
theorem d2_11 : decode prog_64_method_4_code 11 = .ok (.if_acmp .ne 7, 3) := by decide +kernel
theorem d2_14 : decode prog_64_method_4_code 14 = .ok (.iconst 1, 1) := by decide +kernel
theorem d2_15 : decode prog_64_method_4_code 15 = .ok (.goto 4, 3) := by decide +kernel
theorem d2_18 : decode prog_64_method_4_code 18 = .ok (.iconst 0, 1) := by decide +kernel
theorem d2_19 : decode prog_64_method_4_code 19 = .ok (.ireturn, 1) := by decide +kernel
theorem pn_2 : plainName "com/example/reactions_to_maps/reactionstomaps/layout/Side" = true := by first | (simp [plainName, overriddenIn]; done) | decide +kernel
theorem ef_2 (m : MethodId) (r0 : Addr) : entryFrame m #[(.ref r0)] 1 = mkF m 0 #[.val (.ref r0)] [] := by first | (simp [entryFrame, mkF, argsToLocals, Value.category]; done) | rfl
def Q2 (Z : State) (r0 : Addr) (w_LEFT : Addr) (w_BOTTOM : Addr) (w_RIGHT : Addr) (w_TOP : Addr) (h0 : Heap) (n0 : Nat) (v : Option Value) (h : Heap) (L : List Loc) : Prop := v = some (.int (isF w_LEFT w_RIGHT r0)) ∧ Fr n0 L ∧ h = h0
set_option maxRecDepth 65536 in
set_option maxHeartbeats 40000000 in
theorem rm2 (l : Launch) (Z : State) (a0 : Array Value) (hw : ∀ d ∈ tables_1, d.before a0 Z = true) (ws : List Jvm.Cond) (r0 : Addr) (w_LEFT : Addr) (w_BOTTOM : Addr) (w_RIGHT : Addr) (w_TOP : Addr) (h0 : Heap) (n0 : Nat) (Z0 : n0 ≤ h0.size) (S_LEFT : Sta Z h0 "com/example/reactions_to_maps/reactionstomaps/layout/Side" "LEFT" "Lcom/example/reactions_to_maps/reactionstomaps/layout/Side;" (.ref w_LEFT)) (S_BOTTOM : Sta Z h0 "com/example/reactions_to_maps/reactionstomaps/layout/Side" "BOTTOM" "Lcom/example/reactions_to_maps/reactionstomaps/layout/Side;" (.ref w_BOTTOM)) (S_RIGHT : Sta Z h0 "com/example/reactions_to_maps/reactionstomaps/layout/Side" "RIGHT" "Lcom/example/reactions_to_maps/reactionstomaps/layout/Side;" (.ref w_RIGHT)) (S_TOP : Sta Z h0 "com/example/reactions_to_maps/reactionstomaps/layout/Side" "TOP" "Lcom/example/reactions_to_maps/reactionstomaps/layout/Side;" (.ref w_TOP)) (E_LEFT : Exa Z h0 w_LEFT "com/example/reactions_to_maps/reactionstomaps/layout/Side") (E_BOTTOM : Exa Z h0 w_BOTTOM "com/example/reactions_to_maps/reactionstomaps/layout/Side") (E_RIGHT : Exa Z h0 w_RIGHT "com/example/reactions_to_maps/reactionstomaps/layout/Side") (E_TOP : Exa Z h0 w_TOP "com/example/reactions_to_maps/reactionstomaps/layout/Side") (O_LEFT_ordinal : Fld Z h0 w_LEFT "java/lang/Enum" "ordinal" "I" (.int (0 : Int32))) (O_BOTTOM_ordinal : Fld Z h0 w_BOTTOM "java/lang/Enum" "ordinal" "I" (.int (3 : Int32))) (O_RIGHT_ordinal : Fld Z h0 w_RIGHT "java/lang/Enum" "ordinal" "I" (.int (1 : Int32))) (O_TOP_ordinal : Fld Z h0 w_TOP "java/lang/Enum" "ordinal" "I" (.int (2 : Int32))) :
    MetFree l (⟨"com/example/reactions_to_maps/reactionstomaps/layout/Side", "upAndDown", "()Z"⟩ : MethodName) (head1 (Jvm.Cond.code (⟨"com/example/reactions_to_maps/reactionstomaps/layout/Side", "upAndDown", "()Z"⟩ : MethodName) prog_64_method_4_code 1 (some .boolean) :: ws) ({ frames := 0, cells := 0, slots := 0, locals := 0 } : Room)) (fun a U => a = #[(.ref r0)] ∧ Z.Warmed39 U.vm ∧ U.heap = h0) (fun _ _ _ _ _ => True) (fun _ U o U' => ∃ v L, o = .returned v ∧ Q2 Z r0 w_LEFT w_BOTTOM w_RIGHT w_TOP h0 n0 v U'.heap L ∧ FrameEnd U o U' L ({ frames := 0, cells := 0, slots := 0, locals := 0 } : Room).cells ({ frames := 0, cells := 0, slots := 0, locals := 0 } : Room).slots) := by
  refine MetFree.of_bodySF (plainFor_of_name pn_2) hisR ?_
  intro p e s m args below meth c s₁ Bd hml0 hP hK
  obtain ⟨rfl, hZ, hh⟩ := hP
  have hx := Bd.exec
  have hby := Bd.bytes
  have hml : c.maxLocals = 1 := hml0
  have hown : s.vm.findClass "com/example/reactions_to_maps/reactionstomaps/layout/Side" = some m.cls := findClass_of_methodNamed Bd.named
  have hnm := (name_of_methodNamed Bd.named Bd.method).1
  have X0 : Stand p l e ({ frames := 0, cells := 0, slots := 0, locals := 0 } : Room) s m #[(.ref r0)] below meth c s₁ [] 0 0 := Stand.of_body Bd
  have e0 : s₁.heap = h0 := by rw [← hh, Bd.state]; rfl
  have N0 := Fr.nil n0
  refine own_go (A' := (s₁.setTop (mkF m 0 #[.val (.ref r0)] []))) (fun t k => castTop (ef_2 m r0) k) ?_
  obtain ⟨T8, X8, e8, st8⟩ := getS2 X0 hx hZ hown (host := "") (Or.inl (hw _ (List.mem_of_getElem? (i := 12) rfl))) Via.refl e0 S_LEFT (g := (mkF m 1 #[.val (.ref r0)] [(.ref r0)])) rfl (hb hby d2_1)
  refine own_go (A' := (T8.setTop (mkF m 4 #[.val (.ref r0)] [(.ref w_LEFT), (.ref r0)]))) (fun t k => ?_) ?_
  · show Steps p.tables e below (s₁.setTop (mkF m 0 #[.val (.ref r0)] [])) _
    refine XS.aloadN X0.here hx rfl (hb hby d2_0) rfl rfl ?_
    show Steps p.tables e below (s₁.setTop (mkF m 1 #[.val (.ref r0)] [(.ref r0)])) _
    refine st8 _ ?_
    exact k
  by_cases hc9 : r0 = w_LEFT
  · -- hc9: yes
    refine own_go (A' := (T8.setTop (mkF m 14 #[.val (.ref r0)] []))) (fun t k => Jvm.RoadKit.acmp (g := (mkF m 4 #[.val (.ref r0)] [(.ref w_LEFT), (.ref r0)])) X8 hx rfl rfl rfl (pc0 := 4) (pc' := 14) (same := true) rfl (hb hby d2_4) rfl (decide_eq_true (congrArg Value.ref hc9)) (by decide) (by decide) k) ?_
    refine own_go (A' := (T8.setTop (mkF m 19 #[.val (.ref r0)] [(.int (1 : Int32))]))) (fun t k => ?_) ?_
    · show Steps p.tables e below (T8.setTop (mkF m 14 #[.val (.ref r0)] [])) _
      refine XS.iconst X8.here hx rfl (hb hby d2_14) ?_
      show Steps p.tables e below (T8.setTop (mkF m 15 #[.val (.ref r0)] [(.int (1 : Int32))])) _
      refine XS.goto X8.here hx rfl (pc0 := 15) (pc' := 19) rfl (hb hby d2_15) (by decide) (by decide) ?_
      exact k
    obtain ⟨fs, hr, hrun, hended, hW, hsame⟩ := X8.leave (v := some (.int (1 : Int32))) (fun h => by rw [Bd.returns] at h; cases h)
    refine ⟨_, _, ?_, hrun, hended, _, _, rfl, ?_, ⟨_, rfl⟩, hW, hsame.mono (by decide) (by decide)⟩
    · show Steps p.tables e below (T8.setTop (mkF m 19 #[.val (.ref r0)] [(.int (1 : Int32))])) _
      exact retN X8 hx (t := .boolean) Bd.returns (by simp) (hb hby d2_19) hr
    · show Q2 Z r0 w_LEFT w_BOTTOM w_RIGHT w_TOP h0 n0 _ _ _
      exact ⟨(by rw [isF, if_pos hc9]), N0, e8⟩
  · -- hc9: no
    refine own_go (A' := (T8.setTop (mkF m 7 #[.val (.ref r0)] []))) (fun t k => Jvm.RoadKit.acmp (g := (mkF m 4 #[.val (.ref r0)] [(.ref w_LEFT), (.ref r0)])) X8 hx rfl rfl rfl (pc0 := 4) (pc' := 7) (same := false) rfl (hb hby d2_4) rfl (decide_eq_false fun q => hc9 (Value.ref.inj q)) (by decide) (by decide) k) ?_
    obtain ⟨T10, X10, e10, st10⟩ := getS2 X8 hx hZ hown (host := "") (Or.inl (hw _ (List.mem_of_getElem? (i := 15) rfl))) Via.refl e8 S_RIGHT (g := (mkF m 8 #[.val (.ref r0)] [(.ref r0)])) rfl (hb hby d2_8)
    refine own_go (A' := (T10.setTop (mkF m 11 #[.val (.ref r0)] [(.ref w_RIGHT), (.ref r0)]))) (fun t k => ?_) ?_
    · show Steps p.tables e below (T8.setTop (mkF m 7 #[.val (.ref r0)] [])) _
      refine XS.aloadN X8.here hx rfl (hb hby d2_7) rfl rfl ?_
      show Steps p.tables e below (T8.setTop (mkF m 8 #[.val (.ref r0)] [(.ref r0)])) _
      refine st10 _ ?_
      exact k
    by_cases hc11 : r0 = w_RIGHT
    · -- hc11: yes
      refine own_go (A' := (T10.setTop (mkF m 14 #[.val (.ref r0)] []))) (fun t k => Jvm.RoadKit.acmp (g := (mkF m 11 #[.val (.ref r0)] [(.ref w_RIGHT), (.ref r0)])) X10 hx rfl rfl rfl (pc0 := 11) (pc' := 14) (same := true) rfl (hb hby d2_11) rfl (decide_eq_true (congrArg Value.ref hc11)) (by decide) (by decide) k) ?_
      refine own_go (A' := (T10.setTop (mkF m 19 #[.val (.ref r0)] [(.int (1 : Int32))]))) (fun t k => ?_) ?_
      · show Steps p.tables e below (T10.setTop (mkF m 14 #[.val (.ref r0)] [])) _
        refine XS.iconst X10.here hx rfl (hb hby d2_14) ?_
        show Steps p.tables e below (T10.setTop (mkF m 15 #[.val (.ref r0)] [(.int (1 : Int32))])) _
        refine XS.goto X10.here hx rfl (pc0 := 15) (pc' := 19) rfl (hb hby d2_15) (by decide) (by decide) ?_
        exact k
      obtain ⟨fs, hr, hrun, hended, hW, hsame⟩ := X10.leave (v := some (.int (1 : Int32))) (fun h => by rw [Bd.returns] at h; cases h)
      refine ⟨_, _, ?_, hrun, hended, _, _, rfl, ?_, ⟨_, rfl⟩, hW, hsame.mono (by decide) (by decide)⟩
      · show Steps p.tables e below (T10.setTop (mkF m 19 #[.val (.ref r0)] [(.int (1 : Int32))])) _
        exact retN X10 hx (t := .boolean) Bd.returns (by simp) (hb hby d2_19) hr
      · show Q2 Z r0 w_LEFT w_BOTTOM w_RIGHT w_TOP h0 n0 _ _ _
        exact ⟨(by rw [isF, if_neg hc9, if_pos hc11]), N0, e10⟩
    · -- hc11: no
      refine own_go (A' := (T10.setTop (mkF m 18 #[.val (.ref r0)] []))) (fun t k => Jvm.RoadKit.acmp (g := (mkF m 11 #[.val (.ref r0)] [(.ref w_RIGHT), (.ref r0)])) X10 hx rfl rfl rfl (pc0 := 11) (pc' := 18) (same := false) rfl (hb hby d2_11) rfl (decide_eq_false fun q => hc11 (Value.ref.inj q)) (by decide) (by decide) k) ?_
      refine own_go (A' := (T10.setTop (mkF m 19 #[.val (.ref r0)] [(.int (0 : Int32))]))) (fun t k => ?_) ?_
      · show Steps p.tables e below (T10.setTop (mkF m 18 #[.val (.ref r0)] [])) _
        refine XS.iconst X10.here hx rfl (hb hby d2_18) ?_
        exact k
      obtain ⟨fs, hr, hrun, hended, hW, hsame⟩ := X10.leave (v := some (.int (0 : Int32))) (fun h => by rw [Bd.returns] at h; cases h)
      refine ⟨_, _, ?_, hrun, hended, _, _, rfl, ?_, ⟨_, rfl⟩, hW, hsame.mono (by decide) (by decide)⟩
      · show Steps p.tables e below (T10.setTop (mkF m 19 #[.val (.ref r0)] [(.int (0 : Int32))])) _
        exact retN X10 hx (t := .boolean) Bd.returns (by simp) (hb hby d2_19) hr
      · show Q2 Z r0 w_LEFT w_BOTTOM w_RIGHT w_TOP h0 n0 _ _ _
        exact ⟨(by rw [isF, if_neg hc9, if_neg hc11]), N0, e10⟩
theorem pd_0 : parseMethodDescriptor "(I)Lcom/example/reactions_to_maps/reactionstomaps/layout/Side;" = some ⟨[.int], some (.object "com/example/reactions_to_maps/reactionstomaps/layout/Side")⟩ := by decide +kernel
theorem pd_1 : parseMethodDescriptor "()Z" = some ⟨[], some .boolean⟩ := by decide +kernel
theorem pn_0 : plainName "com/example/reactions_to_maps/reactionstomaps/layout/SideUpAndDownPinLaw" = true := by first | (simp [plainName, overriddenIn]; done) | decide +kernel
theorem ef_0 (m : MethodId) (p0 : Int32) : entryFrame m #[(.int p0)] maxLocals = mkF m 0 #[.val (.int p0), .unset, .unset, .unset] [] := by first | (simp [entryFrame, mkF, argsToLocals, Value.category, maxLocals]; done) | rfl
def Q0 (Z : State) (p0 : Int32) (w_LEFT : Addr) (w_BOTTOM : Addr) (w_RIGHT : Addr) (w_TOP : Addr) (h0 : Heap) (n0 : Nat) (v : Option Value) (h : Heap) (L : List Loc) : Prop := v = some (.int (1 : Int32)) ∧ Fr n0 L
set_option maxRecDepth 65536 in
set_option maxHeartbeats 40000000 in
theorem rm0 (l : Launch) (Z : State) (a0 : Array Value) (hw : ∀ d ∈ tables_1, d.before a0 Z = true) (ws : List Jvm.Cond) (p0 : Int32) (w_LEFT : Addr) (w_BOTTOM : Addr) (w_RIGHT : Addr) (w_TOP : Addr) (h0 : Heap) (n0 : Nat) (Z0 : n0 ≤ h0.size) (S_LEFT : Sta Z h0 "com/example/reactions_to_maps/reactionstomaps/layout/Side" "LEFT" "Lcom/example/reactions_to_maps/reactionstomaps/layout/Side;" (.ref w_LEFT)) (S_BOTTOM : Sta Z h0 "com/example/reactions_to_maps/reactionstomaps/layout/Side" "BOTTOM" "Lcom/example/reactions_to_maps/reactionstomaps/layout/Side;" (.ref w_BOTTOM)) (S_RIGHT : Sta Z h0 "com/example/reactions_to_maps/reactionstomaps/layout/Side" "RIGHT" "Lcom/example/reactions_to_maps/reactionstomaps/layout/Side;" (.ref w_RIGHT)) (S_TOP : Sta Z h0 "com/example/reactions_to_maps/reactionstomaps/layout/Side" "TOP" "Lcom/example/reactions_to_maps/reactionstomaps/layout/Side;" (.ref w_TOP)) (E_LEFT : Exa Z h0 w_LEFT "com/example/reactions_to_maps/reactionstomaps/layout/Side") (E_BOTTOM : Exa Z h0 w_BOTTOM "com/example/reactions_to_maps/reactionstomaps/layout/Side") (E_RIGHT : Exa Z h0 w_RIGHT "com/example/reactions_to_maps/reactionstomaps/layout/Side") (E_TOP : Exa Z h0 w_TOP "com/example/reactions_to_maps/reactionstomaps/layout/Side") (O_LEFT_ordinal : Fld Z h0 w_LEFT "java/lang/Enum" "ordinal" "I" (.int (0 : Int32))) (O_BOTTOM_ordinal : Fld Z h0 w_BOTTOM "java/lang/Enum" "ordinal" "I" (.int (3 : Int32))) (O_RIGHT_ordinal : Fld Z h0 w_RIGHT "java/lang/Enum" "ordinal" "I" (.int (1 : Int32))) (O_TOP_ordinal : Fld Z h0 w_TOP "java/lang/Enum" "ordinal" "I" (.int (2 : Int32))) :
    MetFree l x (head1 (Jvm.Cond.code x code maxLocals ret :: ws) room_1) (fun a U => a = #[(.int p0)] ∧ Z.Warmed39 U.vm ∧ U.heap = h0) (fun _ _ _ _ _ => True) (fun _ U o U' => ∃ v L, o = .returned v ∧ Q0 Z p0 w_LEFT w_BOTTOM w_RIGHT w_TOP h0 n0 v U'.heap L ∧ FrameEnd U o U' L room_1.cells room_1.slots) := by
  refine MetFree.of_bodySF (plainFor_of_name pn_0) hisR ?_
  intro p e s m args below meth c s₁ Bd hml0 hP hK
  obtain ⟨rfl, hZ, hh⟩ := hP
  have hx := Bd.exec
  have hby := Bd.bytes
  have hml : c.maxLocals = 4 := hml0
  have hown : s.vm.findClass "com/example/reactions_to_maps/reactionstomaps/layout/SideUpAndDownPinLaw" = some m.cls := findClass_of_methodNamed Bd.named
  have hnm := (name_of_methodNamed Bd.named Bd.method).1
  have X0 : Stand p l e room_1 s m #[(.int p0)] below meth c s₁ [] 0 0 := Stand.of_body Bd
  have e0 : s₁.heap = h0 := by rw [← hh, Bd.state]; rfl
  have N0 := Fr.nil n0
  refine own_go (A' := (s₁.setTop (mkF m 0 #[.val (.int p0), .unset, .unset, .unset] []))) (fun t k => castTop (ef_0 m p0) k) ?_
  obtain ⟨_, _, ⟨T12, L12, k12, n12⟩, -, X12, ⟨Lc12, hQ12, l12, y12, z12⟩, st12⟩ := Jvm.LawKit.callS X0 hx (y := (⟨"com/example/reactions_to_maps/reactionstomaps/layout/SideUpAndDownPinLaw", "pick", "(I)Lcom/example/reactions_to_maps/reactionstomaps/layout/Side;"⟩ : MethodName)) hown (mvT hZ (hw _ (List.mem_of_getElem? (i := 0) rfl))) (mvT hZ (hw _ (List.mem_of_getElem? (i := 1) rfl))) (mvT hZ (hw _ (List.mem_of_getElem? (i := 2) rfl))) (mvT hZ (hw _ (List.mem_of_getElem? (i := 3) rfl))) (by decide) (backOf (W := 0) (rm1 l Z a0 hw [] (p0 &&& (3 : Int32)) w_LEFT w_BOTTOM w_RIGHT w_TOP h0 n0 Z0 S_LEFT S_BOTTOM S_RIGHT S_TOP E_LEFT E_BOTTOM E_RIGHT E_TOP O_LEFT_ordinal O_BOTTOM_ordinal O_RIGHT_ordinal O_TOP_ordinal) hZ (hw _ (List.mem_of_getElem? (i := 3) rfl)) (hw _ (List.mem_of_getElem? (i := 2) rfl)) (by decide) (by decide)) (g := (mkF m 5 #[.val (.int p0), .val (.int (p0 &&& (3 : Int32))), .unset, .unset] [(.int (p0 &&& (3 : Int32)))])) rfl (by rw [hml]; rfl) (argsL := [(.int (p0 &&& (3 : Int32)))]) (rest := []) (lenOf pd_0 rfl) rfl (by show 2 * 0 + _ ≤ _; exact Nat.le_of_eq rfl) (hb hby at_5) (fun _ _ => ⟨rfl, e0, (by decide : 0 + 0 ≤ _), (by decide : 0 + 0 ≤ _)⟩)
  dsimp only [Pt.U, Pt.locs, Pt.cells, Pt.slots] at X12 l12 y12 z12 st12 hQ12
  subst l12 y12 z12
  obtain ⟨rfl, N12q, e12⟩ := hQ12
  have N12 := Fr.app N0 N12q
  refine own_go (A' := (T12.setTop (mkF m 10 #[.val (.int p0), .val (.int (p0 &&& (3 : Int32))), .val (.ref (pk w_LEFT w_RIGHT w_TOP w_BOTTOM (p0 &&& (3 : Int32)))), .unset] [(.int (p0 &&& (3 : Int32)))]))) (fun t k => ?_) ?_
  · show Steps p.tables e below (s₁.setTop (mkF m 0 #[.val (.int p0), .unset, .unset, .unset] [])) _
    refine XS.iloadN X0.here hx rfl (hb hby at_0) rfl ?_
    show Steps p.tables e below (s₁.setTop (mkF m 1 #[.val (.int p0), .unset, .unset, .unset] [(.int p0)])) _
    refine XS.iconst X0.here hx rfl (hb hby at_1) ?_
    show Steps p.tables e below (s₁.setTop (mkF m 2 #[.val (.int p0), .unset, .unset, .unset] [(.int (3 : Int32)), (.int p0)])) _
    refine XS.iand X0.here hx rfl (hb hby at_2) rfl ?_
    show Steps p.tables e below (s₁.setTop (mkF m 3 #[.val (.int p0), .unset, .unset, .unset] [(.int (p0 &&& (3 : Int32)))])) _
    refine XS.istoreN X0.here hx rfl (hb hby at_3) rfl (l' := #[.val (.int p0), .val (.int (p0 &&& (3 : Int32))), .unset, .unset]) rfl ?_
    show Steps p.tables e below (s₁.setTop (mkF m 4 #[.val (.int p0), .val (.int (p0 &&& (3 : Int32))), .unset, .unset] [])) _
    refine XS.iloadN X0.here hx rfl (hb hby at_4) rfl ?_
    show Steps p.tables e below (s₁.setTop (mkF m 5 #[.val (.int p0), .val (.int (p0 &&& (3 : Int32))), .unset, .unset] [(.int (p0 &&& (3 : Int32)))])) _
    refine st12 _ ?_
    show Steps p.tables e below (T12.setTop (mkF m 8 #[.val (.int p0), .val (.int (p0 &&& (3 : Int32))), .unset, .unset] [(.ref (pk w_LEFT w_RIGHT w_TOP w_BOTTOM (p0 &&& (3 : Int32))))])) _
    refine XS.astoreN X12.here hx rfl (hb hby at_8) rfl rfl (l' := #[.val (.int p0), .val (.int (p0 &&& (3 : Int32))), .val (.ref (pk w_LEFT w_RIGHT w_TOP w_BOTTOM (p0 &&& (3 : Int32)))), .unset]) rfl ?_
    show Steps p.tables e below (T12.setTop (mkF m 9 #[.val (.int p0), .val (.int (p0 &&& (3 : Int32))), .val (.ref (pk w_LEFT w_RIGHT w_TOP w_BOTTOM (p0 &&& (3 : Int32)))), .unset] [])) _
    refine XS.iloadN X12.here hx rfl (hb hby at_9) rfl ?_
    exact k
  by_cases hc13 : (p0 &&& (3 : Int32)) = (0 : Int32)
  · -- hc13: yes
    refine own_go (A' := (T12.setTop (mkF m 18 #[.val (.int p0), .val (.int (p0 &&& (3 : Int32))), .val (.ref (pk w_LEFT w_RIGHT w_TOP w_BOTTOM (p0 &&& (3 : Int32)))), .unset] []))) (fun t k => XS.ifYes X12.here hx rfl (pc0 := 10) (pc' := 18) rfl (hb hby at_10) rfl ((if0 _ _).trans (teq hc13).1) (by decide) (by decide) k) ?_
    obtain ⟨cq14, kq14, q14a, q14b, q14c⟩ := isOf hZ e12 (pk_exa _ E_LEFT E_RIGHT E_TOP E_BOTTOM)
    obtain ⟨_, _, ⟨T14, L14, k14, n14⟩, -, X14, ⟨Lc14, hQ14, l14, y14, z14⟩, st14⟩ := X12.virtualBack hx (y := (⟨"com/example/reactions_to_maps/reactionstomaps/layout/Side", "upAndDown", "()Z"⟩ : MethodName)) (z := (⟨"com/example/reactions_to_maps/reactionstomaps/layout/Side", "upAndDown", "()Z"⟩ : MethodName)) hown (mvT hZ (hw _ (List.mem_of_getElem? (i := 7) rfl))) (mvT hZ (hw _ (List.mem_of_getElem? (i := 8) rfl))) (notFace_of_selects (args := #[]) (mvT hZ (hw _ (List.mem_of_getElem? (i := 10) rfl)))) (mvT hZ (hw _ (List.mem_of_getElem? (i := 10) rfl))) (mvT hZ (hw _ (List.mem_of_getElem? (i := 9) rfl))) (by decide) (backOf (W := 0) (rm2 l Z a0 hw [] (pk w_LEFT w_RIGHT w_TOP w_BOTTOM (p0 &&& (3 : Int32))) w_LEFT w_BOTTOM w_RIGHT w_TOP h0 n0 Z0 S_LEFT S_BOTTOM S_RIGHT S_TOP E_LEFT E_BOTTOM E_RIGHT E_TOP O_LEFT_ordinal O_BOTTOM_ordinal O_RIGHT_ordinal O_TOP_ordinal) hZ (hw _ (List.mem_of_getElem? (i := 11) rfl)) (hw _ (List.mem_of_getElem? (i := 5) rfl)) (by decide) (by decide)) q14a q14c (g := (mkF m 25 #[.val (.int p0), .val (.int (p0 &&& (3 : Int32))), .val (.ref (pk w_LEFT w_RIGHT w_TOP w_BOTTOM (p0 &&& (3 : Int32)))), .val (.int (1 : Int32))] [(.ref (pk w_LEFT w_RIGHT w_TOP w_BOTTOM (p0 &&& (3 : Int32))))])) rfl (by rw [hml]; rfl) (Steps.refl _) (argsL := []) (rest := []) (lenOf pd_1 rfl) rfl (by show 2 * 0 + _ ≤ _; exact Nat.le_of_eq rfl) (hb hby at_25) (fun _ _ => ⟨rfl, e12, (by decide : 0 + 0 ≤ _), (by decide : 0 + 0 ≤ _)⟩)
    dsimp only [Pt.U, Pt.locs, Pt.cells, Pt.slots] at X14 l14 y14 z14 st14 hQ14
    subst l14 y14 z14
    obtain ⟨rfl, N14q, e14⟩ := hQ14
    have N14 := Fr.app N12 N14q
    refine own_go (A' := (T14.setTop (mkF m 29 #[.val (.int p0), .val (.int (p0 &&& (3 : Int32))), .val (.ref (pk w_LEFT w_RIGHT w_TOP w_BOTTOM (p0 &&& (3 : Int32)))), .val (.int (1 : Int32))] [(.int (1 : Int32)), (.int (isF w_LEFT w_RIGHT (pk w_LEFT w_RIGHT w_TOP w_BOTTOM (p0 &&& (3 : Int32)))))]))) (fun t k => ?_) ?_
    · show Steps p.tables e below (T12.setTop (mkF m 18 #[.val (.int p0), .val (.int (p0 &&& (3 : Int32))), .val (.ref (pk w_LEFT w_RIGHT w_TOP w_BOTTOM (p0 &&& (3 : Int32)))), .unset] [])) _
      refine XS.iconst X12.here hx rfl (hb hby at_18) ?_
      show Steps p.tables e below (T12.setTop (mkF m 19 #[.val (.int p0), .val (.int (p0 &&& (3 : Int32))), .val (.ref (pk w_LEFT w_RIGHT w_TOP w_BOTTOM (p0 &&& (3 : Int32)))), .unset] [(.int (1 : Int32))])) _
      refine XS.goto X12.here hx rfl (pc0 := 19) (pc' := 23) rfl (hb hby at_19) (by decide) (by decide) ?_
      show Steps p.tables e below (T12.setTop (mkF m 23 #[.val (.int p0), .val (.int (p0 &&& (3 : Int32))), .val (.ref (pk w_LEFT w_RIGHT w_TOP w_BOTTOM (p0 &&& (3 : Int32)))), .unset] [(.int (1 : Int32))])) _
      refine XS.istoreN X12.here hx rfl (hb hby at_23) rfl (l' := #[.val (.int p0), .val (.int (p0 &&& (3 : Int32))), .val (.ref (pk w_LEFT w_RIGHT w_TOP w_BOTTOM (p0 &&& (3 : Int32)))), .val (.int (1 : Int32))]) rfl ?_
      show Steps p.tables e below (T12.setTop (mkF m 24 #[.val (.int p0), .val (.int (p0 &&& (3 : Int32))), .val (.ref (pk w_LEFT w_RIGHT w_TOP w_BOTTOM (p0 &&& (3 : Int32)))), .val (.int (1 : Int32))] [])) _
      refine XS.aloadN X12.here hx rfl (hb hby at_24) rfl rfl ?_
      show Steps p.tables e below (T12.setTop (mkF m 25 #[.val (.int p0), .val (.int (p0 &&& (3 : Int32))), .val (.ref (pk w_LEFT w_RIGHT w_TOP w_BOTTOM (p0 &&& (3 : Int32)))), .val (.int (1 : Int32))] [(.ref (pk w_LEFT w_RIGHT w_TOP w_BOTTOM (p0 &&& (3 : Int32))))])) _
      refine st14.trans ?_
      show Steps p.tables e below (T14.setTop (mkF m 28 #[.val (.int p0), .val (.int (p0 &&& (3 : Int32))), .val (.ref (pk w_LEFT w_RIGHT w_TOP w_BOTTOM (p0 &&& (3 : Int32)))), .val (.int (1 : Int32))] [(.int (isF w_LEFT w_RIGHT (pk w_LEFT w_RIGHT w_TOP w_BOTTOM (p0 &&& (3 : Int32)))))])) _
      refine XS.iloadN X14.here hx rfl (hb hby at_28) rfl ?_
      exact k
    refine own_go (A' := (T14.setTop (mkF m 32 #[.val (.int p0), .val (.int (p0 &&& (3 : Int32))), .val (.ref (pk w_LEFT w_RIGHT w_TOP w_BOTTOM (p0 &&& (3 : Int32)))), .val (.int (1 : Int32))] []))) (fun t k => XS.icmpNo X14.here hx rfl (hb hby at_29) rfl (teq (by rw [own_key (own_fld_ne O_LEFT_ordinal O_RIGHT_ordinal (by decide)) (own_fld_ne O_RIGHT_ordinal O_LEFT_ordinal (by decide)) (own_fld_ne O_TOP_ordinal O_LEFT_ordinal (by decide)) (own_fld_ne O_TOP_ordinal O_RIGHT_ordinal (by decide)) (own_fld_ne O_BOTTOM_ordinal O_LEFT_ordinal (by decide)) (own_fld_ne O_BOTTOM_ordinal O_RIGHT_ordinal (by decide)) _, exF, if_pos hc13])).2 k) ?_
    refine own_go (A' := (T14.setTop (mkF m 37 #[.val (.int p0), .val (.int (p0 &&& (3 : Int32))), .val (.ref (pk w_LEFT w_RIGHT w_TOP w_BOTTOM (p0 &&& (3 : Int32)))), .val (.int (1 : Int32))] [(.int (1 : Int32))]))) (fun t k => ?_) ?_
    · show Steps p.tables e below (T14.setTop (mkF m 32 #[.val (.int p0), .val (.int (p0 &&& (3 : Int32))), .val (.ref (pk w_LEFT w_RIGHT w_TOP w_BOTTOM (p0 &&& (3 : Int32)))), .val (.int (1 : Int32))] [])) _
      refine XS.iconst X14.here hx rfl (hb hby at_32) ?_
      show Steps p.tables e below (T14.setTop (mkF m 33 #[.val (.int p0), .val (.int (p0 &&& (3 : Int32))), .val (.ref (pk w_LEFT w_RIGHT w_TOP w_BOTTOM (p0 &&& (3 : Int32)))), .val (.int (1 : Int32))] [(.int (1 : Int32))])) _
      refine XS.goto X14.here hx rfl (pc0 := 33) (pc' := 37) rfl (hb hby at_33) (by decide) (by decide) ?_
      exact k
    obtain ⟨fs, hr, hrun, hended, hW, hsame⟩ := X14.leave (v := some (.int (1 : Int32))) (fun h => by rw [Bd.returns] at h; cases h)
    refine ⟨_, _, ?_, hrun, hended, _, _, rfl, ?_, ⟨_, rfl⟩, hW, hsame.mono (by decide) (by decide)⟩
    · show Steps p.tables e below (T14.setTop (mkF m 37 #[.val (.int p0), .val (.int (p0 &&& (3 : Int32))), .val (.ref (pk w_LEFT w_RIGHT w_TOP w_BOTTOM (p0 &&& (3 : Int32)))), .val (.int (1 : Int32))] [(.int (1 : Int32))])) _
      exact retN X14 hx (t := .boolean) Bd.returns (by simp) (hb hby at_37) hr
    · show Q0 Z p0 w_LEFT w_BOTTOM w_RIGHT w_TOP h0 n0 _ _ _
      exact ⟨rfl, N14⟩
  · -- hc13: no
    refine own_go (A' := (T12.setTop (mkF m 13 #[.val (.int p0), .val (.int (p0 &&& (3 : Int32))), .val (.ref (pk w_LEFT w_RIGHT w_TOP w_BOTTOM (p0 &&& (3 : Int32)))), .unset] []))) (fun t k => XS.ifNo X12.here hx rfl (hb hby at_10) rfl ((if0 _ _).trans (feq hc13).1) k) ?_
    refine own_go (A' := (T12.setTop (mkF m 15 #[.val (.int p0), .val (.int (p0 &&& (3 : Int32))), .val (.ref (pk w_LEFT w_RIGHT w_TOP w_BOTTOM (p0 &&& (3 : Int32)))), .unset] [(.int (1 : Int32)), (.int (p0 &&& (3 : Int32)))]))) (fun t k => ?_) ?_
    · show Steps p.tables e below (T12.setTop (mkF m 13 #[.val (.int p0), .val (.int (p0 &&& (3 : Int32))), .val (.ref (pk w_LEFT w_RIGHT w_TOP w_BOTTOM (p0 &&& (3 : Int32)))), .unset] [])) _
      refine XS.iloadN X12.here hx rfl (hb hby at_13) rfl ?_
      show Steps p.tables e below (T12.setTop (mkF m 14 #[.val (.int p0), .val (.int (p0 &&& (3 : Int32))), .val (.ref (pk w_LEFT w_RIGHT w_TOP w_BOTTOM (p0 &&& (3 : Int32)))), .unset] [(.int (p0 &&& (3 : Int32)))])) _
      refine XS.iconst X12.here hx rfl (hb hby at_14) ?_
      exact k
    by_cases hc15 : (p0 &&& (3 : Int32)) = (1 : Int32)
    · -- hc15: yes
      refine own_go (A' := (T12.setTop (mkF m 18 #[.val (.int p0), .val (.int (p0 &&& (3 : Int32))), .val (.ref (pk w_LEFT w_RIGHT w_TOP w_BOTTOM (p0 &&& (3 : Int32)))), .unset] []))) (fun t k => XS.icmpNo X12.here hx rfl (hb hby at_15) rfl (teq hc15).2 k) ?_
      obtain ⟨cq16, kq16, q16a, q16b, q16c⟩ := isOf hZ e12 (pk_exa _ E_LEFT E_RIGHT E_TOP E_BOTTOM)
      obtain ⟨_, _, ⟨T16, L16, k16, n16⟩, -, X16, ⟨Lc16, hQ16, l16, y16, z16⟩, st16⟩ := X12.virtualBack hx (y := (⟨"com/example/reactions_to_maps/reactionstomaps/layout/Side", "upAndDown", "()Z"⟩ : MethodName)) (z := (⟨"com/example/reactions_to_maps/reactionstomaps/layout/Side", "upAndDown", "()Z"⟩ : MethodName)) hown (mvT hZ (hw _ (List.mem_of_getElem? (i := 7) rfl))) (mvT hZ (hw _ (List.mem_of_getElem? (i := 8) rfl))) (notFace_of_selects (args := #[]) (mvT hZ (hw _ (List.mem_of_getElem? (i := 10) rfl)))) (mvT hZ (hw _ (List.mem_of_getElem? (i := 10) rfl))) (mvT hZ (hw _ (List.mem_of_getElem? (i := 9) rfl))) (by decide) (backOf (W := 0) (rm2 l Z a0 hw [] (pk w_LEFT w_RIGHT w_TOP w_BOTTOM (p0 &&& (3 : Int32))) w_LEFT w_BOTTOM w_RIGHT w_TOP h0 n0 Z0 S_LEFT S_BOTTOM S_RIGHT S_TOP E_LEFT E_BOTTOM E_RIGHT E_TOP O_LEFT_ordinal O_BOTTOM_ordinal O_RIGHT_ordinal O_TOP_ordinal) hZ (hw _ (List.mem_of_getElem? (i := 11) rfl)) (hw _ (List.mem_of_getElem? (i := 5) rfl)) (by decide) (by decide)) q16a q16c (g := (mkF m 25 #[.val (.int p0), .val (.int (p0 &&& (3 : Int32))), .val (.ref (pk w_LEFT w_RIGHT w_TOP w_BOTTOM (p0 &&& (3 : Int32)))), .val (.int (1 : Int32))] [(.ref (pk w_LEFT w_RIGHT w_TOP w_BOTTOM (p0 &&& (3 : Int32))))])) rfl (by rw [hml]; rfl) (Steps.refl _) (argsL := []) (rest := []) (lenOf pd_1 rfl) rfl (by show 2 * 0 + _ ≤ _; exact Nat.le_of_eq rfl) (hb hby at_25) (fun _ _ => ⟨rfl, e12, (by decide : 0 + 0 ≤ _), (by decide : 0 + 0 ≤ _)⟩)
      dsimp only [Pt.U, Pt.locs, Pt.cells, Pt.slots] at X16 l16 y16 z16 st16 hQ16
      subst l16 y16 z16
      obtain ⟨rfl, N16q, e16⟩ := hQ16
      have N16 := Fr.app N12 N16q
      refine own_go (A' := (T16.setTop (mkF m 29 #[.val (.int p0), .val (.int (p0 &&& (3 : Int32))), .val (.ref (pk w_LEFT w_RIGHT w_TOP w_BOTTOM (p0 &&& (3 : Int32)))), .val (.int (1 : Int32))] [(.int (1 : Int32)), (.int (isF w_LEFT w_RIGHT (pk w_LEFT w_RIGHT w_TOP w_BOTTOM (p0 &&& (3 : Int32)))))]))) (fun t k => ?_) ?_
      · show Steps p.tables e below (T12.setTop (mkF m 18 #[.val (.int p0), .val (.int (p0 &&& (3 : Int32))), .val (.ref (pk w_LEFT w_RIGHT w_TOP w_BOTTOM (p0 &&& (3 : Int32)))), .unset] [])) _
        refine XS.iconst X12.here hx rfl (hb hby at_18) ?_
        show Steps p.tables e below (T12.setTop (mkF m 19 #[.val (.int p0), .val (.int (p0 &&& (3 : Int32))), .val (.ref (pk w_LEFT w_RIGHT w_TOP w_BOTTOM (p0 &&& (3 : Int32)))), .unset] [(.int (1 : Int32))])) _
        refine XS.goto X12.here hx rfl (pc0 := 19) (pc' := 23) rfl (hb hby at_19) (by decide) (by decide) ?_
        show Steps p.tables e below (T12.setTop (mkF m 23 #[.val (.int p0), .val (.int (p0 &&& (3 : Int32))), .val (.ref (pk w_LEFT w_RIGHT w_TOP w_BOTTOM (p0 &&& (3 : Int32)))), .unset] [(.int (1 : Int32))])) _
        refine XS.istoreN X12.here hx rfl (hb hby at_23) rfl (l' := #[.val (.int p0), .val (.int (p0 &&& (3 : Int32))), .val (.ref (pk w_LEFT w_RIGHT w_TOP w_BOTTOM (p0 &&& (3 : Int32)))), .val (.int (1 : Int32))]) rfl ?_
        show Steps p.tables e below (T12.setTop (mkF m 24 #[.val (.int p0), .val (.int (p0 &&& (3 : Int32))), .val (.ref (pk w_LEFT w_RIGHT w_TOP w_BOTTOM (p0 &&& (3 : Int32)))), .val (.int (1 : Int32))] [])) _
        refine XS.aloadN X12.here hx rfl (hb hby at_24) rfl rfl ?_
        show Steps p.tables e below (T12.setTop (mkF m 25 #[.val (.int p0), .val (.int (p0 &&& (3 : Int32))), .val (.ref (pk w_LEFT w_RIGHT w_TOP w_BOTTOM (p0 &&& (3 : Int32)))), .val (.int (1 : Int32))] [(.ref (pk w_LEFT w_RIGHT w_TOP w_BOTTOM (p0 &&& (3 : Int32))))])) _
        refine st16.trans ?_
        show Steps p.tables e below (T16.setTop (mkF m 28 #[.val (.int p0), .val (.int (p0 &&& (3 : Int32))), .val (.ref (pk w_LEFT w_RIGHT w_TOP w_BOTTOM (p0 &&& (3 : Int32)))), .val (.int (1 : Int32))] [(.int (isF w_LEFT w_RIGHT (pk w_LEFT w_RIGHT w_TOP w_BOTTOM (p0 &&& (3 : Int32)))))])) _
        refine XS.iloadN X16.here hx rfl (hb hby at_28) rfl ?_
        exact k
      refine own_go (A' := (T16.setTop (mkF m 32 #[.val (.int p0), .val (.int (p0 &&& (3 : Int32))), .val (.ref (pk w_LEFT w_RIGHT w_TOP w_BOTTOM (p0 &&& (3 : Int32)))), .val (.int (1 : Int32))] []))) (fun t k => XS.icmpNo X16.here hx rfl (hb hby at_29) rfl (teq (by rw [own_key (own_fld_ne O_LEFT_ordinal O_RIGHT_ordinal (by decide)) (own_fld_ne O_RIGHT_ordinal O_LEFT_ordinal (by decide)) (own_fld_ne O_TOP_ordinal O_LEFT_ordinal (by decide)) (own_fld_ne O_TOP_ordinal O_RIGHT_ordinal (by decide)) (own_fld_ne O_BOTTOM_ordinal O_LEFT_ordinal (by decide)) (own_fld_ne O_BOTTOM_ordinal O_RIGHT_ordinal (by decide)) _, exF, if_neg hc13, if_pos hc15])).2 k) ?_
      refine own_go (A' := (T16.setTop (mkF m 37 #[.val (.int p0), .val (.int (p0 &&& (3 : Int32))), .val (.ref (pk w_LEFT w_RIGHT w_TOP w_BOTTOM (p0 &&& (3 : Int32)))), .val (.int (1 : Int32))] [(.int (1 : Int32))]))) (fun t k => ?_) ?_
      · show Steps p.tables e below (T16.setTop (mkF m 32 #[.val (.int p0), .val (.int (p0 &&& (3 : Int32))), .val (.ref (pk w_LEFT w_RIGHT w_TOP w_BOTTOM (p0 &&& (3 : Int32)))), .val (.int (1 : Int32))] [])) _
        refine XS.iconst X16.here hx rfl (hb hby at_32) ?_
        show Steps p.tables e below (T16.setTop (mkF m 33 #[.val (.int p0), .val (.int (p0 &&& (3 : Int32))), .val (.ref (pk w_LEFT w_RIGHT w_TOP w_BOTTOM (p0 &&& (3 : Int32)))), .val (.int (1 : Int32))] [(.int (1 : Int32))])) _
        refine XS.goto X16.here hx rfl (pc0 := 33) (pc' := 37) rfl (hb hby at_33) (by decide) (by decide) ?_
        exact k
      obtain ⟨fs, hr, hrun, hended, hW, hsame⟩ := X16.leave (v := some (.int (1 : Int32))) (fun h => by rw [Bd.returns] at h; cases h)
      refine ⟨_, _, ?_, hrun, hended, _, _, rfl, ?_, ⟨_, rfl⟩, hW, hsame.mono (by decide) (by decide)⟩
      · show Steps p.tables e below (T16.setTop (mkF m 37 #[.val (.int p0), .val (.int (p0 &&& (3 : Int32))), .val (.ref (pk w_LEFT w_RIGHT w_TOP w_BOTTOM (p0 &&& (3 : Int32)))), .val (.int (1 : Int32))] [(.int (1 : Int32))])) _
        exact retN X16 hx (t := .boolean) Bd.returns (by simp) (hb hby at_37) hr
      · show Q0 Z p0 w_LEFT w_BOTTOM w_RIGHT w_TOP h0 n0 _ _ _
        exact ⟨rfl, N16⟩
    · -- hc15: no
      refine own_go (A' := (T12.setTop (mkF m 22 #[.val (.int p0), .val (.int (p0 &&& (3 : Int32))), .val (.ref (pk w_LEFT w_RIGHT w_TOP w_BOTTOM (p0 &&& (3 : Int32)))), .unset] []))) (fun t k => XS.icmpYes X12.here hx rfl (pc0 := 15) (pc' := 22) rfl (hb hby at_15) rfl (feq hc15).2 (by decide) (by decide) k) ?_
      obtain ⟨cq17, kq17, q17a, q17b, q17c⟩ := isOf hZ e12 (pk_exa _ E_LEFT E_RIGHT E_TOP E_BOTTOM)
      obtain ⟨_, _, ⟨T17, L17, k17, n17⟩, -, X17, ⟨Lc17, hQ17, l17, y17, z17⟩, st17⟩ := X12.virtualBack hx (y := (⟨"com/example/reactions_to_maps/reactionstomaps/layout/Side", "upAndDown", "()Z"⟩ : MethodName)) (z := (⟨"com/example/reactions_to_maps/reactionstomaps/layout/Side", "upAndDown", "()Z"⟩ : MethodName)) hown (mvT hZ (hw _ (List.mem_of_getElem? (i := 7) rfl))) (mvT hZ (hw _ (List.mem_of_getElem? (i := 8) rfl))) (notFace_of_selects (args := #[]) (mvT hZ (hw _ (List.mem_of_getElem? (i := 10) rfl)))) (mvT hZ (hw _ (List.mem_of_getElem? (i := 10) rfl))) (mvT hZ (hw _ (List.mem_of_getElem? (i := 9) rfl))) (by decide) (backOf (W := 0) (rm2 l Z a0 hw [] (pk w_LEFT w_RIGHT w_TOP w_BOTTOM (p0 &&& (3 : Int32))) w_LEFT w_BOTTOM w_RIGHT w_TOP h0 n0 Z0 S_LEFT S_BOTTOM S_RIGHT S_TOP E_LEFT E_BOTTOM E_RIGHT E_TOP O_LEFT_ordinal O_BOTTOM_ordinal O_RIGHT_ordinal O_TOP_ordinal) hZ (hw _ (List.mem_of_getElem? (i := 11) rfl)) (hw _ (List.mem_of_getElem? (i := 5) rfl)) (by decide) (by decide)) q17a q17c (g := (mkF m 25 #[.val (.int p0), .val (.int (p0 &&& (3 : Int32))), .val (.ref (pk w_LEFT w_RIGHT w_TOP w_BOTTOM (p0 &&& (3 : Int32)))), .val (.int (0 : Int32))] [(.ref (pk w_LEFT w_RIGHT w_TOP w_BOTTOM (p0 &&& (3 : Int32))))])) rfl (by rw [hml]; rfl) (Steps.refl _) (argsL := []) (rest := []) (lenOf pd_1 rfl) rfl (by show 2 * 0 + _ ≤ _; exact Nat.le_of_eq rfl) (hb hby at_25) (fun _ _ => ⟨rfl, e12, (by decide : 0 + 0 ≤ _), (by decide : 0 + 0 ≤ _)⟩)
      dsimp only [Pt.U, Pt.locs, Pt.cells, Pt.slots] at X17 l17 y17 z17 st17 hQ17
      subst l17 y17 z17
      obtain ⟨rfl, N17q, e17⟩ := hQ17
      have N17 := Fr.app N12 N17q
      refine own_go (A' := (T17.setTop (mkF m 29 #[.val (.int p0), .val (.int (p0 &&& (3 : Int32))), .val (.ref (pk w_LEFT w_RIGHT w_TOP w_BOTTOM (p0 &&& (3 : Int32)))), .val (.int (0 : Int32))] [(.int (0 : Int32)), (.int (isF w_LEFT w_RIGHT (pk w_LEFT w_RIGHT w_TOP w_BOTTOM (p0 &&& (3 : Int32)))))]))) (fun t k => ?_) ?_
      · show Steps p.tables e below (T12.setTop (mkF m 22 #[.val (.int p0), .val (.int (p0 &&& (3 : Int32))), .val (.ref (pk w_LEFT w_RIGHT w_TOP w_BOTTOM (p0 &&& (3 : Int32)))), .unset] [])) _
        refine XS.iconst X12.here hx rfl (hb hby at_22) ?_
        show Steps p.tables e below (T12.setTop (mkF m 23 #[.val (.int p0), .val (.int (p0 &&& (3 : Int32))), .val (.ref (pk w_LEFT w_RIGHT w_TOP w_BOTTOM (p0 &&& (3 : Int32)))), .unset] [(.int (0 : Int32))])) _
        refine XS.istoreN X12.here hx rfl (hb hby at_23) rfl (l' := #[.val (.int p0), .val (.int (p0 &&& (3 : Int32))), .val (.ref (pk w_LEFT w_RIGHT w_TOP w_BOTTOM (p0 &&& (3 : Int32)))), .val (.int (0 : Int32))]) rfl ?_
        show Steps p.tables e below (T12.setTop (mkF m 24 #[.val (.int p0), .val (.int (p0 &&& (3 : Int32))), .val (.ref (pk w_LEFT w_RIGHT w_TOP w_BOTTOM (p0 &&& (3 : Int32)))), .val (.int (0 : Int32))] [])) _
        refine XS.aloadN X12.here hx rfl (hb hby at_24) rfl rfl ?_
        show Steps p.tables e below (T12.setTop (mkF m 25 #[.val (.int p0), .val (.int (p0 &&& (3 : Int32))), .val (.ref (pk w_LEFT w_RIGHT w_TOP w_BOTTOM (p0 &&& (3 : Int32)))), .val (.int (0 : Int32))] [(.ref (pk w_LEFT w_RIGHT w_TOP w_BOTTOM (p0 &&& (3 : Int32))))])) _
        refine st17.trans ?_
        show Steps p.tables e below (T17.setTop (mkF m 28 #[.val (.int p0), .val (.int (p0 &&& (3 : Int32))), .val (.ref (pk w_LEFT w_RIGHT w_TOP w_BOTTOM (p0 &&& (3 : Int32)))), .val (.int (0 : Int32))] [(.int (isF w_LEFT w_RIGHT (pk w_LEFT w_RIGHT w_TOP w_BOTTOM (p0 &&& (3 : Int32)))))])) _
        refine XS.iloadN X17.here hx rfl (hb hby at_28) rfl ?_
        exact k
      refine own_go (A' := (T17.setTop (mkF m 32 #[.val (.int p0), .val (.int (p0 &&& (3 : Int32))), .val (.ref (pk w_LEFT w_RIGHT w_TOP w_BOTTOM (p0 &&& (3 : Int32)))), .val (.int (0 : Int32))] []))) (fun t k => XS.icmpNo X17.here hx rfl (hb hby at_29) rfl (teq (by rw [own_key (own_fld_ne O_LEFT_ordinal O_RIGHT_ordinal (by decide)) (own_fld_ne O_RIGHT_ordinal O_LEFT_ordinal (by decide)) (own_fld_ne O_TOP_ordinal O_LEFT_ordinal (by decide)) (own_fld_ne O_TOP_ordinal O_RIGHT_ordinal (by decide)) (own_fld_ne O_BOTTOM_ordinal O_LEFT_ordinal (by decide)) (own_fld_ne O_BOTTOM_ordinal O_RIGHT_ordinal (by decide)) _, exF, if_neg hc13, if_neg hc15])).2 k) ?_
      refine own_go (A' := (T17.setTop (mkF m 37 #[.val (.int p0), .val (.int (p0 &&& (3 : Int32))), .val (.ref (pk w_LEFT w_RIGHT w_TOP w_BOTTOM (p0 &&& (3 : Int32)))), .val (.int (0 : Int32))] [(.int (1 : Int32))]))) (fun t k => ?_) ?_
      · show Steps p.tables e below (T17.setTop (mkF m 32 #[.val (.int p0), .val (.int (p0 &&& (3 : Int32))), .val (.ref (pk w_LEFT w_RIGHT w_TOP w_BOTTOM (p0 &&& (3 : Int32)))), .val (.int (0 : Int32))] [])) _
        refine XS.iconst X17.here hx rfl (hb hby at_32) ?_
        show Steps p.tables e below (T17.setTop (mkF m 33 #[.val (.int p0), .val (.int (p0 &&& (3 : Int32))), .val (.ref (pk w_LEFT w_RIGHT w_TOP w_BOTTOM (p0 &&& (3 : Int32)))), .val (.int (0 : Int32))] [(.int (1 : Int32))])) _
        refine XS.goto X17.here hx rfl (pc0 := 33) (pc' := 37) rfl (hb hby at_33) (by decide) (by decide) ?_
        exact k
      obtain ⟨fs, hr, hrun, hended, hW, hsame⟩ := X17.leave (v := some (.int (1 : Int32))) (fun h => by rw [Bd.returns] at h; cases h)
      refine ⟨_, _, ?_, hrun, hended, _, _, rfl, ?_, ⟨_, rfl⟩, hW, hsame.mono (by decide) (by decide)⟩
      · show Steps p.tables e below (T17.setTop (mkF m 37 #[.val (.int p0), .val (.int (p0 &&& (3 : Int32))), .val (.ref (pk w_LEFT w_RIGHT w_TOP w_BOTTOM (p0 &&& (3 : Int32)))), .val (.int (0 : Int32))] [(.int (1 : Int32))])) _
        exact retN X17 hx (t := .boolean) Bd.returns (by simp) (hb hby at_37) hr
      · show Q0 Z p0 w_LEFT w_BOTTOM w_RIGHT w_TOP h0 n0 _ _ _
        exact ⟨rfl, N17⟩
theorem own_eqint {t : Term} {k : Int32} {args : Array Value} {first s : State} {o : Option Outcome} {idx : List Nat} (h : (Jvm.Cond.eq t (.int k)).value args first o s idx = some true) : t.eval args first o idx s = some (.int k) := by
  cases ht : t.eval args first o idx s with
  | none => simp [Cond.value, Term.eval, ht] at h
  | some x => cases x <;> simp [Cond.value, Term.eval, ht] at h; subst h; rfl
set_option maxRecDepth 65536 in
set_option maxHeartbeats 40000000 in
theorem comes_1 {Post : Tables → Env → Array Value → State → Outcome → State → Prop} (hpost : ∀ tb e args s v u, (limb_1_1.after args s (.returned v) u = true ∧ limb_1_2.after args s (.returned v) u = true ∧ True) → FrameEnd s (.returned v) u (Jvm.fieldLocs frame_1_writes args s ++ Jvm.arrayLocs frame_1_arrays args s ++ Jvm.staticLocs frame_1_statics s) 0 0 → Post tb e args s (.returned v) u) :
    ArmFor flags0 classFile x code maxLocals ret World_1 tables_1 room_1 Calls_1 rest_1 Pre_1 Post := by
  intro l hfl _ _ p e ha hc hk s m args below hf hA hF happ hP
  obtain ⟨hcalls, hrest, hpre⟩ := hP
  obtain ⟨-, -, -, hnamed, -, -, -, hat⟩ := (Spec.applies_iff hf).mp happ
  obtain ⟨hg, hn⟩ := and_e (Cond.before_iff.mp (show (Jvm.Cond.and given_1 narrow_1).before args s = true from hpre))
  have hv0 := (and_e hg).2
  obtain ⟨w0, rfl⟩ : ∃ w0 : Value, args = #[w0] := by
    have hs : args.size = 1 := by simpa [Cond.value, given_1] using (and_e hg).1
    obtain ⟨L⟩ := args
    match L, hs with
    | [w0], _ => exact ⟨w0, rfl⟩
  have hw := fun d (hd : d ∈ tables_1) => atoms_spec (ws := Jvm.Cond.code x code maxLocals ret :: tables_1) hat d (List.mem_cons_of_mem _ hd)
  have hfit : Fit s := fun {y c} hc i hi => by
    obtain ⟨ha, rfl⟩ := Array.getElem?_eq_some_iff.mp hc
    have q := List.all_eq_true.mp ((Array.all_eq_true_iff_forall_mem.mp hF) _ (Array.getElem_mem ha)) i (List.mem_range.mpr hi)
    simpa [Array.getElem?_eq_getElem hi] using q
  obtain ⟨i0, ei0⟩ := is_v hv0
  obtain rfl : w0 = (.int i0) := Option.some.inj ei0
  have hx_LEFT := (and_e hn).1
  obtain ⟨w_LEFT, ev_LEFT⟩ := exa_v hx_LEFT
  have S_LEFT : Sta s s.heap "com/example/reactions_to_maps/reactionstomaps/layout/Side" "LEFT" "Lcom/example/reactions_to_maps/reactionstomaps/layout/Side;" (.ref w_LEFT) := Sta.start ev_LEFT (Or.inr ⟨(hw _ (List.mem_of_getElem? (i := 5) rfl)), (hw _ (List.mem_of_getElem? (i := 6) rfl))⟩)
  have E_LEFT : Exa s s.heap w_LEFT "com/example/reactions_to_maps/reactionstomaps/layout/Side" := Exa.start ev_LEFT hx_LEFT
  have O_LEFT_ordinal : Fld s s.heap w_LEFT "java/lang/Enum" "ordinal" "I" (.int (0 : Int32)) := Fld.start ((fld_at ev_LEFT).symm.trans (own_eqint (and_e (and_e (and_e (and_e hn).2).2).2).1))
  have hx_BOTTOM := (and_e (and_e hn).2).1
  obtain ⟨w_BOTTOM, ev_BOTTOM⟩ := exa_v hx_BOTTOM
  have S_BOTTOM : Sta s s.heap "com/example/reactions_to_maps/reactionstomaps/layout/Side" "BOTTOM" "Lcom/example/reactions_to_maps/reactionstomaps/layout/Side;" (.ref w_BOTTOM) := Sta.start ev_BOTTOM (Or.inr ⟨(hw _ (List.mem_of_getElem? (i := 5) rfl)), (hw _ (List.mem_of_getElem? (i := 14) rfl))⟩)
  have E_BOTTOM : Exa s s.heap w_BOTTOM "com/example/reactions_to_maps/reactionstomaps/layout/Side" := Exa.start ev_BOTTOM hx_BOTTOM
  have O_BOTTOM_ordinal : Fld s s.heap w_BOTTOM "java/lang/Enum" "ordinal" "I" (.int (3 : Int32)) := Fld.start ((fld_at ev_BOTTOM).symm.trans (own_eqint (and_e (and_e (and_e hn).2).2).1))
  have hx_RIGHT := (and_e (and_e (and_e (and_e (and_e hn).2).2).2).2).1
  obtain ⟨w_RIGHT, ev_RIGHT⟩ := exa_v hx_RIGHT
  have S_RIGHT : Sta s s.heap "com/example/reactions_to_maps/reactionstomaps/layout/Side" "RIGHT" "Lcom/example/reactions_to_maps/reactionstomaps/layout/Side;" (.ref w_RIGHT) := Sta.start ev_RIGHT (Or.inr ⟨(hw _ (List.mem_of_getElem? (i := 5) rfl)), (hw _ (List.mem_of_getElem? (i := 16) rfl))⟩)
  have E_RIGHT : Exa s s.heap w_RIGHT "com/example/reactions_to_maps/reactionstomaps/layout/Side" := Exa.start ev_RIGHT hx_RIGHT
  have O_RIGHT_ordinal : Fld s s.heap w_RIGHT "java/lang/Enum" "ordinal" "I" (.int (1 : Int32)) := Fld.start ((fld_at ev_RIGHT).symm.trans (own_eqint (and_e (and_e (and_e (and_e (and_e (and_e hn).2).2).2).2).2).1))
  have hx_TOP := (and_e (and_e (and_e (and_e (and_e (and_e (and_e hn).2).2).2).2).2).2).1
  obtain ⟨w_TOP, ev_TOP⟩ := exa_v hx_TOP
  have S_TOP : Sta s s.heap "com/example/reactions_to_maps/reactionstomaps/layout/Side" "TOP" "Lcom/example/reactions_to_maps/reactionstomaps/layout/Side;" (.ref w_TOP) := Sta.start ev_TOP (Or.inr ⟨(hw _ (List.mem_of_getElem? (i := 5) rfl)), (hw _ (List.mem_of_getElem? (i := 18) rfl))⟩)
  have E_TOP : Exa s s.heap w_TOP "com/example/reactions_to_maps/reactionstomaps/layout/Side" := Exa.start ev_TOP hx_TOP
  have O_TOP_ordinal : Fld s s.heap w_TOP "java/lang/Enum" "ordinal" "I" (.int (2 : Int32)) := Fld.start ((fld_at ev_TOP).symm.trans (own_eqint (and_e (and_e (and_e (and_e (and_e (and_e (and_e hn).2).2).2).2).2).2).2))
  obtain ⟨n, o, h1, h2, h3, _, L, rfl, ⟨rfl, N⟩, hq⟩ := rm0 l s _ hw tables_1 i0 w_LEFT w_BOTTOM w_RIGHT w_TOP s.heap s.heap.size (Nat.le_refl _) S_LEFT S_BOTTOM S_RIGHT S_TOP E_LEFT E_BOTTOM E_RIGHT E_TOP O_LEFT_ordinal O_BOTTOM_ordinal O_RIGHT_ordinal O_TOP_ordinal p e ha hc hk s m _ below hf ((Spec.applies_iff_loose hf).mp happ).1 ⟨rfl, State.Warmed39.refl s, rfl⟩ trivial
  refine ⟨n, _, h1, h2, h3, hpost _ _ _ _ _ _ ⟨Cond.after_iff.mpr rfl, Cond.after_iff.mpr (eq_i res_at (Term.int_eval (1)) rfl), trivial⟩ ⟨hq.1, hq.2.1, (hq.2.2.sift fun y hy => Or.inr (N y hy)).mono (by decide) (by decide)⟩⟩
theorem main_1_1 : Claimed_1_1 := comes_1 fun _ _ _ _ _ _ h hF => ⟨h.1, hF⟩
theorem main_1_2 : Claimed_1_2 := comes_1 fun _ _ _ _ _ _ h hF => ⟨h.2.1, hF⟩
end Jvm.Pilot.@@N@@
namespace Jvm.Pilot.@@N@@
open Jvm Jvm.ClassFile Sem Op Lib Jvm.Free Jvm.Stand Jvm.Pilot.@@N@@.Jvm.D
/-! MADE BY PROGRAM (witnessworld.py) out of the Statement's table words and the real class files: 12 classes; the members and pool entries that the words name. The judged class is class 1, her method 2. -/
namespace start1
open Jvm.ClassFile
def u (s : String) : CpInfo := .utf8 (stringToUtf16 s)
/-- a pool by its gaps: so many unusable entries, then the entry; so many at the end -/
def gap : Nat → List CpInfo → List CpInfo
  | 0, r => r
  | n + 1, r => .unusable :: gap n r
def poolList (es : List (Nat × CpInfo)) (last : Nat) : List CpInfo := es.foldr (fun e r => gap e.1 (e.2 :: r)) (gap last [])
def pool (es : List (Nat × CpInfo)) (last : Nat) : Array CpInfo := ⟨poolList es last⟩
def fileOf (pool : Array CpInfo) (this : Nat) (attrs : Array Attribute := #[]) (ms : Array MethodInfo := #[]) (fl : Nat := 33) (sup : Nat := 0) (ifs : Array Nat := #[]) (fds : Array FieldInfo := #[]) : ClassFile where
  minorVersion := 0
  majorVersion := 65
  constantPool := pool
  accessFlags := fl
  thisClass := this
  superClass := sup
  interfaces := ifs
  fields := fds
  methods := ms
  attributes := attrs
def plain (name : String) (sup : Option ClassId) : Class where
  name := name
  kind := .ordinary
  loader := none
  accessFlags := 33
  super := sup
  interfaces := #[]
  cf := none
  fields := #[]
  methods := #[]
  instanceTypes := #[]
  staticTypes := #[]
  resolved := #[]
  callSites := []
  init := .initialized
  statics := none
  mirror := none

def pool0 : Array CpInfo := pool [(5, u "<init>"), (0, u "()V"), (1, .class_ 10), (1, u "java/lang/Object")] 113

def k0m0 : Method := { name := "<init>", desc := "()V", sig := { parameters := [], returnType := none }, accessFlags := 1, code := none }
/-- java/lang/Object -/
def k0 : Class := { plain "java/lang/Object" none with
  accessFlags := 33
  interfaces := #[]
  cf := some (fileOf pool0 8 #[] #[{ accessFlags := 1, nameIndex := 5, descriptorIndex := 6, attributes := #[] }] 33 0 #[] #[])
  fields := #[]
  methods := #[k0m0]
  instanceTypes := #[]
  staticTypes := #[]
  resolved := Array.replicate 124 none
  statics := none }

def pool1 : Array CpInfo := pool [(2, .class_ 4), (1, u "java/lang/Object"), (0, u "<init>"), (0, u "()V"), (0, .fieldref 8 9), (0, .class_ 10), (0, .nameAndType 11 12), (0, u "com/example/reactions_to_maps/reactionstomaps/layout/Side"), (0, u "LEFT"), (0, u "Lcom/example/reactions_to_maps/reactionstomaps/layout/Side;"), (0, .fieldref 8 14), (0, .nameAndType 15 12), (0, u "RIGHT"), (0, .fieldref 8 17), (0, .nameAndType 18 12), (0, u "TOP"), (0, .fieldref 8 20), (0, .nameAndType 21 12), (0, u "BOTTOM"), (0, .methodref 23 24), (0, .class_ 25), (0, .nameAndType 26 27), (0, u "com/example/reactions_to_maps/reactionstomaps/layout/SideUpAndDownPinLaw"), (0, u "pick"), (0, u "(I)Lcom/example/reactions_to_maps/reactionstomaps/layout/Side;"), (0, .methodref 8 29), (0, .nameAndType 30 31), (0, u "upAndDown"), (0, u "()Z"), (3, u "law"), (0, u "(I)Z")] 2

def k1m0 : Method := { name := "<init>", desc := "()V", sig := { parameters := [], returnType := none }, accessFlags := 2, code := none }
def k1c1 : Code := { maxStack := 2, maxLocals := 1, code := method_2_code, exceptionTable := #[], attributes := #[] }
def k1m1 : Method := { name := "pick", desc := "(I)Lcom/example/reactions_to_maps/reactionstomaps/layout/Side;", sig := { parameters := [.int], returnType := some (.object "com/example/reactions_to_maps/reactionstomaps/layout/Side") }, accessFlags := 10, code := some k1c1 }
def k1c2 : Code := { maxStack := 2, maxLocals := 4, code := code, exceptionTable := #[], attributes := #[] }
def k1m2 : Method := { name := "law", desc := "(I)Z", sig := { parameters := [.int], returnType := some .boolean }, accessFlags := 9, code := some k1c2 }
/-- com/example/reactions_to_maps/reactionstomaps/layout/SideUpAndDownPinLaw -/
def k1 : Class := { plain "com/example/reactions_to_maps/reactionstomaps/layout/SideUpAndDownPinLaw" (some 0) with
  accessFlags := 49
  interfaces := #[]
  cf := some (fileOf pool1 23 #[] #[{ accessFlags := 2, nameIndex := 5, descriptorIndex := 6, attributes := #[] }, { accessFlags := 10, nameIndex := 26, descriptorIndex := 27, attributes := #[] }, { accessFlags := 9, nameIndex := 35, descriptorIndex := 36, attributes := #[] }] 49 2 #[] #[])
  fields := #[]
  methods := #[k1m0, k1m1, k1m2]
  instanceTypes := #[]
  staticTypes := #[]
  resolved := Array.replicate 39 none
  statics := none }

def pool2 : Array CpInfo := pool [(1, .class_ 2), (0, u "java/lang/constant/Constable"), (0, .class_ 4), (0, u "java/lang/Object")] 6

/-- java/lang/constant/Constable -/
def k2 : Class := { plain "java/lang/constant/Constable" (some 0) with
  accessFlags := 1537
  interfaces := #[]
  cf := some (fileOf pool2 1 #[] #[] 1537 3 #[] #[])
  fields := #[]
  methods := #[]
  instanceTypes := #[]
  staticTypes := #[]
  resolved := Array.replicate 11 none
  statics := none }

def pool3 : Array CpInfo := pool [(1, .class_ 2), (0, u "java/lang/Comparable"), (0, .class_ 4), (0, u "java/lang/Object")] 7

/-- java/lang/Comparable -/
def k3 : Class := { plain "java/lang/Comparable" (some 0) with
  accessFlags := 1537
  interfaces := #[]
  cf := some (fileOf pool3 1 #[] #[] 1537 3 #[] #[])
  fields := #[]
  methods := #[]
  instanceTypes := #[]
  staticTypes := #[]
  resolved := Array.replicate 12 none
  statics := none }

def pool4 : Array CpInfo := pool [(1, .class_ 2), (0, u "java/io/Serializable"), (0, .class_ 4), (0, u "java/lang/Object")] 2

/-- java/io/Serializable -/
def k4 : Class := { plain "java/io/Serializable" (some 0) with
  accessFlags := 1537
  interfaces := #[]
  cf := some (fileOf pool4 1 #[] #[] 1537 3 #[] #[])
  fields := #[]
  methods := #[]
  instanceTypes := #[]
  staticTypes := #[]
  resolved := Array.replicate 7 none
  statics := none }

def pool5 : Array CpInfo := pool [(2, .class_ 4), (1, u "java/lang/Enum"), (0, u "name"), (0, u "Ljava/lang/String;"), (2, u "ordinal"), (0, u "I"), (1, .class_ 14), (1, u "java/lang/Object"), (4, u "hash"), (86, .class_ 108), (1, u "java/lang/Enum$EnumDesc"), (2, .class_ 112), (0, u "java/lang/constant/Constable"), (0, .class_ 114), (0, u "java/lang/Comparable"), (0, .class_ 116), (0, u "java/io/Serializable")] 87

/-- java/lang/Enum -/
def k5 : Class := { plain "java/lang/Enum" (some 0) with
  accessFlags := 1057
  interfaces := #[2, 3, 4]
  cf := some (fileOf pool5 2 #[.nestMembers #[106]] #[] 1057 12 #[111, 113, 115] #[{ accessFlags := 18, nameIndex := 5, descriptorIndex := 6, attributes := #[] }, { accessFlags := 18, nameIndex := 9, descriptorIndex := 10, attributes := #[] }, { accessFlags := 2, nameIndex := 19, descriptorIndex := 10, attributes := #[] }])
  fields := #[{ name := "name", type := (.object "java/lang/String"), accessFlags := 18, slot := 0, constantValue := 0 }, { name := "ordinal", type := .int, accessFlags := 18, slot := 1, constantValue := 0 }, { name := "hash", type := .int, accessFlags := 2, slot := 2, constantValue := 0 }]
  methods := #[]
  instanceTypes := #[(.object "java/lang/String"), .int, .int]
  staticTypes := #[]
  resolved := Array.replicate 204 none
  statics := none }

def pool6 : Array CpInfo := pool [(1, .class_ 2), (0, u "com/example/reactions_to_maps/reactionstomaps/layout/Side"), (0, .fieldref 1 4), (0, .nameAndType 5 6), (0, u "LEFT"), (0, u "Lcom/example/reactions_to_maps/reactionstomaps/layout/Side;"), (0, .fieldref 1 8), (0, .nameAndType 9 6), (0, u "RIGHT"), (2, u "TOP"), (2, u "BOTTOM"), (2, u "$VALUES"), (0, u "[Lcom/example/reactions_to_maps/reactionstomaps/layout/Side;"), (6, .class_ 28), (1, u "java/lang/Enum"), (22, u "upAndDown"), (0, u "()Z")] 5

def k6c0 : Code := { maxStack := 2, maxLocals := 1, code := prog_64_method_4_code, exceptionTable := #[], attributes := #[] }
def k6m0 : Method := { name := "upAndDown", desc := "()Z", sig := { parameters := [], returnType := some .boolean }, accessFlags := 0, code := some k6c0 }
/-- com/example/reactions_to_maps/reactionstomaps/layout/Side -/
def k6 : Class := { plain "com/example/reactions_to_maps/reactionstomaps/layout/Side" (some 5) with
  accessFlags := 16432
  interfaces := #[]
  cf := some (fileOf pool6 1 #[] #[{ accessFlags := 0, nameIndex := 51, descriptorIndex := 52, attributes := #[] }] 16432 26 #[] #[{ accessFlags := 16409, nameIndex := 5, descriptorIndex := 6, attributes := #[] }, { accessFlags := 16409, nameIndex := 9, descriptorIndex := 6, attributes := #[] }, { accessFlags := 16409, nameIndex := 12, descriptorIndex := 6, attributes := #[] }, { accessFlags := 16409, nameIndex := 15, descriptorIndex := 6, attributes := #[] }, { accessFlags := 4122, nameIndex := 18, descriptorIndex := 19, attributes := #[] }])
  fields := #[{ name := "LEFT", type := (.object "com/example/reactions_to_maps/reactionstomaps/layout/Side"), accessFlags := 16409, slot := 0, constantValue := 0 }, { name := "RIGHT", type := (.object "com/example/reactions_to_maps/reactionstomaps/layout/Side"), accessFlags := 16409, slot := 1, constantValue := 0 }, { name := "TOP", type := (.object "com/example/reactions_to_maps/reactionstomaps/layout/Side"), accessFlags := 16409, slot := 2, constantValue := 0 }, { name := "BOTTOM", type := (.object "com/example/reactions_to_maps/reactionstomaps/layout/Side"), accessFlags := 16409, slot := 3, constantValue := 0 }, { name := "$VALUES", type := (.array (.object "com/example/reactions_to_maps/reactionstomaps/layout/Side")), accessFlags := 4122, slot := 4, constantValue := 0 }]
  methods := #[k6m0]
  instanceTypes := #[(.object "java/lang/String"), .int, .int]
  staticTypes := #[(.object "com/example/reactions_to_maps/reactionstomaps/layout/Side"), (.object "com/example/reactions_to_maps/reactionstomaps/layout/Side"), (.object "com/example/reactions_to_maps/reactionstomaps/layout/Side"), (.object "com/example/reactions_to_maps/reactionstomaps/layout/Side"), (.array (.object "com/example/reactions_to_maps/reactionstomaps/layout/Side"))]
  resolved := Array.replicate 58 none
  statics := some 0 }

def pool7 : Array CpInfo := pool [(1, u "java/lang/Cloneable"), (0, .class_ 1), (0, u "java/lang/Object"), (0, .class_ 3)] 3

/-- java/lang/Cloneable -/
def k7 : Class := { plain "java/lang/Cloneable" (some 0) with
  accessFlags := 1537
  interfaces := #[]
  cf := some (fileOf pool7 2 #[] #[] 1537 4 #[] #[])
  fields := #[]
  methods := #[]
  instanceTypes := #[]
  staticTypes := #[]
  resolved := Array.replicate 8 none
  statics := none }

/-- the primitive byte -/
def k8 : Class := { plain "byte" none with kind := .primitive 'B', accessFlags := 0x411 }
/-- [B -/
def k9 : Class := { plain "[B" (some 0) with kind := .array 8 .byte, interfaces := #[7, 4], accessFlags := 1041 }

/-- the primitive int -/
def k10 : Class := { plain "int" none with kind := .primitive 'I', accessFlags := 0x411 }
/-- [I -/
def k11 : Class := { plain "[I" (some 0) with kind := .array 10 .int, interfaces := #[7, 4], accessFlags := 1041 }

def heap : Heap := #[{ cls := 6, slots := #[.ref 1, .ref 3, .ref 4, .ref 2, .null], vm := .statics 6 },
  { cls := 6, slots := #[.null, .int 0, .int 0], vm := .none },
  { cls := 6, slots := #[.null, .int 3, .int 0], vm := .none },
  { cls := 6, slots := #[.null, .int 1, .int 0], vm := .none },
  { cls := 6, slots := #[.null, .int 2, .int 0], vm := .none }]
def classes : Array Class := #[k0, k1, k2, k3, k4, k5, k6, k7, k8, k9, k10, k11]
def interned : List (Array UInt16 × Addr) := []
def slotsUsed : Nat := 17
def theMethod : MethodId := ⟨1, 2⟩
def args0 : Array Value := #[.int 5]
def aboutOver (below : List Frame) : State where
  vm := { classes := classes, interned := interned.toArray }
  heap := heap
  slotsUsed := slotsUsed
  threads := #[{ frames := .invoking theMethod args0 :: below }]
def below0 : List Frame := [.native { method := ⟨0, 0⟩, args := #[] }]
def about1 : State := aboutOver below0
def p0 : Program := .bare "" "" ""
def e0 : Env := launch0.env 0 0 0
theorem w_frames : about1.frames = Frame.invoking theMethod args0 :: below0 := rfl
set_option maxRecDepth 65536 in
theorem w_args : argsFit about1.vm theMethod args0 = true := by decide +kernel
set_option maxRecDepth 65536 in
theorem w_heap : heapFits about1 = true := by decide +kernel
set_option maxRecDepth 65536 in
theorem w_runnable : about1.curStatus? = some .runnable := by decide +kernel
set_option maxRecDepth 65536 in
theorem w_alone : about1.alone = true := by decide +kernel
set_option maxRecDepth 65536 in
theorem w_named : about1.methodNamed? x = some theMethod := by decide +kernel
set_option maxRecDepth 65536 in
theorem w_hears : about1.hears theMethod below0 = true := by decide +kernel
set_option maxRecDepth 65536 in
theorem w_ripe : about1.ripe theMethod args0 below0 = true := by decide +kernel
theorem w_running : about1.status = .running := rfl
set_option maxRecDepth 65536 in
theorem w_room : about1.hasRoom e0.platform room_1 = true :=
  launch0.hasRoom_least _ room_1 (by decide +kernel) (by decide +kernel) (by decide +kernel) (by decide +kernel) (by decide +kernel) (by decide +kernel)
theorem allAtoms_all (ts : List Jvm.Cond) (a : Array Jvm.Value) (st : Jvm.State) : (allAtoms ts).before a st = ts.all (fun c => c.before a st) := by
  induction ts with
  | nil => rfl
  | cons c t ih =>
    show (Jvm.Cond.and c (allAtoms t)).before a st = _
    rw [Jvm.Cond.before_and, ih, List.all_cons]
def words1 : List Jvm.Cond := Jvm.Cond.code x code maxLocals ret :: tables_1
/-- a 'code' word, met by the world's own term for the bytes: nothing is compared byte by byte -/
theorem code_word {y : MethodName} {bytes : ByteArray} {mx : Nat} {rt : Option FieldType} {a : Array Value} {s : State} {m : MethodId} {meth : Method} {c : Code} (h1 : s.methodNamed? y = some m) (h2 : s.vm.method? m = some meth) (h3 : meth.code = some c) (h4 : c.code = bytes)
    (h5 : (c.maxLocals == mx && c.exceptionTable.isEmpty && decide (c.maxStack ≤ mostOperands) && decide (meth.sig.returnType = rt) && !meth.locks && decide (parseMethodDescriptor y.desc = some meth.sig)) = true) : (Jvm.Cond.code y bytes mx rt).before a s = true := by
  simp only [Bool.and_eq_true, beq_iff_eq, Bool.not_eq_true', decide_eq_true_eq] at h5
  obtain ⟨⟨⟨⟨⟨g1, g2⟩, g3⟩, g4⟩, g5⟩, g6⟩ := h5
  simp [Cond.before, Cond.holds, Cond.value, h1, h2, h3, h4, g1, g2, g3, g4, g5, g6]
def isCode : Jvm.Cond → Bool
  | .code _ _ _ _ => true
  | _ => false
theorem all_split {L : List Jvm.Cond} {P : Jvm.Cond → Bool} (h1 : L.all (fun c => isCode c || P c) = true) (h2 : ∀ c ∈ L.filter isCode, P c = true) : L.all P = true := by
  refine List.all_eq_true.mpr fun c hc => ?_
  have h := List.all_eq_true.mp h1 c hc
  rcases Bool.eq_false_or_eq_true (isCode c) with hi | hi
  · exact h2 c (List.mem_filter.mpr ⟨hc, hi⟩)
  · simpa [hi] using h
set_option maxRecDepth 65536 in
theorem w_c0 : (Jvm.Cond.code x code maxLocals ret).before args0 about1 = true := code_word (m := ⟨1, 2⟩) (meth := k1m2) (c := k1c2) (by decide +kernel) rfl rfl rfl (by decide +kernel)
set_option maxRecDepth 65536 in
theorem w_c1 : (Jvm.Cond.code ({ cls := "com/example/reactions_to_maps/reactionstomaps/layout/SideUpAndDownPinLaw", name := "pick", desc := "(I)Lcom/example/reactions_to_maps/reactionstomaps/layout/Side;" } : Jvm.MethodName) method_2_code (1 : Nat) (Option.some (Jvm.ClassFile.FieldType.object "com/example/reactions_to_maps/reactionstomaps/layout/Side"))).before args0 about1 = true := code_word (m := ⟨1, 1⟩) (meth := k1m1) (c := k1c1) (by decide +kernel) rfl rfl rfl (by decide +kernel)
set_option maxRecDepth 65536 in
theorem w_c2 : (Jvm.Cond.code ({ cls := "com/example/reactions_to_maps/reactionstomaps/layout/Side", name := "upAndDown", desc := "()Z" } : Jvm.MethodName) prog_64_method_4_code (1 : Nat) (Option.some Jvm.ClassFile.FieldType.boolean)).before args0 about1 = true := code_word (m := ⟨6, 0⟩) (meth := k6m0) (c := k6c0) (by decide +kernel) rfl rfl rfl (by decide +kernel)
def codes1 : List Jvm.Cond := [Jvm.Cond.code x code maxLocals ret, Jvm.Cond.code ({ cls := "com/example/reactions_to_maps/reactionstomaps/layout/SideUpAndDownPinLaw", name := "pick", desc := "(I)Lcom/example/reactions_to_maps/reactionstomaps/layout/Side;" } : Jvm.MethodName) method_2_code (1 : Nat) (Option.some (Jvm.ClassFile.FieldType.object "com/example/reactions_to_maps/reactionstomaps/layout/Side")), Jvm.Cond.code ({ cls := "com/example/reactions_to_maps/reactionstomaps/layout/Side", name := "upAndDown", desc := "()Z" } : Jvm.MethodName) prog_64_method_4_code (1 : Nat) (Option.some Jvm.ClassFile.FieldType.boolean)]
set_option maxRecDepth 65536 in
theorem codes_eq : words1.filter isCode = codes1 := rfl
theorem w_codes : ∀ c ∈ words1.filter isCode, c.before args0 about1 = true := by
  rw [codes_eq]
  intro c hc
  simp only [codes1, List.mem_cons, List.not_mem_nil, or_false] at hc
  rcases hc with rfl | rfl | rfl
  · exact w_c0
  · exact w_c1
  · exact w_c2
set_option maxRecDepth 65536 in
theorem w_t1 : words1.all (fun c => isCode c || c.before args0 about1) = true := by decide +kernel
theorem w_tables : (allAtoms (Jvm.Cond.code x code maxLocals ret :: tables_1)).before args0 about1 = true := by
  rw [allAtoms_all]
  show words1.all (fun c => c.before args0 about1) = true
  refine all_split ?_ w_codes
  rw [w_t1]
set_option maxRecDepth 65536 in
theorem w_case : (Jvm.Cond.and given_1 narrow_1).before args0 about1 = true := by decide +kernel
theorem w_applies : (headSpec (Jvm.Cond.code x code maxLocals ret :: tables_1) room_1).applies x e0.platform about1 = true :=
  (Spec.applies_iff w_frames).mpr ⟨w_running, w_runnable, w_alone, w_named, w_hears, w_ripe, w_room, w_tables⟩
theorem atStart : AtStart classFile x code maxLocals ret World_1 tables_1 room_1 Calls_1 rest_1 Pre_1 launch0 p0 e0 about1 theMethod args0 below0 :=
  ⟨lists_1, trivial, launch0.admits_env _ _ _, launch0.least_env, fairChoices_fair.cas, fairChoices_fair.clock, w_frames, w_args, w_heap, w_applies, trivial, trivial, w_case⟩
end start1
theorem witness_1 : WitnessClaimed_1 := ⟨start1.p0, start1.e0, start1.about1, start1.theMethod, start1.args0, start1.below0, start1.atStart⟩
end Jvm.Pilot.@@N@@
