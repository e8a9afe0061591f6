import JvmDerived
import JvmDerived.Pilot.@@N@@Statement
import JvmDerived.Pilot.@@N@@Code
set_option linter.unusedVariables false
set_option linter.unusedSimpArgs false
namespace Jvm.RoadKit
open Sem ClassFile Op Lib Jvm.Stand Jvm.Free Jvm.LawKit
section New
variable {p : Program} {l : Launch} {e : Env} {R : Room} {s : State} {m : MethodId} {args : Array Value} {below : List Frame} {meth : Method} {c : Code} {T : State} {locs : List Loc} {cells slots : Nat}
theorem own_retV (X : Stand p l e R s m args below meth c T locs cells slots) (hx : p.tables.exec = Jvm.exec) {pc : Nat} {Ls : Array Slot} {w : Value} {rest : List Value} {t : FieldType} (hret : meth.sig.returnType = some t) (ht : t.isReference = true) (hw : w.isRef = true)
    (hd : decode c.code pc = .ok (.areturn, 1)) {fs : List Frame} (hl : ∀ (f : JFrame) (acts : List Action), f.method = m → f.locked = none → f.entered = [] → (doReturn e (T.setTop f) acts (some w)).1 = T.setFrames fs) :
    Steps p.tables e below (T.setTop (mkF m pc Ls (w :: rest))) (T.setFrames fs) :=
  retOut X hx hret (by cases t <;> first | rfl | cases ht) (Or.inr (Or.inr (Or.inr (Or.inr ⟨rfl, ht, hw⟩)))) hd hl
theorem own_retI (X : Stand p l e R s m args below meth c T locs cells slots) (hx : p.tables.exec = Jvm.exec) {pc : Nat} {Ls : Array Slot} {z : Int32} {rest : List Value} (hret : meth.sig.returnType = some .int)
    (hd : decode c.code pc = .ok (.ireturn, 1)) {fs : List Frame} (hl : ∀ (f : JFrame) (acts : List Action), f.method = m → f.locked = none → f.entered = [] → (doReturn e (T.setTop f) acts (some (.int z))).1 = T.setFrames fs) :
    Steps p.tables e below (T.setTop (mkF m pc Ls (.int z :: rest))) (T.setFrames fs) :=
  retOut X hx hret rfl (Or.inl ⟨rfl, Or.inl rfl, z, rfl⟩) hd hl
theorem own_retL (X : Stand p l e R s m args below meth c T locs cells slots) (hx : p.tables.exec = Jvm.exec) {pc : Nat} {Ls : Array Slot} {z : Int64} {rest : List Value} (hret : meth.sig.returnType = some .long)
    (hd : decode c.code pc = .ok (.lreturn, 1)) {fs : List Frame} (hl : ∀ (f : JFrame) (acts : List Action), f.method = m → f.locked = none → f.entered = [] → (doReturn e (T.setTop f) acts (some (.long z))).1 = T.setFrames fs) :
    Steps p.tables e below (T.setTop (mkF m pc Ls (.long z :: rest))) (T.setFrames fs) :=
  retOut X hx hret rfl (Or.inr (Or.inl ⟨rfl, rfl, z, rfl⟩)) hd hl
theorem own_go {tb : Tables} {e : Env} {below : List Frame} {A A' : State} {P : State → Outcome → Prop} (st : ∀ t, Steps tb e below A' t → Steps tb e below A t) (h : ∃ s₂ o, Steps tb e below A' s₂ ∧ P s₂ o) : ∃ s₂ o, Steps tb e below A s₂ ∧ P s₂ o :=
  let ⟨s₂, o, h1, h2⟩ := h
  ⟨s₂, o, st _ h1, h2⟩
theorem own_fld_inj {Z : State} {h : Heap} {a : Addr} {C n d : String} {v w : Value} (F : Fld Z h a C n d v) (G : Fld Z h a C n d w) : v = w := by
  obtain ⟨c1, cf1, k1, i1, f1, p1, p2, -, -, -, -, p5⟩ := F
  obtain ⟨c2, cf2, k2, i2, f2, q1, q2, -, -, -, -, q5⟩ := G
  rw [p1] at q1; cases q1
  rw [p2] at q2; cases q2
  have := p5.symm.trans q5
  simpa using this
theorem own_fld_ne {Z : State} {h : Heap} {a b : Addr} {C n d : String} {i j : Int32} (F : Fld Z h a C n d (.int i)) (G : Fld Z h b C n d (.int j)) (hij : ¬ i = j) : ¬ a = b := fun q => by
  subst q
  exact hij (Value.int.inj (own_fld_inj F G))
theorem own_keep_ext {h h' : Heap} (K : Keep h h' []) : Ext h h' := ⟨K.1, fun a c q => K.2.1 a c q nin0⟩
theorem own_sta_keep {Z : State} {h h' : Heap} {C n d K : String} {v : Value} {a : Addr} (F : Sta Z h C n d v) (k : Keep h h' [a]) (E : Exa Z h a K) : Sta Z h' C n d v := by
  obtain ⟨cf, i, kk, f, st, cell, h1, h2, h3, h4, h5, h6, h7⟩ := F
  refine ⟨cf, i, kk, f, st, cell, h1, h2, h3, h4, k.2.1 _ _ h5 (ninS (fun q => ?_) nin0), h6, h7⟩
  obtain ⟨cell', k', g1, -, -, g4, -⟩ := E
  subst q
  cases h5.symm.trans g1
  rw [h6] at g4; cases g4
theorem own_ext_trans {h h' h'' : Heap} (E : Ext h h') (F : Ext h' h'') : Ext h h'' := ⟨Nat.le_trans E.1 F.1, fun a c q => F.2 a c (E.2 a c q)⟩
theorem own_ext_keep {h h' h'' : Heap} {ws : List Addr} (E : Ext h h') (K : Keep h' h'' ws) (q : ∀ x ∈ ws, h.size ≤ x) : Ext h h'' :=
  ⟨Nat.le_trans E.1 K.1, fun a c r => K.2.1 a c (E.2 a c r) fun z => absurd (Array.getElem?_eq_some_iff.mp r).1 (Nat.not_lt.mpr (q a z))⟩
theorem own_ext_wr {h h' h'' : Heap} {b : Addr} {sl : Nat} {v : Value} (E : Ext h h') (W : Wr h' h'' b sl v) (q : h.size ≤ b) : Ext h h'' :=
  own_ext_keep E (Keep.of_wr W) fun x hx => by cases List.mem_singleton.mp hx; exact q
end New
end Jvm.RoadKit
namespace Jvm.Pilot.@@N@@
open Jvm Jvm.ClassFile Sem Op Lib Jvm.Free Jvm.Stand Jvm.LawKit Jvm.RoadKit Bundle Jvm.Pilot.@@N@@.Jvm.D
def pk (w_CHMOD w_CHOWN w_COPY w_MKDIR w_MOUNT w_RESTORECON w_RESTORECON_RECURSIVE w_RM w_RMDIR w_SETPROP w_SYMLINK w_UMOUNT w_WRITE : Addr) (k : Int32) : Addr := if k = (0 : Int32) then w_CHMOD else if k = (1 : Int32) then w_CHOWN else if k = (2 : Int32) then w_COPY else if k = (3 : Int32) then w_MKDIR else if k = (4 : Int32) then w_MOUNT else if k = (5 : Int32) then w_RESTORECON else if k = (6 : Int32) then w_RESTORECON_RECURSIVE else if k = (7 : Int32) then w_RM else if k = (8 : Int32) then w_RMDIR else if k = (9 : Int32) then w_SETPROP else if k = (10 : Int32) then w_SYMLINK else if k = (11 : Int32) then w_UMOUNT else w_WRITE
def isF (v u a : Addr) : Int32 := if a = v then 1 else if a = u then 1 else 0
def exF (k : Int32) : Int32 := if k = (3 : Int32) then 1 else if k = (4 : Int32) then 1 else 0
theorem pk_exa {Z : State} {h : Heap} {C : String} {w_CHMOD w_CHOWN w_COPY w_MKDIR w_MOUNT w_RESTORECON w_RESTORECON_RECURSIVE w_RM w_RMDIR w_SETPROP w_SYMLINK w_UMOUNT w_WRITE : Addr} (k : Int32) (e0 : Exa Z h w_CHMOD C) (e1 : Exa Z h w_CHOWN C) (e2 : Exa Z h w_COPY C) (e3 : Exa Z h w_MKDIR C) (e4 : Exa Z h w_MOUNT C) (e5 : Exa Z h w_RESTORECON C) (e6 : Exa Z h w_RESTORECON_RECURSIVE C) (e7 : Exa Z h w_RM C) (e8 : Exa Z h w_RMDIR C) (e9 : Exa Z h w_SETPROP C) (e10 : Exa Z h w_SYMLINK C) (e11 : Exa Z h w_UMOUNT C) (e12 : Exa Z h w_WRITE C) : Exa Z h (pk w_CHMOD w_CHOWN w_COPY w_MKDIR w_MOUNT w_RESTORECON w_RESTORECON_RECURSIVE w_RM w_RMDIR w_SETPROP w_SYMLINK w_UMOUNT w_WRITE k) C := by
  unfold pk
  by_cases h0 : k = (0 : Int32)
  · rw [if_pos h0]; exact e0
  rw [if_neg h0]
  by_cases h1 : k = (1 : Int32)
  · rw [if_pos h1]; exact e1
  rw [if_neg h1]
  by_cases h2 : k = (2 : Int32)
  · rw [if_pos h2]; exact e2
  rw [if_neg h2]
  by_cases h3 : k = (3 : Int32)
  · rw [if_pos h3]; exact e3
  rw [if_neg h3]
  by_cases h4 : k = (4 : Int32)
  · rw [if_pos h4]; exact e4
  rw [if_neg h4]
  by_cases h5 : k = (5 : Int32)
  · rw [if_pos h5]; exact e5
  rw [if_neg h5]
  by_cases h6 : k = (6 : Int32)
  · rw [if_pos h6]; exact e6
  rw [if_neg h6]
  by_cases h7 : k = (7 : Int32)
  · rw [if_pos h7]; exact e7
  rw [if_neg h7]
  by_cases h8 : k = (8 : Int32)
  · rw [if_pos h8]; exact e8
  rw [if_neg h8]
  by_cases h9 : k = (9 : Int32)
  · rw [if_pos h9]; exact e9
  rw [if_neg h9]
  by_cases h10 : k = (10 : Int32)
  · rw [if_pos h10]; exact e10
  rw [if_neg h10]
  by_cases h11 : k = (11 : Int32)
  · rw [if_pos h11]; exact e11
  rw [if_neg h11]
  exact e12
theorem own_small {k : Int32} (h0 : 0 ≤ k.toInt) (h1 : k.toInt < 13) : k = 0 ∨ k = 1 ∨ k = 2 ∨ k = 3 ∨ k = 4 ∨ k = 5 ∨ k = 6 ∨ k = 7 ∨ k = 8 ∨ k = 9 ∨ k = 10 ∨ k = 11 ∨ k = 12 := by
  simp only [← Int32.toInt_inj]
  have e0 : (0 : Int32).toInt = 0 := by decide
  have e1 : (1 : Int32).toInt = 1 := by decide
  have e2 : (2 : Int32).toInt = 2 := by decide
  have e3 : (3 : Int32).toInt = 3 := by decide
  have e4 : (4 : Int32).toInt = 4 := by decide
  have e5 : (5 : Int32).toInt = 5 := by decide
  have e6 : (6 : Int32).toInt = 6 := by decide
  have e7 : (7 : Int32).toInt = 7 := by decide
  have e8 : (8 : Int32).toInt = 8 := by decide
  have e9 : (9 : Int32).toInt = 9 := by decide
  have e10 : (10 : Int32).toInt = 10 := by decide
  have e11 : (11 : Int32).toInt = 11 := by decide
  have e12 : (12 : Int32).toInt = 12 := by decide
  rw [e0, e1, e2, e3, e4, e5, e6, e7, e8, e9, e10, e11, e12]
  omega
theorem own_rem (x : Int32) : 0 ≤ ((x &&& (2147483647 : Int32)) % (13 : Int32)).toInt ∧ ((x &&& (2147483647 : Int32)) % (13 : Int32)).toInt < 13 := by
  have h := c_mask x 2147483647 31 (by decide) (by decide)
  have g := (c_irem (x &&& (2147483647 : Int32)) 13 13 (by decide)).1 (by omega)
  rw [g]
  omega
theorem own_inb {k : Int32} (h0 : 0 ≤ k.toInt) (h1 : k.toInt < 13) : ¬ k < 0 ∧ k < (13 : Int32) := by
  have e0 : (0 : Int32).toInt = 0 := by decide
  have e1 : (13 : Int32).toInt = 13 := by decide
  rw [Int32.lt_iff_toInt_lt, Int32.lt_iff_toInt_lt, e0, e1]
  omega
theorem own_at {w_CHMOD w_CHOWN w_COPY w_MKDIR w_MOUNT w_RESTORECON w_RESTORECON_RECURSIVE w_RM w_RMDIR w_SETPROP w_SYMLINK w_UMOUNT w_WRITE : Addr} {k : Int32} (h : k = 0 ∨ k = 1 ∨ k = 2 ∨ k = 3 ∨ k = 4 ∨ k = 5 ∨ k = 6 ∨ k = 7 ∨ k = 8 ∨ k = 9 ∨ k = 10 ∨ k = 11 ∨ k = 12) : ([.ref w_CHMOD, .ref w_CHOWN, .ref w_COPY, .ref w_MKDIR, .ref w_MOUNT, .ref w_RESTORECON, .ref w_RESTORECON_RECURSIVE, .ref w_RM, .ref w_RMDIR, .ref w_SETPROP, .ref w_SYMLINK, .ref w_UMOUNT, .ref w_WRITE] : List Value).getD k.toNatClampNeg .null = .ref (pk w_CHMOD w_CHOWN w_COPY w_MKDIR w_MOUNT w_RESTORECON w_RESTORECON_RECURSIVE w_RM w_RMDIR w_SETPROP w_SYMLINK w_UMOUNT w_WRITE k) := by
  rcases h with rfl | rfl | rfl | rfl | rfl | rfl | rfl | rfl | rfl | rfl | rfl | rfl | rfl <;> rfl
theorem own_key {w_CHMOD w_CHOWN w_COPY w_MKDIR w_MOUNT w_RESTORECON w_RESTORECON_RECURSIVE w_RM w_RMDIR w_SETPROP w_SYMLINK w_UMOUNT w_WRITE : Addr} (n0_3 : ¬ w_CHMOD = w_MKDIR) (n0_4 : ¬ w_CHMOD = w_MOUNT) (n1_3 : ¬ w_CHOWN = w_MKDIR) (n1_4 : ¬ w_CHOWN = w_MOUNT) (n2_3 : ¬ w_COPY = w_MKDIR) (n2_4 : ¬ w_COPY = w_MOUNT) (n3_4 : ¬ w_MKDIR = w_MOUNT) (n4_3 : ¬ w_MOUNT = w_MKDIR) (n5_3 : ¬ w_RESTORECON = w_MKDIR) (n5_4 : ¬ w_RESTORECON = w_MOUNT) (n6_3 : ¬ w_RESTORECON_RECURSIVE = w_MKDIR) (n6_4 : ¬ w_RESTORECON_RECURSIVE = w_MOUNT) (n7_3 : ¬ w_RM = w_MKDIR) (n7_4 : ¬ w_RM = w_MOUNT) (n8_3 : ¬ w_RMDIR = w_MKDIR) (n8_4 : ¬ w_RMDIR = w_MOUNT) (n9_3 : ¬ w_SETPROP = w_MKDIR) (n9_4 : ¬ w_SETPROP = w_MOUNT) (n10_3 : ¬ w_SYMLINK = w_MKDIR) (n10_4 : ¬ w_SYMLINK = w_MOUNT) (n11_3 : ¬ w_UMOUNT = w_MKDIR) (n11_4 : ¬ w_UMOUNT = w_MOUNT) (n12_3 : ¬ w_WRITE = w_MKDIR) (n12_4 : ¬ w_WRITE = w_MOUNT) {k : Int32} (hk : k = 0 ∨ k = 1 ∨ k = 2 ∨ k = 3 ∨ k = 4 ∨ k = 5 ∨ k = 6 ∨ k = 7 ∨ k = 8 ∨ k = 9 ∨ k = 10 ∨ k = 11 ∨ k = 12) : isF w_MKDIR w_MOUNT (pk w_CHMOD w_CHOWN w_COPY w_MKDIR w_MOUNT w_RESTORECON w_RESTORECON_RECURSIVE w_RM w_RMDIR w_SETPROP w_SYMLINK w_UMOUNT w_WRITE k) = exF k := by
  rcases hk with rfl | rfl | rfl | rfl | rfl | rfl | rfl | rfl | rfl | rfl | rfl | rfl | rfl
  · show isF w_MKDIR w_MOUNT w_CHMOD = 0
    simp [isF, n0_3, n0_4]
  · show isF w_MKDIR w_MOUNT w_CHOWN = 0
    simp [isF, n1_3, n1_4]
  · show isF w_MKDIR w_MOUNT w_COPY = 0
    simp [isF, n2_3, n2_4]
  · show isF w_MKDIR w_MOUNT w_MKDIR = 1
    simp [isF, n3_4]
  · show isF w_MKDIR w_MOUNT w_MOUNT = 1
    simp [isF, n4_3]
  · show isF w_MKDIR w_MOUNT w_RESTORECON = 0
    simp [isF, n5_3, n5_4]
  · show isF w_MKDIR w_MOUNT w_RESTORECON_RECURSIVE = 0
    simp [isF, n6_3, n6_4]
  · show isF w_MKDIR w_MOUNT w_RM = 0
    simp [isF, n7_3, n7_4]
  · show isF w_MKDIR w_MOUNT w_RMDIR = 0
    simp [isF, n8_3, n8_4]
  · show isF w_MKDIR w_MOUNT w_SETPROP = 0
    simp [isF, n9_3, n9_4]
  · show isF w_MKDIR w_MOUNT w_SYMLINK = 0
    simp [isF, n10_3, n10_4]
  · show isF w_MKDIR w_MOUNT w_UMOUNT = 0
    simp [isF, n11_3, n11_4]
  · show isF w_MKDIR w_MOUNT w_WRITE = 0
    simp [isF, n12_3, n12_4]
theorem d1_0 : decode prog_132_method_10_code 0 = .ok (.aload_n 0, 1) := by decide +kernel
theorem d1_1 : decode prog_132_method_10_code 1 = .ok (.getstatic 13, 3) := by decide +kernel
theorem d1_4 : decode prog_132_method_10_code 4 = .ok (.if_acmp .eq 10, 3) := by decide +kernel
theorem d1_7 : decode prog_132_method_10_code 7 = .ok (.aload_n 0, 1) := by decide +kernel
theorem d1_8 : decode prog_132_method_10_code 8 = .ok (.getstatic 16, 3) := by decide +kernel
theorem d1_11 : decode prog_132_method_10_code 11 = .ok (.if_acmp .ne 7, 3) := by decide +kernel
theorem d1_14 : decode prog_132_method_10_code 14 = .ok (.iconst 1, 1) := by decide +kernel
theorem d1_15 : decode prog_132_method_10_code 15 = .ok (.goto 4, 3) := by decide +kernel
theorem d1_18 : decode prog_132_method_10_code 18 = .ok (.iconst 0, 1) := by decide +kernel
theorem d1_19 : decode prog_132_method_10_code 19 = .ok (.ireturn, 1) := by decide +kernel
theorem pn_1 : plainName "com/example/bounded_policy/boundedpolicy/service/VendorInitCommand" = true := by first | (simp [plainName, overriddenIn]; done) | decide +kernel
theorem ef_1 (m : MethodId) (r0 : Addr) : entryFrame m #[(.ref r0)] 1 = mkF m 0 #[.val (.ref r0)] [] := by first | (simp [entryFrame, mkF, argsToLocals, Value.category]; done) | rfl
def Q1 (Z : State) (r0 : Addr) (w_CHMOD : Addr) (w_CHOWN : Addr) (w_COPY : Addr) (w_MKDIR : Addr) (w_MOUNT : Addr) (w_RESTORECON : Addr) (w_RESTORECON_RECURSIVE : Addr) (w_RM : Addr) (w_RMDIR : Addr) (w_SETPROP : Addr) (w_SYMLINK : Addr) (w_UMOUNT : Addr) (w_WRITE : Addr) (h0 : Heap) (n0 : Nat) (v : Option Value) (h : Heap) (L : List Loc) : Prop := v = some (.int (isF w_MKDIR w_MOUNT r0)) ∧ Fr n0 L ∧ h = h0
set_option maxRecDepth 65536 in
set_option maxHeartbeats 40000000 in
theorem rm1 (l : Launch) (Z : State) (a0 : Array Value) (hw : ∀ d ∈ tables_1, d.before a0 Z = true) (ws : List Jvm.Cond) (r0 : Addr) (w_CHMOD : Addr) (w_CHOWN : Addr) (w_COPY : Addr) (w_MKDIR : Addr) (w_MOUNT : Addr) (w_RESTORECON : Addr) (w_RESTORECON_RECURSIVE : Addr) (w_RM : Addr) (w_RMDIR : Addr) (w_SETPROP : Addr) (w_SYMLINK : Addr) (w_UMOUNT : Addr) (w_WRITE : Addr) (h0 : Heap) (n0 : Nat) (Z0 : n0 ≤ h0.size) (S_CHMOD : Sta Z h0 "com/example/bounded_policy/boundedpolicy/service/VendorInitCommand" "CHMOD" "Lcom/example/bounded_policy/boundedpolicy/service/VendorInitCommand;" (.ref w_CHMOD)) (S_CHOWN : Sta Z h0 "com/example/bounded_policy/boundedpolicy/service/VendorInitCommand" "CHOWN" "Lcom/example/bounded_policy/boundedpolicy/service/VendorInitCommand;" (.ref w_CHOWN)) (S_COPY : Sta Z h0 "com/example/bounded_policy/boundedpolicy/service/VendorInitCommand" "COPY" "Lcom/example/bounded_policy/boundedpolicy/service/VendorInitCommand;" (.ref w_COPY)) (S_MKDIR : Sta Z h0 "com/example/bounded_policy/boundedpolicy/service/VendorInitCommand" "MKDIR" "Lcom/example/bounded_policy/boundedpolicy/service/VendorInitCommand;" (.ref w_MKDIR)) (S_MOUNT : Sta Z h0 "com/example/bounded_policy/boundedpolicy/service/VendorInitCommand" "MOUNT" "Lcom/example/bounded_policy/boundedpolicy/service/VendorInitCommand;" (.ref w_MOUNT)) (S_RESTORECON : Sta Z h0 "com/example/bounded_policy/boundedpolicy/service/VendorInitCommand" "RESTORECON" "Lcom/example/bounded_policy/boundedpolicy/service/VendorInitCommand;" (.ref w_RESTORECON)) (S_RESTORECON_RECURSIVE : Sta Z h0 "com/example/bounded_policy/boundedpolicy/service/VendorInitCommand" "RESTORECON_RECURSIVE" "Lcom/example/bounded_policy/boundedpolicy/service/VendorInitCommand;" (.ref w_RESTORECON_RECURSIVE)) (S_RM : Sta Z h0 "com/example/bounded_policy/boundedpolicy/service/VendorInitCommand" "RM" "Lcom/example/bounded_policy/boundedpolicy/service/VendorInitCommand;" (.ref w_RM)) (S_RMDIR : Sta Z h0 "com/example/bounded_policy/boundedpolicy/service/VendorInitCommand" "RMDIR" "Lcom/example/bounded_policy/boundedpolicy/service/VendorInitCommand;" (.ref w_RMDIR)) (S_SETPROP : Sta Z h0 "com/example/bounded_policy/boundedpolicy/service/VendorInitCommand" "SETPROP" "Lcom/example/bounded_policy/boundedpolicy/service/VendorInitCommand;" (.ref w_SETPROP)) (S_SYMLINK : Sta Z h0 "com/example/bounded_policy/boundedpolicy/service/VendorInitCommand" "SYMLINK" "Lcom/example/bounded_policy/boundedpolicy/service/VendorInitCommand;" (.ref w_SYMLINK)) (S_UMOUNT : Sta Z h0 "com/example/bounded_policy/boundedpolicy/service/VendorInitCommand" "UMOUNT" "Lcom/example/bounded_policy/boundedpolicy/service/VendorInitCommand;" (.ref w_UMOUNT)) (S_WRITE : Sta Z h0 "com/example/bounded_policy/boundedpolicy/service/VendorInitCommand" "WRITE" "Lcom/example/bounded_policy/boundedpolicy/service/VendorInitCommand;" (.ref w_WRITE)) (E_CHMOD : Exa Z h0 w_CHMOD "com/example/bounded_policy/boundedpolicy/service/VendorInitCommand") (E_CHOWN : Exa Z h0 w_CHOWN "com/example/bounded_policy/boundedpolicy/service/VendorInitCommand") (E_COPY : Exa Z h0 w_COPY "com/example/bounded_policy/boundedpolicy/service/VendorInitCommand") (E_MKDIR : Exa Z h0 w_MKDIR "com/example/bounded_policy/boundedpolicy/service/VendorInitCommand") (E_MOUNT : Exa Z h0 w_MOUNT "com/example/bounded_policy/boundedpolicy/service/VendorInitCommand") (E_RESTORECON : Exa Z h0 w_RESTORECON "com/example/bounded_policy/boundedpolicy/service/VendorInitCommand") (E_RESTORECON_RECURSIVE : Exa Z h0 w_RESTORECON_RECURSIVE "com/example/bounded_policy/boundedpolicy/service/VendorInitCommand") (E_RM : Exa Z h0 w_RM "com/example/bounded_policy/boundedpolicy/service/VendorInitCommand") (E_RMDIR : Exa Z h0 w_RMDIR "com/example/bounded_policy/boundedpolicy/service/VendorInitCommand") (E_SETPROP : Exa Z h0 w_SETPROP "com/example/bounded_policy/boundedpolicy/service/VendorInitCommand") (E_SYMLINK : Exa Z h0 w_SYMLINK "com/example/bounded_policy/boundedpolicy/service/VendorInitCommand") (E_UMOUNT : Exa Z h0 w_UMOUNT "com/example/bounded_policy/boundedpolicy/service/VendorInitCommand") (E_WRITE : Exa Z h0 w_WRITE "com/example/bounded_policy/boundedpolicy/service/VendorInitCommand") (O_CHMOD_ordinal : Fld Z h0 w_CHMOD "java/lang/Enum" "ordinal" "I" (.int (0 : Int32))) (O_CHOWN_ordinal : Fld Z h0 w_CHOWN "java/lang/Enum" "ordinal" "I" (.int (1 : Int32))) (O_COPY_ordinal : Fld Z h0 w_COPY "java/lang/Enum" "ordinal" "I" (.int (2 : Int32))) (O_MKDIR_ordinal : Fld Z h0 w_MKDIR "java/lang/Enum" "ordinal" "I" (.int (3 : Int32))) (O_MOUNT_ordinal : Fld Z h0 w_MOUNT "java/lang/Enum" "ordinal" "I" (.int (4 : Int32))) (O_RESTORECON_ordinal : Fld Z h0 w_RESTORECON "java/lang/Enum" "ordinal" "I" (.int (5 : Int32))) (O_RESTORECON_RECURSIVE_ordinal : Fld Z h0 w_RESTORECON_RECURSIVE "java/lang/Enum" "ordinal" "I" (.int (6 : Int32))) (O_RM_ordinal : Fld Z h0 w_RM "java/lang/Enum" "ordinal" "I" (.int (7 : Int32))) (O_RMDIR_ordinal : Fld Z h0 w_RMDIR "java/lang/Enum" "ordinal" "I" (.int (8 : Int32))) (O_SETPROP_ordinal : Fld Z h0 w_SETPROP "java/lang/Enum" "ordinal" "I" (.int (9 : Int32))) (O_SYMLINK_ordinal : Fld Z h0 w_SYMLINK "java/lang/Enum" "ordinal" "I" (.int (10 : Int32))) (O_UMOUNT_ordinal : Fld Z h0 w_UMOUNT "java/lang/Enum" "ordinal" "I" (.int (11 : Int32))) (O_WRITE_ordinal : Fld Z h0 w_WRITE "java/lang/Enum" "ordinal" "I" (.int (12 : Int32))) :
    MetFree l (⟨"com/example/bounded_policy/boundedpolicy/service/VendorInitCommand", "actsBeforeMount", "()Z"⟩ : MethodName) (head1 (Jvm.Cond.code (⟨"com/example/bounded_policy/boundedpolicy/service/VendorInitCommand", "actsBeforeMount", "()Z"⟩ : MethodName) prog_132_method_10_code 1 (some .boolean) :: ws) ({ frames := 0, cells := 0, slots := 0, locals := 0 } : Room)) (fun a U => a = #[(.ref r0)] ∧ Z.Warmed39 U.vm ∧ U.heap = h0) (fun _ _ _ _ _ => True) (fun _ U o U' => ∃ v L, o = .returned v ∧ Q1 Z r0 w_CHMOD w_CHOWN w_COPY w_MKDIR w_MOUNT w_RESTORECON w_RESTORECON_RECURSIVE w_RM w_RMDIR w_SETPROP w_SYMLINK w_UMOUNT w_WRITE h0 n0 v U'.heap L ∧ FrameEnd U o U' L ({ frames := 0, cells := 0, slots := 0, locals := 0 } : Room).cells ({ frames := 0, cells := 0, slots := 0, locals := 0 } : Room).slots) := by
  refine MetFree.of_bodySF (plainFor_of_name pn_1) hisR ?_
  intro p e s m args below meth c s₁ Bd hml0 hP hK
  obtain ⟨rfl, hZ, hh⟩ := hP
  have hx := Bd.exec
  have hby := Bd.bytes
  have hml : c.maxLocals = 1 := hml0
  have hown : s.vm.findClass "com/example/bounded_policy/boundedpolicy/service/VendorInitCommand" = some m.cls := findClass_of_methodNamed Bd.named
  have hnm := (name_of_methodNamed Bd.named Bd.method).1
  have X0 : Stand p l e ({ frames := 0, cells := 0, slots := 0, locals := 0 } : Room) s m #[(.ref r0)] below meth c s₁ [] 0 0 := Stand.of_body Bd
  have e0 : s₁.heap = h0 := by rw [← hh, Bd.state]; rfl
  have N0 := Fr.nil n0
  refine own_go (A' := (s₁.setTop (mkF m 0 #[.val (.ref r0)] []))) (fun t k => castTop (ef_1 m r0) k) ?_
  obtain ⟨T1, X1, e1, st1⟩ := getS2 X0 hx hZ hown (host := "") (Or.inl (hw _ (List.mem_of_getElem? (i := 36) rfl))) Via.refl e0 S_MKDIR (g := (mkF m 1 #[.val (.ref r0)] [(.ref r0)])) rfl (hb hby d1_1)
  refine own_go (A' := (T1.setTop (mkF m 4 #[.val (.ref r0)] [(.ref w_MKDIR), (.ref r0)]))) (fun t k => ?_) ?_
  · show Steps p.tables e below (s₁.setTop (mkF m 0 #[.val (.ref r0)] [])) _
    refine XS.aloadN X0.here hx rfl (hb hby d1_0) rfl rfl ?_
    show Steps p.tables e below (s₁.setTop (mkF m 1 #[.val (.ref r0)] [(.ref r0)])) _
    refine st1 _ ?_
    exact k
  by_cases hc2 : r0 = w_MKDIR
  · -- hc2: yes
    refine own_go (A' := (T1.setTop (mkF m 14 #[.val (.ref r0)] []))) (fun t k => Jvm.RoadKit.acmp (g := (mkF m 4 #[.val (.ref r0)] [(.ref w_MKDIR), (.ref r0)])) X1 hx rfl rfl rfl (pc0 := 4) (pc' := 14) (same := true) rfl (hb hby d1_4) rfl (decide_eq_true (congrArg Value.ref hc2)) (by decide) (by decide) k) ?_
    refine own_go (A' := (T1.setTop (mkF m 19 #[.val (.ref r0)] [(.int (1 : Int32))]))) (fun t k => ?_) ?_
    · show Steps p.tables e below (T1.setTop (mkF m 14 #[.val (.ref r0)] [])) _
      refine XS.iconst X1.here hx rfl (hb hby d1_14) ?_
      show Steps p.tables e below (T1.setTop (mkF m 15 #[.val (.ref r0)] [(.int (1 : Int32))])) _
      refine XS.goto X1.here hx rfl (pc0 := 15) (pc' := 19) rfl (hb hby d1_15) (by decide) (by decide) ?_
      exact k
    obtain ⟨fs, hr, hrun, hended, hW, hsame⟩ := X1.leave (v := some (.int (1 : Int32))) (fun h => by rw [Bd.returns] at h; cases h)
    refine ⟨_, _, ?_, hrun, hended, _, _, rfl, ?_, ⟨_, rfl⟩, hW, hsame.mono (by decide) (by decide)⟩
    · show Steps p.tables e below (T1.setTop (mkF m 19 #[.val (.ref r0)] [(.int (1 : Int32))])) _
      exact retN X1 hx (t := .boolean) Bd.returns (by simp) (hb hby d1_19) hr
    · show Q1 Z r0 w_CHMOD w_CHOWN w_COPY w_MKDIR w_MOUNT w_RESTORECON w_RESTORECON_RECURSIVE w_RM w_RMDIR w_SETPROP w_SYMLINK w_UMOUNT w_WRITE h0 n0 _ T1.heap _
      exact ⟨(by rw [isF, if_pos hc2]), N0, e1⟩
  · -- hc2: no
    refine own_go (A' := (T1.setTop (mkF m 7 #[.val (.ref r0)] []))) (fun t k => Jvm.RoadKit.acmp (g := (mkF m 4 #[.val (.ref r0)] [(.ref w_MKDIR), (.ref r0)])) X1 hx rfl rfl rfl (pc0 := 4) (pc' := 7) (same := false) rfl (hb hby d1_4) rfl (decide_eq_false fun q => hc2 (Value.ref.inj q)) (by decide) (by decide) k) ?_
    obtain ⟨T3, X3, e3, st3⟩ := getS2 X1 hx hZ hown (host := "") (Or.inl (hw _ (List.mem_of_getElem? (i := 37) rfl))) Via.refl e1 S_MOUNT (g := (mkF m 8 #[.val (.ref r0)] [(.ref r0)])) rfl (hb hby d1_8)
    refine own_go (A' := (T3.setTop (mkF m 11 #[.val (.ref r0)] [(.ref w_MOUNT), (.ref r0)]))) (fun t k => ?_) ?_
    · show Steps p.tables e below (T1.setTop (mkF m 7 #[.val (.ref r0)] [])) _
      refine XS.aloadN X1.here hx rfl (hb hby d1_7) rfl rfl ?_
      show Steps p.tables e below (T1.setTop (mkF m 8 #[.val (.ref r0)] [(.ref r0)])) _
      refine st3 _ ?_
      exact k
    by_cases hc4 : r0 = w_MOUNT
    · -- hc4: yes
      refine own_go (A' := (T3.setTop (mkF m 14 #[.val (.ref r0)] []))) (fun t k => Jvm.RoadKit.acmp (g := (mkF m 11 #[.val (.ref r0)] [(.ref w_MOUNT), (.ref r0)])) X3 hx rfl rfl rfl (pc0 := 11) (pc' := 14) (same := true) rfl (hb hby d1_11) rfl (decide_eq_true (congrArg Value.ref hc4)) (by decide) (by decide) k) ?_
      refine own_go (A' := (T3.setTop (mkF m 19 #[.val (.ref r0)] [(.int (1 : Int32))]))) (fun t k => ?_) ?_
      · show Steps p.tables e below (T3.setTop (mkF m 14 #[.val (.ref r0)] [])) _
        refine XS.iconst X3.here hx rfl (hb hby d1_14) ?_
        show Steps p.tables e below (T3.setTop (mkF m 15 #[.val (.ref r0)] [(.int (1 : Int32))])) _
        refine XS.goto X3.here hx rfl (pc0 := 15) (pc' := 19) rfl (hb hby d1_15) (by decide) (by decide) ?_
        exact k
      obtain ⟨fs, hr, hrun, hended, hW, hsame⟩ := X3.leave (v := some (.int (1 : Int32))) (fun h => by rw [Bd.returns] at h; cases h)
      refine ⟨_, _, ?_, hrun, hended, _, _, rfl, ?_, ⟨_, rfl⟩, hW, hsame.mono (by decide) (by decide)⟩
      · show Steps p.tables e below (T3.setTop (mkF m 19 #[.val (.ref r0)] [(.int (1 : Int32))])) _
        exact retN X3 hx (t := .boolean) Bd.returns (by simp) (hb hby d1_19) hr
      · show Q1 Z r0 w_CHMOD w_CHOWN w_COPY w_MKDIR w_MOUNT w_RESTORECON w_RESTORECON_RECURSIVE w_RM w_RMDIR w_SETPROP w_SYMLINK w_UMOUNT w_WRITE h0 n0 _ T3.heap _
        exact ⟨(by rw [isF, if_neg hc2, if_pos hc4]), N0, e3⟩
    · -- hc4: no
      refine own_go (A' := (T3.setTop (mkF m 18 #[.val (.ref r0)] []))) (fun t k => Jvm.RoadKit.acmp (g := (mkF m 11 #[.val (.ref r0)] [(.ref w_MOUNT), (.ref r0)])) X3 hx rfl rfl rfl (pc0 := 11) (pc' := 18) (same := false) rfl (hb hby d1_11) rfl (decide_eq_false fun q => hc4 (Value.ref.inj q)) (by decide) (by decide) k) ?_
      refine own_go (A' := (T3.setTop (mkF m 19 #[.val (.ref r0)] [(.int (0 : Int32))]))) (fun t k => ?_) ?_
      · show Steps p.tables e below (T3.setTop (mkF m 18 #[.val (.ref r0)] [])) _
        refine XS.iconst X3.here hx rfl (hb hby d1_18) ?_
        exact k
      obtain ⟨fs, hr, hrun, hended, hW, hsame⟩ := X3.leave (v := some (.int (0 : Int32))) (fun h => by rw [Bd.returns] at h; cases h)
      refine ⟨_, _, ?_, hrun, hended, _, _, rfl, ?_, ⟨_, rfl⟩, hW, hsame.mono (by decide) (by decide)⟩
      · show Steps p.tables e below (T3.setTop (mkF m 19 #[.val (.ref r0)] [(.int (0 : Int32))])) _
        exact retN X3 hx (t := .boolean) Bd.returns (by simp) (hb hby d1_19) hr
      · show Q1 Z r0 w_CHMOD w_CHOWN w_COPY w_MKDIR w_MOUNT w_RESTORECON w_RESTORECON_RECURSIVE w_RM w_RMDIR w_SETPROP w_SYMLINK w_UMOUNT w_WRITE h0 n0 _ T3.heap _
        exact ⟨(by rw [isF, if_neg hc2, if_neg hc4]), N0, e3⟩
theorem pd_0 : parseMethodDescriptor "()Z" = some ⟨[], some .boolean⟩ := by decide +kernel
theorem pn_0 : plainName "com/example/bounded_policy/boundedpolicy/service/VendorInitCommandActsBeforeMountPinLaw" = true := by first | (simp [plainName, overriddenIn]; done) | decide +kernel
theorem ef_0 (m : MethodId) (p0 : Int32) : entryFrame m #[(.int p0)] maxLocals = mkF m 0 #[.val (.int p0), .unset, .unset, .unset, .unset] [] := by first | (simp [entryFrame, mkF, argsToLocals, Value.category, maxLocals]; done) | rfl
def Q0 (Z : State) (p0 : Int32) (w_CHMOD : Addr) (w_CHOWN : Addr) (w_COPY : Addr) (w_MKDIR : Addr) (w_MOUNT : Addr) (w_RESTORECON : Addr) (w_RESTORECON_RECURSIVE : Addr) (w_RM : Addr) (w_RMDIR : Addr) (w_SETPROP : Addr) (w_SYMLINK : Addr) (w_UMOUNT : Addr) (w_WRITE : Addr) (h0 : Heap) (n0 : Nat) (v : Option Value) (h : Heap) (L : List Loc) : Prop := v = some (.int (1 : Int32)) ∧ Fr n0 L
set_option maxRecDepth 65536 in
set_option maxHeartbeats 40000000 in
theorem rm0 (l : Launch) (Z : State) (a0 : Array Value) (hw : ∀ d ∈ tables_1, d.before a0 Z = true) (ws : List Jvm.Cond) (p0 : Int32) (w_CHMOD : Addr) (w_CHOWN : Addr) (w_COPY : Addr) (w_MKDIR : Addr) (w_MOUNT : Addr) (w_RESTORECON : Addr) (w_RESTORECON_RECURSIVE : Addr) (w_RM : Addr) (w_RMDIR : Addr) (w_SETPROP : Addr) (w_SYMLINK : Addr) (w_UMOUNT : Addr) (w_WRITE : Addr) (h0 : Heap) (n0 : Nat) (Z0 : n0 ≤ h0.size) (S_CHMOD : Sta Z h0 "com/example/bounded_policy/boundedpolicy/service/VendorInitCommand" "CHMOD" "Lcom/example/bounded_policy/boundedpolicy/service/VendorInitCommand;" (.ref w_CHMOD)) (S_CHOWN : Sta Z h0 "com/example/bounded_policy/boundedpolicy/service/VendorInitCommand" "CHOWN" "Lcom/example/bounded_policy/boundedpolicy/service/VendorInitCommand;" (.ref w_CHOWN)) (S_COPY : Sta Z h0 "com/example/bounded_policy/boundedpolicy/service/VendorInitCommand" "COPY" "Lcom/example/bounded_policy/boundedpolicy/service/VendorInitCommand;" (.ref w_COPY)) (S_MKDIR : Sta Z h0 "com/example/bounded_policy/boundedpolicy/service/VendorInitCommand" "MKDIR" "Lcom/example/bounded_policy/boundedpolicy/service/VendorInitCommand;" (.ref w_MKDIR)) (S_MOUNT : Sta Z h0 "com/example/bounded_policy/boundedpolicy/service/VendorInitCommand" "MOUNT" "Lcom/example/bounded_policy/boundedpolicy/service/VendorInitCommand;" (.ref w_MOUNT)) (S_RESTORECON : Sta Z h0 "com/example/bounded_policy/boundedpolicy/service/VendorInitCommand" "RESTORECON" "Lcom/example/bounded_policy/boundedpolicy/service/VendorInitCommand;" (.ref w_RESTORECON)) (S_RESTORECON_RECURSIVE : Sta Z h0 "com/example/bounded_policy/boundedpolicy/service/VendorInitCommand" "RESTORECON_RECURSIVE" "Lcom/example/bounded_policy/boundedpolicy/service/VendorInitCommand;" (.ref w_RESTORECON_RECURSIVE)) (S_RM : Sta Z h0 "com/example/bounded_policy/boundedpolicy/service/VendorInitCommand" "RM" "Lcom/example/bounded_policy/boundedpolicy/service/VendorInitCommand;" (.ref w_RM)) (S_RMDIR : Sta Z h0 "com/example/bounded_policy/boundedpolicy/service/VendorInitCommand" "RMDIR" "Lcom/example/bounded_policy/boundedpolicy/service/VendorInitCommand;" (.ref w_RMDIR)) (S_SETPROP : Sta Z h0 "com/example/bounded_policy/boundedpolicy/service/VendorInitCommand" "SETPROP" "Lcom/example/bounded_policy/boundedpolicy/service/VendorInitCommand;" (.ref w_SETPROP)) (S_SYMLINK : Sta Z h0 "com/example/bounded_policy/boundedpolicy/service/VendorInitCommand" "SYMLINK" "Lcom/example/bounded_policy/boundedpolicy/service/VendorInitCommand;" (.ref w_SYMLINK)) (S_UMOUNT : Sta Z h0 "com/example/bounded_policy/boundedpolicy/service/VendorInitCommand" "UMOUNT" "Lcom/example/bounded_policy/boundedpolicy/service/VendorInitCommand;" (.ref w_UMOUNT)) (S_WRITE : Sta Z h0 "com/example/bounded_policy/boundedpolicy/service/VendorInitCommand" "WRITE" "Lcom/example/bounded_policy/boundedpolicy/service/VendorInitCommand;" (.ref w_WRITE)) (E_CHMOD : Exa Z h0 w_CHMOD "com/example/bounded_policy/boundedpolicy/service/VendorInitCommand") (E_CHOWN : Exa Z h0 w_CHOWN "com/example/bounded_policy/boundedpolicy/service/VendorInitCommand") (E_COPY : Exa Z h0 w_COPY "com/example/bounded_policy/boundedpolicy/service/VendorInitCommand") (E_MKDIR : Exa Z h0 w_MKDIR "com/example/bounded_policy/boundedpolicy/service/VendorInitCommand") (E_MOUNT : Exa Z h0 w_MOUNT "com/example/bounded_policy/boundedpolicy/service/VendorInitCommand") (E_RESTORECON : Exa Z h0 w_RESTORECON "com/example/bounded_policy/boundedpolicy/service/VendorInitCommand") (E_RESTORECON_RECURSIVE : Exa Z h0 w_RESTORECON_RECURSIVE "com/example/bounded_policy/boundedpolicy/service/VendorInitCommand") (E_RM : Exa Z h0 w_RM "com/example/bounded_policy/boundedpolicy/service/VendorInitCommand") (E_RMDIR : Exa Z h0 w_RMDIR "com/example/bounded_policy/boundedpolicy/service/VendorInitCommand") (E_SETPROP : Exa Z h0 w_SETPROP "com/example/bounded_policy/boundedpolicy/service/VendorInitCommand") (E_SYMLINK : Exa Z h0 w_SYMLINK "com/example/bounded_policy/boundedpolicy/service/VendorInitCommand") (E_UMOUNT : Exa Z h0 w_UMOUNT "com/example/bounded_policy/boundedpolicy/service/VendorInitCommand") (E_WRITE : Exa Z h0 w_WRITE "com/example/bounded_policy/boundedpolicy/service/VendorInitCommand") (O_CHMOD_ordinal : Fld Z h0 w_CHMOD "java/lang/Enum" "ordinal" "I" (.int (0 : Int32))) (O_CHOWN_ordinal : Fld Z h0 w_CHOWN "java/lang/Enum" "ordinal" "I" (.int (1 : Int32))) (O_COPY_ordinal : Fld Z h0 w_COPY "java/lang/Enum" "ordinal" "I" (.int (2 : Int32))) (O_MKDIR_ordinal : Fld Z h0 w_MKDIR "java/lang/Enum" "ordinal" "I" (.int (3 : Int32))) (O_MOUNT_ordinal : Fld Z h0 w_MOUNT "java/lang/Enum" "ordinal" "I" (.int (4 : Int32))) (O_RESTORECON_ordinal : Fld Z h0 w_RESTORECON "java/lang/Enum" "ordinal" "I" (.int (5 : Int32))) (O_RESTORECON_RECURSIVE_ordinal : Fld Z h0 w_RESTORECON_RECURSIVE "java/lang/Enum" "ordinal" "I" (.int (6 : Int32))) (O_RM_ordinal : Fld Z h0 w_RM "java/lang/Enum" "ordinal" "I" (.int (7 : Int32))) (O_RMDIR_ordinal : Fld Z h0 w_RMDIR "java/lang/Enum" "ordinal" "I" (.int (8 : Int32))) (O_SETPROP_ordinal : Fld Z h0 w_SETPROP "java/lang/Enum" "ordinal" "I" (.int (9 : Int32))) (O_SYMLINK_ordinal : Fld Z h0 w_SYMLINK "java/lang/Enum" "ordinal" "I" (.int (10 : Int32))) (O_UMOUNT_ordinal : Fld Z h0 w_UMOUNT "java/lang/Enum" "ordinal" "I" (.int (11 : Int32))) (O_WRITE_ordinal : Fld Z h0 w_WRITE "java/lang/Enum" "ordinal" "I" (.int (12 : Int32))) :
    MetFree l x (head1 (Jvm.Cond.code x code maxLocals ret :: ws) room_1) (fun a U => a = #[(.int p0)] ∧ Z.Warmed39 U.vm ∧ U.heap = h0) (fun _ _ _ _ _ => True) (fun _ U o U' => ∃ v L, o = .returned v ∧ Q0 Z p0 w_CHMOD w_CHOWN w_COPY w_MKDIR w_MOUNT w_RESTORECON w_RESTORECON_RECURSIVE w_RM w_RMDIR w_SETPROP w_SYMLINK w_UMOUNT w_WRITE h0 n0 v U'.heap L ∧ FrameEnd U o U' L room_1.cells room_1.slots) := by
  refine MetFree.of_bodySF (plainFor_of_name pn_0) hisR ?_
  intro p e s m args below meth c s₁ Bd hml0 hP hK
  obtain ⟨rfl, hZ, hh⟩ := hP
  have hx := Bd.exec
  have hby := Bd.bytes
  have hml : c.maxLocals = 5 := hml0
  have hown : s.vm.findClass "com/example/bounded_policy/boundedpolicy/service/VendorInitCommandActsBeforeMountPinLaw" = some m.cls := findClass_of_methodNamed Bd.named
  have hnm := (name_of_methodNamed Bd.named Bd.method).1
  have X0 : Stand p l e room_1 s m #[(.int p0)] below meth c s₁ [] 0 0 := Stand.of_body Bd
  have e0 : s₁.heap = h0 := by rw [← hh, Bd.state]; rfl
  have N0 := Fr.nil n0
  refine own_go (A' := (s₁.setTop (mkF m 0 #[.val (.int p0), .unset, .unset, .unset, .unset] []))) (fun t k => castTop (ef_0 m p0) k) ?_
  obtain ⟨T5, h5, k5, X5, e5, E5, A5, O5, st5⟩ := newR X0 hx hZ hown (hw _ (List.mem_of_getElem? (i := 0) rfl)) (hw _ (List.mem_of_getElem? (i := 1) rfl)) e0 (g := (mkF m 2 #[.val (.int p0), .unset, .unset, .unset, .unset] [(.int (13 : Int32))])) rfl (hb hby at_2) rfl (by decide) (cap := 13) (by decide) (by decide) (by decide) (by decide)
  obtain ⟨b5, g5⟩ : ∃ z, z = h0.size := ⟨_, rfl⟩
  have sz_b5 : h0.size ≤ b5 := Nat.le_of_eq g5.symm
  rw [← g5] at A5 st5
  have K5 : Keep h0 h5 [] := (Keep.refl h0 []).ext E5
  have B5 : Ext h0 h5 := own_keep_ext K5
  have V5 : Arv Z h5 b5 k5 (.object "com/example/bounded_policy/boundedpolicy/service/VendorInitCommand") (13 : Int32) [.null, .null, .null, .null, .null, .null, .null, .null, .null, .null, .null, .null, .null] .null := (Arv.new A5 (by decide)).pad (pad_rep [] .null 13)
  obtain ⟨T6, X6, e6, st6⟩ := getS2 X5 hx hZ hown (host := "") (Or.inl (hw _ (List.mem_of_getElem? (i := 2) rfl))) Via.refl e5 (S_CHMOD.ext B5) (g := (mkF m 7 #[.val (.int p0), .unset, .unset, .unset, .unset] [(.int (0 : Int32)), (.ref b5), (.ref b5)])) rfl (hb hby at_7)
  obtain ⟨cl7, Ar7, q7, S7, N7, H7, G7⟩ := V5
  have hin7 : ¬ ((0 : Int32) < 0 ∨ cl7.slots.size ≤ ((0 : Int32)).toNatClampNeg) := inb_of S7 ⟨by decide, by decide⟩
  obtain ⟨T8, h8, X8, e8, W8, st8⟩ := stR X6 hx hZ e6 Ar7 (j := (0 : Int32)) hin7 rfl (Sto.ofV Ar7 q7 O5 (Ins.self (E_CHMOD.ext B5))) (g := (mkF m 10 #[.val (.int p0), .unset, .unset, .unset, .unset] [(.ref w_CHMOD), (.int (0 : Int32)), (.ref b5), (.ref b5)])) rfl rfl (hb hby at_10)
  have K8 : Keep h0 h8 [] := K5.wr W8 (Or.inr sz_b5)
  have B8 : Ext h0 h8 := own_keep_ext K8
  have N8 := Fr.snoc X8 N0 (Nat.le_trans Z0 sz_b5)
  have V8 : Arv Z h8 b5 k5 (.object "com/example/bounded_policy/boundedpolicy/service/VendorInitCommand") (13 : Int32) [(.ref w_CHMOD), .null, .null, .null, .null, .null, .null, .null, .null, .null, .null, .null, .null] .null := Arv.set Ar7 q7 S7 N7 H7 G7 rfl W8 0 rfl (Nat.le_of_ble_eq_true rfl)
  obtain ⟨T9, X9, e9, st9⟩ := getS2 X8 hx hZ hown (host := "") (Or.inl (hw _ (List.mem_of_getElem? (i := 6) rfl))) Via.refl e8 (S_CHOWN.ext B8) (g := (mkF m 13 #[.val (.int p0), .unset, .unset, .unset, .unset] [(.int (1 : Int32)), (.ref b5), (.ref b5)])) rfl (hb hby at_13)
  obtain ⟨cl10, Ar10, q10, S10, N10, H10, G10⟩ := V8
  have hin10 : ¬ ((1 : Int32) < 0 ∨ cl10.slots.size ≤ ((1 : Int32)).toNatClampNeg) := inb_of S10 ⟨by decide, by decide⟩
  obtain ⟨T11, h11, X11, e11, W11, st11⟩ := stR X9 hx hZ e9 Ar10 (j := (1 : Int32)) hin10 rfl (Sto.ofV Ar10 q10 O5 (Ins.self (E_CHOWN.ext B8))) (g := (mkF m 16 #[.val (.int p0), .unset, .unset, .unset, .unset] [(.ref w_CHOWN), (.int (1 : Int32)), (.ref b5), (.ref b5)])) rfl rfl (hb hby at_16)
  have K11 : Keep h0 h11 [] := K8.wr W11 (Or.inr sz_b5)
  have B11 : Ext h0 h11 := own_keep_ext K11
  have N11 := Fr.snoc X11 N8 (Nat.le_trans Z0 sz_b5)
  have V11 : Arv Z h11 b5 k5 (.object "com/example/bounded_policy/boundedpolicy/service/VendorInitCommand") (13 : Int32) [(.ref w_CHMOD), (.ref w_CHOWN), .null, .null, .null, .null, .null, .null, .null, .null, .null, .null, .null] .null := Arv.set Ar10 q10 S10 N10 H10 G10 rfl W11 1 rfl (Nat.le_of_ble_eq_true rfl)
  obtain ⟨T12, X12, e12, st12⟩ := getS2 X11 hx hZ hown (host := "") (Or.inl (hw _ (List.mem_of_getElem? (i := 8) rfl))) Via.refl e11 (S_COPY.ext B11) (g := (mkF m 19 #[.val (.int p0), .unset, .unset, .unset, .unset] [(.int (2 : Int32)), (.ref b5), (.ref b5)])) rfl (hb hby at_19)
  obtain ⟨cl13, Ar13, q13, S13, N13, H13, G13⟩ := V11
  have hin13 : ¬ ((2 : Int32) < 0 ∨ cl13.slots.size ≤ ((2 : Int32)).toNatClampNeg) := inb_of S13 ⟨by decide, by decide⟩
  obtain ⟨T14, h14, X14, e14, W14, st14⟩ := stR X12 hx hZ e12 Ar13 (j := (2 : Int32)) hin13 rfl (Sto.ofV Ar13 q13 O5 (Ins.self (E_COPY.ext B11))) (g := (mkF m 22 #[.val (.int p0), .unset, .unset, .unset, .unset] [(.ref w_COPY), (.int (2 : Int32)), (.ref b5), (.ref b5)])) rfl rfl (hb hby at_22)
  have K14 : Keep h0 h14 [] := K11.wr W14 (Or.inr sz_b5)
  have B14 : Ext h0 h14 := own_keep_ext K14
  have N14 := Fr.snoc X14 N11 (Nat.le_trans Z0 sz_b5)
  have V14 : Arv Z h14 b5 k5 (.object "com/example/bounded_policy/boundedpolicy/service/VendorInitCommand") (13 : Int32) [(.ref w_CHMOD), (.ref w_CHOWN), (.ref w_COPY), .null, .null, .null, .null, .null, .null, .null, .null, .null, .null] .null := Arv.set Ar13 q13 S13 N13 H13 G13 rfl W14 2 rfl (Nat.le_of_ble_eq_true rfl)
  obtain ⟨T15, X15, e15, st15⟩ := getS2 X14 hx hZ hown (host := "") (Or.inl (hw _ (List.mem_of_getElem? (i := 10) rfl))) Via.refl e14 (S_MKDIR.ext B14) (g := (mkF m 25 #[.val (.int p0), .unset, .unset, .unset, .unset] [(.int (3 : Int32)), (.ref b5), (.ref b5)])) rfl (hb hby at_25)
  obtain ⟨cl16, Ar16, q16, S16, N16, H16, G16⟩ := V14
  have hin16 : ¬ ((3 : Int32) < 0 ∨ cl16.slots.size ≤ ((3 : Int32)).toNatClampNeg) := inb_of S16 ⟨by decide, by decide⟩
  obtain ⟨T17, h17, X17, e17, W17, st17⟩ := stR X15 hx hZ e15 Ar16 (j := (3 : Int32)) hin16 rfl (Sto.ofV Ar16 q16 O5 (Ins.self (E_MKDIR.ext B14))) (g := (mkF m 28 #[.val (.int p0), .unset, .unset, .unset, .unset] [(.ref w_MKDIR), (.int (3 : Int32)), (.ref b5), (.ref b5)])) rfl rfl (hb hby at_28)
  have K17 : Keep h0 h17 [] := K14.wr W17 (Or.inr sz_b5)
  have B17 : Ext h0 h17 := own_keep_ext K17
  have N17 := Fr.snoc X17 N14 (Nat.le_trans Z0 sz_b5)
  have V17 : Arv Z h17 b5 k5 (.object "com/example/bounded_policy/boundedpolicy/service/VendorInitCommand") (13 : Int32) [(.ref w_CHMOD), (.ref w_CHOWN), (.ref w_COPY), (.ref w_MKDIR), .null, .null, .null, .null, .null, .null, .null, .null, .null] .null := Arv.set Ar16 q16 S16 N16 H16 G16 rfl W17 3 rfl (Nat.le_of_ble_eq_true rfl)
  obtain ⟨T18, X18, e18, st18⟩ := getS2 X17 hx hZ hown (host := "") (Or.inl (hw _ (List.mem_of_getElem? (i := 12) rfl))) Via.refl e17 (S_MOUNT.ext B17) (g := (mkF m 31 #[.val (.int p0), .unset, .unset, .unset, .unset] [(.int (4 : Int32)), (.ref b5), (.ref b5)])) rfl (hb hby at_31)
  obtain ⟨cl19, Ar19, q19, S19, N19, H19, G19⟩ := V17
  have hin19 : ¬ ((4 : Int32) < 0 ∨ cl19.slots.size ≤ ((4 : Int32)).toNatClampNeg) := inb_of S19 ⟨by decide, by decide⟩
  obtain ⟨T20, h20, X20, e20, W20, st20⟩ := stR X18 hx hZ e18 Ar19 (j := (4 : Int32)) hin19 rfl (Sto.ofV Ar19 q19 O5 (Ins.self (E_MOUNT.ext B17))) (g := (mkF m 34 #[.val (.int p0), .unset, .unset, .unset, .unset] [(.ref w_MOUNT), (.int (4 : Int32)), (.ref b5), (.ref b5)])) rfl rfl (hb hby at_34)
  have K20 : Keep h0 h20 [] := K17.wr W20 (Or.inr sz_b5)
  have B20 : Ext h0 h20 := own_keep_ext K20
  have N20 := Fr.snoc X20 N17 (Nat.le_trans Z0 sz_b5)
  have V20 : Arv Z h20 b5 k5 (.object "com/example/bounded_policy/boundedpolicy/service/VendorInitCommand") (13 : Int32) [(.ref w_CHMOD), (.ref w_CHOWN), (.ref w_COPY), (.ref w_MKDIR), (.ref w_MOUNT), .null, .null, .null, .null, .null, .null, .null, .null] .null := Arv.set Ar19 q19 S19 N19 H19 G19 rfl W20 4 rfl (Nat.le_of_ble_eq_true rfl)
  obtain ⟨T21, X21, e21, st21⟩ := getS2 X20 hx hZ hown (host := "") (Or.inl (hw _ (List.mem_of_getElem? (i := 14) rfl))) Via.refl e20 (S_RESTORECON.ext B20) (g := (mkF m 37 #[.val (.int p0), .unset, .unset, .unset, .unset] [(.int (5 : Int32)), (.ref b5), (.ref b5)])) rfl (hb hby at_37)
  obtain ⟨cl22, Ar22, q22, S22, N22, H22, G22⟩ := V20
  have hin22 : ¬ ((5 : Int32) < 0 ∨ cl22.slots.size ≤ ((5 : Int32)).toNatClampNeg) := inb_of S22 ⟨by decide, by decide⟩
  obtain ⟨T23, h23, X23, e23, W23, st23⟩ := stR X21 hx hZ e21 Ar22 (j := (5 : Int32)) hin22 rfl (Sto.ofV Ar22 q22 O5 (Ins.self (E_RESTORECON.ext B20))) (g := (mkF m 40 #[.val (.int p0), .unset, .unset, .unset, .unset] [(.ref w_RESTORECON), (.int (5 : Int32)), (.ref b5), (.ref b5)])) rfl rfl (hb hby at_40)
  have K23 : Keep h0 h23 [] := K20.wr W23 (Or.inr sz_b5)
  have B23 : Ext h0 h23 := own_keep_ext K23
  have N23 := Fr.snoc X23 N20 (Nat.le_trans Z0 sz_b5)
  have V23 : Arv Z h23 b5 k5 (.object "com/example/bounded_policy/boundedpolicy/service/VendorInitCommand") (13 : Int32) [(.ref w_CHMOD), (.ref w_CHOWN), (.ref w_COPY), (.ref w_MKDIR), (.ref w_MOUNT), (.ref w_RESTORECON), .null, .null, .null, .null, .null, .null, .null] .null := Arv.set Ar22 q22 S22 N22 H22 G22 rfl W23 5 rfl (Nat.le_of_ble_eq_true rfl)
  obtain ⟨T24, X24, e24, st24⟩ := getS2 X23 hx hZ hown (host := "") (Or.inl (hw _ (List.mem_of_getElem? (i := 16) rfl))) Via.refl e23 (S_RESTORECON_RECURSIVE.ext B23) (g := (mkF m 44 #[.val (.int p0), .unset, .unset, .unset, .unset] [(.int (6 : Int32)), (.ref b5), (.ref b5)])) rfl (hb hby at_44)
  obtain ⟨cl25, Ar25, q25, S25, N25, H25, G25⟩ := V23
  have hin25 : ¬ ((6 : Int32) < 0 ∨ cl25.slots.size ≤ ((6 : Int32)).toNatClampNeg) := inb_of S25 ⟨by decide, by decide⟩
  obtain ⟨T26, h26, X26, e26, W26, st26⟩ := stR X24 hx hZ e24 Ar25 (j := (6 : Int32)) hin25 rfl (Sto.ofV Ar25 q25 O5 (Ins.self (E_RESTORECON_RECURSIVE.ext B23))) (g := (mkF m 47 #[.val (.int p0), .unset, .unset, .unset, .unset] [(.ref w_RESTORECON_RECURSIVE), (.int (6 : Int32)), (.ref b5), (.ref b5)])) rfl rfl (hb hby at_47)
  have K26 : Keep h0 h26 [] := K23.wr W26 (Or.inr sz_b5)
  have B26 : Ext h0 h26 := own_keep_ext K26
  have N26 := Fr.snoc X26 N23 (Nat.le_trans Z0 sz_b5)
  have V26 : Arv Z h26 b5 k5 (.object "com/example/bounded_policy/boundedpolicy/service/VendorInitCommand") (13 : Int32) [(.ref w_CHMOD), (.ref w_CHOWN), (.ref w_COPY), (.ref w_MKDIR), (.ref w_MOUNT), (.ref w_RESTORECON), (.ref w_RESTORECON_RECURSIVE), .null, .null, .null, .null, .null, .null] .null := Arv.set Ar25 q25 S25 N25 H25 G25 rfl W26 6 rfl (Nat.le_of_ble_eq_true rfl)
  obtain ⟨T27, X27, e27, st27⟩ := getS2 X26 hx hZ hown (host := "") (Or.inl (hw _ (List.mem_of_getElem? (i := 18) rfl))) Via.refl e26 (S_RM.ext B26) (g := (mkF m 51 #[.val (.int p0), .unset, .unset, .unset, .unset] [(.int (7 : Int32)), (.ref b5), (.ref b5)])) rfl (hb hby at_51)
  obtain ⟨cl28, Ar28, q28, S28, N28, H28, G28⟩ := V26
  have hin28 : ¬ ((7 : Int32) < 0 ∨ cl28.slots.size ≤ ((7 : Int32)).toNatClampNeg) := inb_of S28 ⟨by decide, by decide⟩
  obtain ⟨T29, h29, X29, e29, W29, st29⟩ := stR X27 hx hZ e27 Ar28 (j := (7 : Int32)) hin28 rfl (Sto.ofV Ar28 q28 O5 (Ins.self (E_RM.ext B26))) (g := (mkF m 54 #[.val (.int p0), .unset, .unset, .unset, .unset] [(.ref w_RM), (.int (7 : Int32)), (.ref b5), (.ref b5)])) rfl rfl (hb hby at_54)
  have K29 : Keep h0 h29 [] := K26.wr W29 (Or.inr sz_b5)
  have B29 : Ext h0 h29 := own_keep_ext K29
  have N29 := Fr.snoc X29 N26 (Nat.le_trans Z0 sz_b5)
  have V29 : Arv Z h29 b5 k5 (.object "com/example/bounded_policy/boundedpolicy/service/VendorInitCommand") (13 : Int32) [(.ref w_CHMOD), (.ref w_CHOWN), (.ref w_COPY), (.ref w_MKDIR), (.ref w_MOUNT), (.ref w_RESTORECON), (.ref w_RESTORECON_RECURSIVE), (.ref w_RM), .null, .null, .null, .null, .null] .null := Arv.set Ar28 q28 S28 N28 H28 G28 rfl W29 7 rfl (Nat.le_of_ble_eq_true rfl)
  obtain ⟨T30, X30, e30, st30⟩ := getS2 X29 hx hZ hown (host := "") (Or.inl (hw _ (List.mem_of_getElem? (i := 20) rfl))) Via.refl e29 (S_RMDIR.ext B29) (g := (mkF m 58 #[.val (.int p0), .unset, .unset, .unset, .unset] [(.int (8 : Int32)), (.ref b5), (.ref b5)])) rfl (hb hby at_58)
  obtain ⟨cl31, Ar31, q31, S31, N31, H31, G31⟩ := V29
  have hin31 : ¬ ((8 : Int32) < 0 ∨ cl31.slots.size ≤ ((8 : Int32)).toNatClampNeg) := inb_of S31 ⟨by decide, by decide⟩
  obtain ⟨T32, h32, X32, e32, W32, st32⟩ := stR X30 hx hZ e30 Ar31 (j := (8 : Int32)) hin31 rfl (Sto.ofV Ar31 q31 O5 (Ins.self (E_RMDIR.ext B29))) (g := (mkF m 61 #[.val (.int p0), .unset, .unset, .unset, .unset] [(.ref w_RMDIR), (.int (8 : Int32)), (.ref b5), (.ref b5)])) rfl rfl (hb hby at_61)
  have K32 : Keep h0 h32 [] := K29.wr W32 (Or.inr sz_b5)
  have B32 : Ext h0 h32 := own_keep_ext K32
  have N32 := Fr.snoc X32 N29 (Nat.le_trans Z0 sz_b5)
  have V32 : Arv Z h32 b5 k5 (.object "com/example/bounded_policy/boundedpolicy/service/VendorInitCommand") (13 : Int32) [(.ref w_CHMOD), (.ref w_CHOWN), (.ref w_COPY), (.ref w_MKDIR), (.ref w_MOUNT), (.ref w_RESTORECON), (.ref w_RESTORECON_RECURSIVE), (.ref w_RM), (.ref w_RMDIR), .null, .null, .null, .null] .null := Arv.set Ar31 q31 S31 N31 H31 G31 rfl W32 8 rfl (Nat.le_of_ble_eq_true rfl)
  obtain ⟨T33, X33, e33, st33⟩ := getS2 X32 hx hZ hown (host := "") (Or.inl (hw _ (List.mem_of_getElem? (i := 22) rfl))) Via.refl e32 (S_SETPROP.ext B32) (g := (mkF m 65 #[.val (.int p0), .unset, .unset, .unset, .unset] [(.int (9 : Int32)), (.ref b5), (.ref b5)])) rfl (hb hby at_65)
  obtain ⟨cl34, Ar34, q34, S34, N34, H34, G34⟩ := V32
  have hin34 : ¬ ((9 : Int32) < 0 ∨ cl34.slots.size ≤ ((9 : Int32)).toNatClampNeg) := inb_of S34 ⟨by decide, by decide⟩
  obtain ⟨T35, h35, X35, e35, W35, st35⟩ := stR X33 hx hZ e33 Ar34 (j := (9 : Int32)) hin34 rfl (Sto.ofV Ar34 q34 O5 (Ins.self (E_SETPROP.ext B32))) (g := (mkF m 68 #[.val (.int p0), .unset, .unset, .unset, .unset] [(.ref w_SETPROP), (.int (9 : Int32)), (.ref b5), (.ref b5)])) rfl rfl (hb hby at_68)
  have K35 : Keep h0 h35 [] := K32.wr W35 (Or.inr sz_b5)
  have B35 : Ext h0 h35 := own_keep_ext K35
  have N35 := Fr.snoc X35 N32 (Nat.le_trans Z0 sz_b5)
  have V35 : Arv Z h35 b5 k5 (.object "com/example/bounded_policy/boundedpolicy/service/VendorInitCommand") (13 : Int32) [(.ref w_CHMOD), (.ref w_CHOWN), (.ref w_COPY), (.ref w_MKDIR), (.ref w_MOUNT), (.ref w_RESTORECON), (.ref w_RESTORECON_RECURSIVE), (.ref w_RM), (.ref w_RMDIR), (.ref w_SETPROP), .null, .null, .null] .null := Arv.set Ar34 q34 S34 N34 H34 G34 rfl W35 9 rfl (Nat.le_of_ble_eq_true rfl)
  obtain ⟨T36, X36, e36, st36⟩ := getS2 X35 hx hZ hown (host := "") (Or.inl (hw _ (List.mem_of_getElem? (i := 24) rfl))) Via.refl e35 (S_SYMLINK.ext B35) (g := (mkF m 72 #[.val (.int p0), .unset, .unset, .unset, .unset] [(.int (10 : Int32)), (.ref b5), (.ref b5)])) rfl (hb hby at_72)
  obtain ⟨cl37, Ar37, q37, S37, N37, H37, G37⟩ := V35
  have hin37 : ¬ ((10 : Int32) < 0 ∨ cl37.slots.size ≤ ((10 : Int32)).toNatClampNeg) := inb_of S37 ⟨by decide, by decide⟩
  obtain ⟨T38, h38, X38, e38, W38, st38⟩ := stR X36 hx hZ e36 Ar37 (j := (10 : Int32)) hin37 rfl (Sto.ofV Ar37 q37 O5 (Ins.self (E_SYMLINK.ext B35))) (g := (mkF m 75 #[.val (.int p0), .unset, .unset, .unset, .unset] [(.ref w_SYMLINK), (.int (10 : Int32)), (.ref b5), (.ref b5)])) rfl rfl (hb hby at_75)
  have K38 : Keep h0 h38 [] := K35.wr W38 (Or.inr sz_b5)
  have B38 : Ext h0 h38 := own_keep_ext K38
  have N38 := Fr.snoc X38 N35 (Nat.le_trans Z0 sz_b5)
  have V38 : Arv Z h38 b5 k5 (.object "com/example/bounded_policy/boundedpolicy/service/VendorInitCommand") (13 : Int32) [(.ref w_CHMOD), (.ref w_CHOWN), (.ref w_COPY), (.ref w_MKDIR), (.ref w_MOUNT), (.ref w_RESTORECON), (.ref w_RESTORECON_RECURSIVE), (.ref w_RM), (.ref w_RMDIR), (.ref w_SETPROP), (.ref w_SYMLINK), .null, .null] .null := Arv.set Ar37 q37 S37 N37 H37 G37 rfl W38 10 rfl (Nat.le_of_ble_eq_true rfl)
  obtain ⟨T39, X39, e39, st39⟩ := getS2 X38 hx hZ hown (host := "") (Or.inl (hw _ (List.mem_of_getElem? (i := 26) rfl))) Via.refl e38 (S_UMOUNT.ext B38) (g := (mkF m 79 #[.val (.int p0), .unset, .unset, .unset, .unset] [(.int (11 : Int32)), (.ref b5), (.ref b5)])) rfl (hb hby at_79)
  obtain ⟨cl40, Ar40, q40, S40, N40, H40, G40⟩ := V38
  have hin40 : ¬ ((11 : Int32) < 0 ∨ cl40.slots.size ≤ ((11 : Int32)).toNatClampNeg) := inb_of S40 ⟨by decide, by decide⟩
  obtain ⟨T41, h41, X41, e41, W41, st41⟩ := stR X39 hx hZ e39 Ar40 (j := (11 : Int32)) hin40 rfl (Sto.ofV Ar40 q40 O5 (Ins.self (E_UMOUNT.ext B38))) (g := (mkF m 82 #[.val (.int p0), .unset, .unset, .unset, .unset] [(.ref w_UMOUNT), (.int (11 : Int32)), (.ref b5), (.ref b5)])) rfl rfl (hb hby at_82)
  have K41 : Keep h0 h41 [] := K38.wr W41 (Or.inr sz_b5)
  have B41 : Ext h0 h41 := own_keep_ext K41
  have N41 := Fr.snoc X41 N38 (Nat.le_trans Z0 sz_b5)
  have V41 : Arv Z h41 b5 k5 (.object "com/example/bounded_policy/boundedpolicy/service/VendorInitCommand") (13 : Int32) [(.ref w_CHMOD), (.ref w_CHOWN), (.ref w_COPY), (.ref w_MKDIR), (.ref w_MOUNT), (.ref w_RESTORECON), (.ref w_RESTORECON_RECURSIVE), (.ref w_RM), (.ref w_RMDIR), (.ref w_SETPROP), (.ref w_SYMLINK), (.ref w_UMOUNT), .null] .null := Arv.set Ar40 q40 S40 N40 H40 G40 rfl W41 11 rfl (Nat.le_of_ble_eq_true rfl)
  obtain ⟨T42, X42, e42, st42⟩ := getS2 X41 hx hZ hown (host := "") (Or.inl (hw _ (List.mem_of_getElem? (i := 28) rfl))) Via.refl e41 (S_WRITE.ext B41) (g := (mkF m 86 #[.val (.int p0), .unset, .unset, .unset, .unset] [(.int (12 : Int32)), (.ref b5), (.ref b5)])) rfl (hb hby at_86)
  obtain ⟨cl43, Ar43, q43, S43, N43, H43, G43⟩ := V41
  have hin43 : ¬ ((12 : Int32) < 0 ∨ cl43.slots.size ≤ ((12 : Int32)).toNatClampNeg) := inb_of S43 ⟨by decide, by decide⟩
  obtain ⟨T44, h44, X44, e44, W44, st44⟩ := stR X42 hx hZ e42 Ar43 (j := (12 : Int32)) hin43 rfl (Sto.ofV Ar43 q43 O5 (Ins.self (E_WRITE.ext B41))) (g := (mkF m 89 #[.val (.int p0), .unset, .unset, .unset, .unset] [(.ref w_WRITE), (.int (12 : Int32)), (.ref b5), (.ref b5)])) rfl rfl (hb hby at_89)
  have K44 : Keep h0 h44 [] := K41.wr W44 (Or.inr sz_b5)
  have B44 : Ext h0 h44 := own_keep_ext K44
  have N44 := Fr.snoc X44 N41 (Nat.le_trans Z0 sz_b5)
  have V44 : Arv Z h44 b5 k5 (.object "com/example/bounded_policy/boundedpolicy/service/VendorInitCommand") (13 : Int32) [(.ref w_CHMOD), (.ref w_CHOWN), (.ref w_COPY), (.ref w_MKDIR), (.ref w_MOUNT), (.ref w_RESTORECON), (.ref w_RESTORECON_RECURSIVE), (.ref w_RM), (.ref w_RMDIR), (.ref w_SETPROP), (.ref w_SYMLINK), (.ref w_UMOUNT), (.ref w_WRITE)] .null := Arv.set Ar43 q43 S43 N43 H43 G43 rfl W44 12 rfl (Nat.le_of_ble_eq_true rfl)
  obtain ⟨cl45, Ar45, q45, S45, N45, H45, G45⟩ := V44
  have hin45 := inb_of S45 (own_inb (own_rem p0).1 (own_rem p0).2)
  have hat45 : cl45.slots[(((p0 &&& (2147483647 : Int32)) % (13 : Int32))).toNatClampNeg]? = some (.ref (pk w_CHMOD w_CHOWN w_COPY w_MKDIR w_MOUNT w_RESTORECON w_RESTORECON_RECURSIVE w_RM w_RMDIR w_SETPROP w_SYMLINK w_UMOUNT w_WRITE ((p0 &&& (2147483647 : Int32)) % (13 : Int32)))) := (H45 _ (Nat.lt_of_not_le fun q => hin45 (Or.inr q))).trans (congrArg some (own_at (own_small (own_rem p0).1 (own_rem p0).2)))
  refine own_go (A' := (T44.setTop (mkF m 105 #[.val (.int p0), .val (.ref b5), .val (.int ((p0 &&& (2147483647 : Int32)) % (13 : Int32))), .val (.ref (pk w_CHMOD w_CHOWN w_COPY w_MKDIR w_MOUNT w_RESTORECON w_RESTORECON_RECURSIVE w_RM w_RMDIR w_SETPROP w_SYMLINK w_UMOUNT w_WRITE ((p0 &&& (2147483647 : Int32)) % (13 : Int32)))), .unset] [(.int (3 : Int32)), (.int ((p0 &&& (2147483647 : Int32)) % (13 : Int32)))]))) (fun t k => ?_) ?_
  · show Steps p.tables e below (s₁.setTop (mkF m 0 #[.val (.int p0), .unset, .unset, .unset, .unset] [])) _
    refine XS.bipush X0.here hx rfl (hb hby at_0) ?_
    show Steps p.tables e below (s₁.setTop (mkF m 2 #[.val (.int p0), .unset, .unset, .unset, .unset] [(.int (13 : Int32))])) _
    refine st5 _ ?_
    show Steps p.tables e below (T5.setTop (mkF m 5 #[.val (.int p0), .unset, .unset, .unset, .unset] [(.ref b5)])) _
    refine XS.dup X5.here hx rfl (hb hby at_5) rfl rfl ?_
    show Steps p.tables e below (T5.setTop (mkF m 6 #[.val (.int p0), .unset, .unset, .unset, .unset] [(.ref b5), (.ref b5)])) _
    refine XS.iconst X5.here hx rfl (hb hby at_6) ?_
    show Steps p.tables e below (T5.setTop (mkF m 7 #[.val (.int p0), .unset, .unset, .unset, .unset] [(.int (0 : Int32)), (.ref b5), (.ref b5)])) _
    refine st6 _ ?_
    show Steps p.tables e below (T6.setTop (mkF m 10 #[.val (.int p0), .unset, .unset, .unset, .unset] [(.ref w_CHMOD), (.int (0 : Int32)), (.ref b5), (.ref b5)])) _
    refine st8 _ ?_
    show Steps p.tables e below (T8.setTop (mkF m 11 #[.val (.int p0), .unset, .unset, .unset, .unset] [(.ref b5)])) _
    refine XS.dup X8.here hx rfl (hb hby at_11) rfl rfl ?_
    show Steps p.tables e below (T8.setTop (mkF m 12 #[.val (.int p0), .unset, .unset, .unset, .unset] [(.ref b5), (.ref b5)])) _
    refine XS.iconst X8.here hx rfl (hb hby at_12) ?_
    show Steps p.tables e below (T8.setTop (mkF m 13 #[.val (.int p0), .unset, .unset, .unset, .unset] [(.int (1 : Int32)), (.ref b5), (.ref b5)])) _
    refine st9 _ ?_
    show Steps p.tables e below (T9.setTop (mkF m 16 #[.val (.int p0), .unset, .unset, .unset, .unset] [(.ref w_CHOWN), (.int (1 : Int32)), (.ref b5), (.ref b5)])) _
    refine st11 _ ?_
    show Steps p.tables e below (T11.setTop (mkF m 17 #[.val (.int p0), .unset, .unset, .unset, .unset] [(.ref b5)])) _
    refine XS.dup X11.here hx rfl (hb hby at_17) rfl rfl ?_
    show Steps p.tables e below (T11.setTop (mkF m 18 #[.val (.int p0), .unset, .unset, .unset, .unset] [(.ref b5), (.ref b5)])) _
    refine XS.iconst X11.here hx rfl (hb hby at_18) ?_
    show Steps p.tables e below (T11.setTop (mkF m 19 #[.val (.int p0), .unset, .unset, .unset, .unset] [(.int (2 : Int32)), (.ref b5), (.ref b5)])) _
    refine st12 _ ?_
    show Steps p.tables e below (T12.setTop (mkF m 22 #[.val (.int p0), .unset, .unset, .unset, .unset] [(.ref w_COPY), (.int (2 : Int32)), (.ref b5), (.ref b5)])) _
    refine st14 _ ?_
    show Steps p.tables e below (T14.setTop (mkF m 23 #[.val (.int p0), .unset, .unset, .unset, .unset] [(.ref b5)])) _
    refine XS.dup X14.here hx rfl (hb hby at_23) rfl rfl ?_
    show Steps p.tables e below (T14.setTop (mkF m 24 #[.val (.int p0), .unset, .unset, .unset, .unset] [(.ref b5), (.ref b5)])) _
    refine XS.iconst X14.here hx rfl (hb hby at_24) ?_
    show Steps p.tables e below (T14.setTop (mkF m 25 #[.val (.int p0), .unset, .unset, .unset, .unset] [(.int (3 : Int32)), (.ref b5), (.ref b5)])) _
    refine st15 _ ?_
    show Steps p.tables e below (T15.setTop (mkF m 28 #[.val (.int p0), .unset, .unset, .unset, .unset] [(.ref w_MKDIR), (.int (3 : Int32)), (.ref b5), (.ref b5)])) _
    refine st17 _ ?_
    show Steps p.tables e below (T17.setTop (mkF m 29 #[.val (.int p0), .unset, .unset, .unset, .unset] [(.ref b5)])) _
    refine XS.dup X17.here hx rfl (hb hby at_29) rfl rfl ?_
    show Steps p.tables e below (T17.setTop (mkF m 30 #[.val (.int p0), .unset, .unset, .unset, .unset] [(.ref b5), (.ref b5)])) _
    refine XS.iconst X17.here hx rfl (hb hby at_30) ?_
    show Steps p.tables e below (T17.setTop (mkF m 31 #[.val (.int p0), .unset, .unset, .unset, .unset] [(.int (4 : Int32)), (.ref b5), (.ref b5)])) _
    refine st18 _ ?_
    show Steps p.tables e below (T18.setTop (mkF m 34 #[.val (.int p0), .unset, .unset, .unset, .unset] [(.ref w_MOUNT), (.int (4 : Int32)), (.ref b5), (.ref b5)])) _
    refine st20 _ ?_
    show Steps p.tables e below (T20.setTop (mkF m 35 #[.val (.int p0), .unset, .unset, .unset, .unset] [(.ref b5)])) _
    refine XS.dup X20.here hx rfl (hb hby at_35) rfl rfl ?_
    show Steps p.tables e below (T20.setTop (mkF m 36 #[.val (.int p0), .unset, .unset, .unset, .unset] [(.ref b5), (.ref b5)])) _
    refine XS.iconst X20.here hx rfl (hb hby at_36) ?_
    show Steps p.tables e below (T20.setTop (mkF m 37 #[.val (.int p0), .unset, .unset, .unset, .unset] [(.int (5 : Int32)), (.ref b5), (.ref b5)])) _
    refine st21 _ ?_
    show Steps p.tables e below (T21.setTop (mkF m 40 #[.val (.int p0), .unset, .unset, .unset, .unset] [(.ref w_RESTORECON), (.int (5 : Int32)), (.ref b5), (.ref b5)])) _
    refine st23 _ ?_
    show Steps p.tables e below (T23.setTop (mkF m 41 #[.val (.int p0), .unset, .unset, .unset, .unset] [(.ref b5)])) _
    refine XS.dup X23.here hx rfl (hb hby at_41) rfl rfl ?_
    show Steps p.tables e below (T23.setTop (mkF m 42 #[.val (.int p0), .unset, .unset, .unset, .unset] [(.ref b5), (.ref b5)])) _
    refine XS.bipush X23.here hx rfl (hb hby at_42) ?_
    show Steps p.tables e below (T23.setTop (mkF m 44 #[.val (.int p0), .unset, .unset, .unset, .unset] [(.int (6 : Int32)), (.ref b5), (.ref b5)])) _
    refine st24 _ ?_
    show Steps p.tables e below (T24.setTop (mkF m 47 #[.val (.int p0), .unset, .unset, .unset, .unset] [(.ref w_RESTORECON_RECURSIVE), (.int (6 : Int32)), (.ref b5), (.ref b5)])) _
    refine st26 _ ?_
    show Steps p.tables e below (T26.setTop (mkF m 48 #[.val (.int p0), .unset, .unset, .unset, .unset] [(.ref b5)])) _
    refine XS.dup X26.here hx rfl (hb hby at_48) rfl rfl ?_
    show Steps p.tables e below (T26.setTop (mkF m 49 #[.val (.int p0), .unset, .unset, .unset, .unset] [(.ref b5), (.ref b5)])) _
    refine XS.bipush X26.here hx rfl (hb hby at_49) ?_
    show Steps p.tables e below (T26.setTop (mkF m 51 #[.val (.int p0), .unset, .unset, .unset, .unset] [(.int (7 : Int32)), (.ref b5), (.ref b5)])) _
    refine st27 _ ?_
    show Steps p.tables e below (T27.setTop (mkF m 54 #[.val (.int p0), .unset, .unset, .unset, .unset] [(.ref w_RM), (.int (7 : Int32)), (.ref b5), (.ref b5)])) _
    refine st29 _ ?_
    show Steps p.tables e below (T29.setTop (mkF m 55 #[.val (.int p0), .unset, .unset, .unset, .unset] [(.ref b5)])) _
    refine XS.dup X29.here hx rfl (hb hby at_55) rfl rfl ?_
    show Steps p.tables e below (T29.setTop (mkF m 56 #[.val (.int p0), .unset, .unset, .unset, .unset] [(.ref b5), (.ref b5)])) _
    refine XS.bipush X29.here hx rfl (hb hby at_56) ?_
    show Steps p.tables e below (T29.setTop (mkF m 58 #[.val (.int p0), .unset, .unset, .unset, .unset] [(.int (8 : Int32)), (.ref b5), (.ref b5)])) _
    refine st30 _ ?_
    show Steps p.tables e below (T30.setTop (mkF m 61 #[.val (.int p0), .unset, .unset, .unset, .unset] [(.ref w_RMDIR), (.int (8 : Int32)), (.ref b5), (.ref b5)])) _
    refine st32 _ ?_
    show Steps p.tables e below (T32.setTop (mkF m 62 #[.val (.int p0), .unset, .unset, .unset, .unset] [(.ref b5)])) _
    refine XS.dup X32.here hx rfl (hb hby at_62) rfl rfl ?_
    show Steps p.tables e below (T32.setTop (mkF m 63 #[.val (.int p0), .unset, .unset, .unset, .unset] [(.ref b5), (.ref b5)])) _
    refine XS.bipush X32.here hx rfl (hb hby at_63) ?_
    show Steps p.tables e below (T32.setTop (mkF m 65 #[.val (.int p0), .unset, .unset, .unset, .unset] [(.int (9 : Int32)), (.ref b5), (.ref b5)])) _
    refine st33 _ ?_
    show Steps p.tables e below (T33.setTop (mkF m 68 #[.val (.int p0), .unset, .unset, .unset, .unset] [(.ref w_SETPROP), (.int (9 : Int32)), (.ref b5), (.ref b5)])) _
    refine st35 _ ?_
    show Steps p.tables e below (T35.setTop (mkF m 69 #[.val (.int p0), .unset, .unset, .unset, .unset] [(.ref b5)])) _
    refine XS.dup X35.here hx rfl (hb hby at_69) rfl rfl ?_
    show Steps p.tables e below (T35.setTop (mkF m 70 #[.val (.int p0), .unset, .unset, .unset, .unset] [(.ref b5), (.ref b5)])) _
    refine XS.bipush X35.here hx rfl (hb hby at_70) ?_
    show Steps p.tables e below (T35.setTop (mkF m 72 #[.val (.int p0), .unset, .unset, .unset, .unset] [(.int (10 : Int32)), (.ref b5), (.ref b5)])) _
    refine st36 _ ?_
    show Steps p.tables e below (T36.setTop (mkF m 75 #[.val (.int p0), .unset, .unset, .unset, .unset] [(.ref w_SYMLINK), (.int (10 : Int32)), (.ref b5), (.ref b5)])) _
    refine st38 _ ?_
    show Steps p.tables e below (T38.setTop (mkF m 76 #[.val (.int p0), .unset, .unset, .unset, .unset] [(.ref b5)])) _
    refine XS.dup X38.here hx rfl (hb hby at_76) rfl rfl ?_
    show Steps p.tables e below (T38.setTop (mkF m 77 #[.val (.int p0), .unset, .unset, .unset, .unset] [(.ref b5), (.ref b5)])) _
    refine XS.bipush X38.here hx rfl (hb hby at_77) ?_
    show Steps p.tables e below (T38.setTop (mkF m 79 #[.val (.int p0), .unset, .unset, .unset, .unset] [(.int (11 : Int32)), (.ref b5), (.ref b5)])) _
    refine st39 _ ?_
    show Steps p.tables e below (T39.setTop (mkF m 82 #[.val (.int p0), .unset, .unset, .unset, .unset] [(.ref w_UMOUNT), (.int (11 : Int32)), (.ref b5), (.ref b5)])) _
    refine st41 _ ?_
    show Steps p.tables e below (T41.setTop (mkF m 83 #[.val (.int p0), .unset, .unset, .unset, .unset] [(.ref b5)])) _
    refine XS.dup X41.here hx rfl (hb hby at_83) rfl rfl ?_
    show Steps p.tables e below (T41.setTop (mkF m 84 #[.val (.int p0), .unset, .unset, .unset, .unset] [(.ref b5), (.ref b5)])) _
    refine XS.bipush X41.here hx rfl (hb hby at_84) ?_
    show Steps p.tables e below (T41.setTop (mkF m 86 #[.val (.int p0), .unset, .unset, .unset, .unset] [(.int (12 : Int32)), (.ref b5), (.ref b5)])) _
    refine st42 _ ?_
    show Steps p.tables e below (T42.setTop (mkF m 89 #[.val (.int p0), .unset, .unset, .unset, .unset] [(.ref w_WRITE), (.int (12 : Int32)), (.ref b5), (.ref b5)])) _
    refine st44 _ ?_
    show Steps p.tables e below (T44.setTop (mkF m 90 #[.val (.int p0), .unset, .unset, .unset, .unset] [(.ref b5)])) _
    refine XS.astoreN X44.here hx rfl (hb hby at_90) rfl rfl (l' := #[.val (.int p0), .val (.ref b5), .unset, .unset, .unset]) rfl ?_
    show Steps p.tables e below (T44.setTop (mkF m 91 #[.val (.int p0), .val (.ref b5), .unset, .unset, .unset] [])) _
    refine XS.iloadN X44.here hx rfl (hb hby at_91) rfl ?_
    show Steps p.tables e below (T44.setTop (mkF m 92 #[.val (.int p0), .val (.ref b5), .unset, .unset, .unset] [(.int p0)])) _
    refine X44.ldcInt hx hown (mvT hZ (hw _ (List.mem_of_getElem? (i := 30) rfl))) (g := (mkF m 92 #[.val (.int p0), .val (.ref b5), .unset, .unset, .unset] [(.int p0)])) rfl (hb hby at_92) _ ?_
    show Steps p.tables e below (T44.setTop (mkF m 94 #[.val (.int p0), .val (.ref b5), .unset, .unset, .unset] [(.int (2147483647 : Int32)), (.int p0)])) _
    refine XS.iand X44.here hx rfl (hb hby at_94) rfl ?_
    show Steps p.tables e below (T44.setTop (mkF m 95 #[.val (.int p0), .val (.ref b5), .unset, .unset, .unset] [(.int (p0 &&& (2147483647 : Int32)))])) _
    refine XS.bipush X44.here hx rfl (hb hby at_95) ?_
    show Steps p.tables e below (T44.setTop (mkF m 97 #[.val (.int p0), .val (.ref b5), .unset, .unset, .unset] [(.int (13 : Int32)), (.int (p0 &&& (2147483647 : Int32)))])) _
    refine iremM X44 hx (g := (mkF m 97 #[.val (.int p0), .val (.ref b5), .unset, .unset, .unset] [(.int (13 : Int32)), (.int (p0 &&& (2147483647 : Int32)))])) rfl (hb hby at_97) rfl (by decide) ?_
    show Steps p.tables e below (T44.setTop (mkF m 98 #[.val (.int p0), .val (.ref b5), .unset, .unset, .unset] [(.int ((p0 &&& (2147483647 : Int32)) % (13 : Int32)))])) _
    refine XS.istoreN X44.here hx rfl (hb hby at_98) rfl (l' := #[.val (.int p0), .val (.ref b5), .val (.int ((p0 &&& (2147483647 : Int32)) % (13 : Int32))), .unset, .unset]) rfl ?_
    show Steps p.tables e below (T44.setTop (mkF m 99 #[.val (.int p0), .val (.ref b5), .val (.int ((p0 &&& (2147483647 : Int32)) % (13 : Int32))), .unset, .unset] [])) _
    refine XS.aloadN X44.here hx rfl (hb hby at_99) rfl rfl ?_
    show Steps p.tables e below (T44.setTop (mkF m 100 #[.val (.int p0), .val (.ref b5), .val (.int ((p0 &&& (2147483647 : Int32)) % (13 : Int32))), .unset, .unset] [(.ref b5)])) _
    refine XS.iloadN X44.here hx rfl (hb hby at_100) rfl ?_
    show Steps p.tables e below (T44.setTop (mkF m 101 #[.val (.int p0), .val (.ref b5), .val (.int ((p0 &&& (2147483647 : Int32)) % (13 : Int32))), .unset, .unset] [(.int ((p0 &&& (2147483647 : Int32)) % (13 : Int32))), (.ref b5)])) _
    refine X44.aaload hx (j := ((p0 &&& (2147483647 : Int32)) % (13 : Int32))) (v := (.ref (pk w_CHMOD w_CHOWN w_COPY w_MKDIR w_MOUNT w_RESTORECON w_RESTORECON_RECURSIVE w_RM w_RMDIR w_SETPROP w_SYMLINK w_UMOUNT w_WRITE ((p0 &&& (2147483647 : Int32)) % (13 : Int32))))) (by rw [e44]; exact Ar45.1) (State.isArrayOf_alike hZ.alike Ar45.2.1) rfl Ar45.2.2 hin45 hat45 (g := (mkF m 101 #[.val (.int p0), .val (.ref b5), .val (.int ((p0 &&& (2147483647 : Int32)) % (13 : Int32))), .unset, .unset] [(.int ((p0 &&& (2147483647 : Int32)) % (13 : Int32))), (.ref b5)])) rfl rfl (hb hby at_101) _ ?_
    show Steps p.tables e below (T44.setTop (mkF m 102 #[.val (.int p0), .val (.ref b5), .val (.int ((p0 &&& (2147483647 : Int32)) % (13 : Int32))), .unset, .unset] [(.ref (pk w_CHMOD w_CHOWN w_COPY w_MKDIR w_MOUNT w_RESTORECON w_RESTORECON_RECURSIVE w_RM w_RMDIR w_SETPROP w_SYMLINK w_UMOUNT w_WRITE ((p0 &&& (2147483647 : Int32)) % (13 : Int32))))])) _
    refine XS.astoreN X44.here hx rfl (hb hby at_102) rfl rfl (l' := #[.val (.int p0), .val (.ref b5), .val (.int ((p0 &&& (2147483647 : Int32)) % (13 : Int32))), .val (.ref (pk w_CHMOD w_CHOWN w_COPY w_MKDIR w_MOUNT w_RESTORECON w_RESTORECON_RECURSIVE w_RM w_RMDIR w_SETPROP w_SYMLINK w_UMOUNT w_WRITE ((p0 &&& (2147483647 : Int32)) % (13 : Int32)))), .unset]) rfl ?_
    show Steps p.tables e below (T44.setTop (mkF m 103 #[.val (.int p0), .val (.ref b5), .val (.int ((p0 &&& (2147483647 : Int32)) % (13 : Int32))), .val (.ref (pk w_CHMOD w_CHOWN w_COPY w_MKDIR w_MOUNT w_RESTORECON w_RESTORECON_RECURSIVE w_RM w_RMDIR w_SETPROP w_SYMLINK w_UMOUNT w_WRITE ((p0 &&& (2147483647 : Int32)) % (13 : Int32)))), .unset] [])) _
    refine XS.iloadN X44.here hx rfl (hb hby at_103) rfl ?_
    show Steps p.tables e below (T44.setTop (mkF m 104 #[.val (.int p0), .val (.ref b5), .val (.int ((p0 &&& (2147483647 : Int32)) % (13 : Int32))), .val (.ref (pk w_CHMOD w_CHOWN w_COPY w_MKDIR w_MOUNT w_RESTORECON w_RESTORECON_RECURSIVE w_RM w_RMDIR w_SETPROP w_SYMLINK w_UMOUNT w_WRITE ((p0 &&& (2147483647 : Int32)) % (13 : Int32)))), .unset] [(.int ((p0 &&& (2147483647 : Int32)) % (13 : Int32)))])) _
    refine XS.iconst X44.here hx rfl (hb hby at_104) ?_
    exact k
  by_cases hc46 : ((p0 &&& (2147483647 : Int32)) % (13 : Int32)) = (3 : Int32)
  · -- hc46: yes
    refine own_go (A' := (T44.setTop (mkF m 113 #[.val (.int p0), .val (.ref b5), .val (.int ((p0 &&& (2147483647 : Int32)) % (13 : Int32))), .val (.ref (pk w_CHMOD w_CHOWN w_COPY w_MKDIR w_MOUNT w_RESTORECON w_RESTORECON_RECURSIVE w_RM w_RMDIR w_SETPROP w_SYMLINK w_UMOUNT w_WRITE ((p0 &&& (2147483647 : Int32)) % (13 : Int32)))), .unset] []))) (fun t k => XS.icmpYes X44.here hx rfl (pc0 := 105) (pc' := 113) rfl (hb hby at_105) rfl (teq hc46).1 (by decide) (by decide) k) ?_
    obtain ⟨cq47, kq47, q47a, q47b, q47c⟩ := isOf hZ e44 (pk_exa _ (E_CHMOD.ext B44) (E_CHOWN.ext B44) (E_COPY.ext B44) (E_MKDIR.ext B44) (E_MOUNT.ext B44) (E_RESTORECON.ext B44) (E_RESTORECON_RECURSIVE.ext B44) (E_RM.ext B44) (E_RMDIR.ext B44) (E_SETPROP.ext B44) (E_SYMLINK.ext B44) (E_UMOUNT.ext B44) (E_WRITE.ext B44))
    obtain ⟨_, _, ⟨T47, L47, k47, n47⟩, -, X47, ⟨Lc47, hQ47, l47, y47, z47⟩, st47⟩ := X44.virtualBack hx (y := (⟨"com/example/bounded_policy/boundedpolicy/service/VendorInitCommand", "actsBeforeMount", "()Z"⟩ : MethodName)) (z := (⟨"com/example/bounded_policy/boundedpolicy/service/VendorInitCommand", "actsBeforeMount", "()Z"⟩ : MethodName)) hown (mvT hZ (hw _ (List.mem_of_getElem? (i := 31) rfl))) (mvT hZ (hw _ (List.mem_of_getElem? (i := 32) rfl))) (notFace_of_selects (args := #[]) (mvT hZ (hw _ (List.mem_of_getElem? (i := 34) rfl)))) (mvT hZ (hw _ (List.mem_of_getElem? (i := 34) rfl))) (mvT hZ (hw _ (List.mem_of_getElem? (i := 33) rfl))) (by decide) (backOf (W := 0) (rm1 l Z a0 hw [] (pk w_CHMOD w_CHOWN w_COPY w_MKDIR w_MOUNT w_RESTORECON w_RESTORECON_RECURSIVE w_RM w_RMDIR w_SETPROP w_SYMLINK w_UMOUNT w_WRITE ((p0 &&& (2147483647 : Int32)) % (13 : Int32))) w_CHMOD w_CHOWN w_COPY w_MKDIR w_MOUNT w_RESTORECON w_RESTORECON_RECURSIVE w_RM w_RMDIR w_SETPROP w_SYMLINK w_UMOUNT w_WRITE h44 n0 (Nat.le_trans Z0 K44.1) (S_CHMOD.ext B44) (S_CHOWN.ext B44) (S_COPY.ext B44) (S_MKDIR.ext B44) (S_MOUNT.ext B44) (S_RESTORECON.ext B44) (S_RESTORECON_RECURSIVE.ext B44) (S_RM.ext B44) (S_RMDIR.ext B44) (S_SETPROP.ext B44) (S_SYMLINK.ext B44) (S_UMOUNT.ext B44) (S_WRITE.ext B44) (E_CHMOD.ext B44) (E_CHOWN.ext B44) (E_COPY.ext B44) (E_MKDIR.ext B44) (E_MOUNT.ext B44) (E_RESTORECON.ext B44) (E_RESTORECON_RECURSIVE.ext B44) (E_RM.ext B44) (E_RMDIR.ext B44) (E_SETPROP.ext B44) (E_SYMLINK.ext B44) (E_UMOUNT.ext B44) (E_WRITE.ext B44) (O_CHMOD_ordinal.ext B44) (O_CHOWN_ordinal.ext B44) (O_COPY_ordinal.ext B44) (O_MKDIR_ordinal.ext B44) (O_MOUNT_ordinal.ext B44) (O_RESTORECON_ordinal.ext B44) (O_RESTORECON_RECURSIVE_ordinal.ext B44) (O_RM_ordinal.ext B44) (O_RMDIR_ordinal.ext B44) (O_SETPROP_ordinal.ext B44) (O_SYMLINK_ordinal.ext B44) (O_UMOUNT_ordinal.ext B44) (O_WRITE_ordinal.ext B44)) hZ (hw _ (List.mem_of_getElem? (i := 35) rfl)) (hw _ (List.mem_of_getElem? (i := 3) rfl)) (by decide) (by decide)) q47a q47c (g := (mkF m 121 #[.val (.int p0), .val (.ref b5), .val (.int ((p0 &&& (2147483647 : Int32)) % (13 : Int32))), .val (.ref (pk w_CHMOD w_CHOWN w_COPY w_MKDIR w_MOUNT w_RESTORECON w_RESTORECON_RECURSIVE w_RM w_RMDIR w_SETPROP w_SYMLINK w_UMOUNT w_WRITE ((p0 &&& (2147483647 : Int32)) % (13 : Int32)))), .val (.int (1 : Int32))] [(.ref (pk w_CHMOD w_CHOWN w_COPY w_MKDIR w_MOUNT w_RESTORECON w_RESTORECON_RECURSIVE w_RM w_RMDIR w_SETPROP w_SYMLINK w_UMOUNT w_WRITE ((p0 &&& (2147483647 : Int32)) % (13 : Int32))))])) rfl (by rw [hml]; rfl) (Steps.refl _) (argsL := []) (rest := []) (lenOf pd_0 rfl) rfl (by show 2 * 0 + _ ≤ _; exact Nat.le_of_eq rfl) (hb hby at_121) (fun _ _ => ⟨rfl, e44, (by decide : 1 + 0 ≤ _), (by decide : 13 + 0 ≤ _)⟩)
    dsimp only [Pt.U, Pt.locs, Pt.cells, Pt.slots] at X47 l47 y47 z47 st47 hQ47
    subst l47 y47 z47
    obtain ⟨rfl, N47q, e47⟩ := hQ47
    have N47 := Fr.app N44 N47q
    refine own_go (A' := (T47.setTop (mkF m 126 #[.val (.int p0), .val (.ref b5), .val (.int ((p0 &&& (2147483647 : Int32)) % (13 : Int32))), .val (.ref (pk w_CHMOD w_CHOWN w_COPY w_MKDIR w_MOUNT w_RESTORECON w_RESTORECON_RECURSIVE w_RM w_RMDIR w_SETPROP w_SYMLINK w_UMOUNT w_WRITE ((p0 &&& (2147483647 : Int32)) % (13 : Int32)))), .val (.int (1 : Int32))] [(.int (1 : Int32)), (.int (isF w_MKDIR w_MOUNT (pk w_CHMOD w_CHOWN w_COPY w_MKDIR w_MOUNT w_RESTORECON w_RESTORECON_RECURSIVE w_RM w_RMDIR w_SETPROP w_SYMLINK w_UMOUNT w_WRITE ((p0 &&& (2147483647 : Int32)) % (13 : Int32)))))]))) (fun t k => ?_) ?_
    · show Steps p.tables e below (T44.setTop (mkF m 113 #[.val (.int p0), .val (.ref b5), .val (.int ((p0 &&& (2147483647 : Int32)) % (13 : Int32))), .val (.ref (pk w_CHMOD w_CHOWN w_COPY w_MKDIR w_MOUNT w_RESTORECON w_RESTORECON_RECURSIVE w_RM w_RMDIR w_SETPROP w_SYMLINK w_UMOUNT w_WRITE ((p0 &&& (2147483647 : Int32)) % (13 : Int32)))), .unset] [])) _
      refine XS.iconst X44.here hx rfl (hb hby at_113) ?_
      show Steps p.tables e below (T44.setTop (mkF m 114 #[.val (.int p0), .val (.ref b5), .val (.int ((p0 &&& (2147483647 : Int32)) % (13 : Int32))), .val (.ref (pk w_CHMOD w_CHOWN w_COPY w_MKDIR w_MOUNT w_RESTORECON w_RESTORECON_RECURSIVE w_RM w_RMDIR w_SETPROP w_SYMLINK w_UMOUNT w_WRITE ((p0 &&& (2147483647 : Int32)) % (13 : Int32)))), .unset] [(.int (1 : Int32))])) _
      refine XS.goto X44.here hx rfl (pc0 := 114) (pc' := 118) rfl (hb hby at_114) (by decide) (by decide) ?_
      show Steps p.tables e below (T44.setTop (mkF m 118 #[.val (.int p0), .val (.ref b5), .val (.int ((p0 &&& (2147483647 : Int32)) % (13 : Int32))), .val (.ref (pk w_CHMOD w_CHOWN w_COPY w_MKDIR w_MOUNT w_RESTORECON w_RESTORECON_RECURSIVE w_RM w_RMDIR w_SETPROP w_SYMLINK w_UMOUNT w_WRITE ((p0 &&& (2147483647 : Int32)) % (13 : Int32)))), .unset] [(.int (1 : Int32))])) _
      refine XS.istore X44.here hx rfl (hb hby at_118) rfl (l' := #[.val (.int p0), .val (.ref b5), .val (.int ((p0 &&& (2147483647 : Int32)) % (13 : Int32))), .val (.ref (pk w_CHMOD w_CHOWN w_COPY w_MKDIR w_MOUNT w_RESTORECON w_RESTORECON_RECURSIVE w_RM w_RMDIR w_SETPROP w_SYMLINK w_UMOUNT w_WRITE ((p0 &&& (2147483647 : Int32)) % (13 : Int32)))), .val (.int (1 : Int32))]) rfl ?_
      show Steps p.tables e below (T44.setTop (mkF m 120 #[.val (.int p0), .val (.ref b5), .val (.int ((p0 &&& (2147483647 : Int32)) % (13 : Int32))), .val (.ref (pk w_CHMOD w_CHOWN w_COPY w_MKDIR w_MOUNT w_RESTORECON w_RESTORECON_RECURSIVE w_RM w_RMDIR w_SETPROP w_SYMLINK w_UMOUNT w_WRITE ((p0 &&& (2147483647 : Int32)) % (13 : Int32)))), .val (.int (1 : Int32))] [])) _
      refine XS.aloadN X44.here hx rfl (hb hby at_120) rfl rfl ?_
      show Steps p.tables e below (T44.setTop (mkF m 121 #[.val (.int p0), .val (.ref b5), .val (.int ((p0 &&& (2147483647 : Int32)) % (13 : Int32))), .val (.ref (pk w_CHMOD w_CHOWN w_COPY w_MKDIR w_MOUNT w_RESTORECON w_RESTORECON_RECURSIVE w_RM w_RMDIR w_SETPROP w_SYMLINK w_UMOUNT w_WRITE ((p0 &&& (2147483647 : Int32)) % (13 : Int32)))), .val (.int (1 : Int32))] [(.ref (pk w_CHMOD w_CHOWN w_COPY w_MKDIR w_MOUNT w_RESTORECON w_RESTORECON_RECURSIVE w_RM w_RMDIR w_SETPROP w_SYMLINK w_UMOUNT w_WRITE ((p0 &&& (2147483647 : Int32)) % (13 : Int32))))])) _
      refine st47.trans ?_
      show Steps p.tables e below (T47.setTop (mkF m 124 #[.val (.int p0), .val (.ref b5), .val (.int ((p0 &&& (2147483647 : Int32)) % (13 : Int32))), .val (.ref (pk w_CHMOD w_CHOWN w_COPY w_MKDIR w_MOUNT w_RESTORECON w_RESTORECON_RECURSIVE w_RM w_RMDIR w_SETPROP w_SYMLINK w_UMOUNT w_WRITE ((p0 &&& (2147483647 : Int32)) % (13 : Int32)))), .val (.int (1 : Int32))] [(.int (isF w_MKDIR w_MOUNT (pk w_CHMOD w_CHOWN w_COPY w_MKDIR w_MOUNT w_RESTORECON w_RESTORECON_RECURSIVE w_RM w_RMDIR w_SETPROP w_SYMLINK w_UMOUNT w_WRITE ((p0 &&& (2147483647 : Int32)) % (13 : Int32)))))])) _
      refine XS.iload X47.here hx rfl (hb hby at_124) rfl ?_
      exact k
    refine own_go (A' := (T47.setTop (mkF m 129 #[.val (.int p0), .val (.ref b5), .val (.int ((p0 &&& (2147483647 : Int32)) % (13 : Int32))), .val (.ref (pk w_CHMOD w_CHOWN w_COPY w_MKDIR w_MOUNT w_RESTORECON w_RESTORECON_RECURSIVE w_RM w_RMDIR w_SETPROP w_SYMLINK w_UMOUNT w_WRITE ((p0 &&& (2147483647 : Int32)) % (13 : Int32)))), .val (.int (1 : Int32))] []))) (fun t k => XS.icmpNo X47.here hx rfl (hb hby at_126) rfl (teq ((own_key (own_fld_ne O_CHMOD_ordinal O_MKDIR_ordinal (by decide)) (own_fld_ne O_CHMOD_ordinal O_MOUNT_ordinal (by decide)) (own_fld_ne O_CHOWN_ordinal O_MKDIR_ordinal (by decide)) (own_fld_ne O_CHOWN_ordinal O_MOUNT_ordinal (by decide)) (own_fld_ne O_COPY_ordinal O_MKDIR_ordinal (by decide)) (own_fld_ne O_COPY_ordinal O_MOUNT_ordinal (by decide)) (own_fld_ne O_MKDIR_ordinal O_MOUNT_ordinal (by decide)) (own_fld_ne O_MOUNT_ordinal O_MKDIR_ordinal (by decide)) (own_fld_ne O_RESTORECON_ordinal O_MKDIR_ordinal (by decide)) (own_fld_ne O_RESTORECON_ordinal O_MOUNT_ordinal (by decide)) (own_fld_ne O_RESTORECON_RECURSIVE_ordinal O_MKDIR_ordinal (by decide)) (own_fld_ne O_RESTORECON_RECURSIVE_ordinal O_MOUNT_ordinal (by decide)) (own_fld_ne O_RM_ordinal O_MKDIR_ordinal (by decide)) (own_fld_ne O_RM_ordinal O_MOUNT_ordinal (by decide)) (own_fld_ne O_RMDIR_ordinal O_MKDIR_ordinal (by decide)) (own_fld_ne O_RMDIR_ordinal O_MOUNT_ordinal (by decide)) (own_fld_ne O_SETPROP_ordinal O_MKDIR_ordinal (by decide)) (own_fld_ne O_SETPROP_ordinal O_MOUNT_ordinal (by decide)) (own_fld_ne O_SYMLINK_ordinal O_MKDIR_ordinal (by decide)) (own_fld_ne O_SYMLINK_ordinal O_MOUNT_ordinal (by decide)) (own_fld_ne O_UMOUNT_ordinal O_MKDIR_ordinal (by decide)) (own_fld_ne O_UMOUNT_ordinal O_MOUNT_ordinal (by decide)) (own_fld_ne O_WRITE_ordinal O_MKDIR_ordinal (by decide)) (own_fld_ne O_WRITE_ordinal O_MOUNT_ordinal (by decide)) (own_small (own_rem p0).1 (own_rem p0).2)).trans (by rw [exF, if_pos hc46]))).2 k) ?_
    refine own_go (A' := (T47.setTop (mkF m 134 #[.val (.int p0), .val (.ref b5), .val (.int ((p0 &&& (2147483647 : Int32)) % (13 : Int32))), .val (.ref (pk w_CHMOD w_CHOWN w_COPY w_MKDIR w_MOUNT w_RESTORECON w_RESTORECON_RECURSIVE w_RM w_RMDIR w_SETPROP w_SYMLINK w_UMOUNT w_WRITE ((p0 &&& (2147483647 : Int32)) % (13 : Int32)))), .val (.int (1 : Int32))] [(.int (1 : Int32))]))) (fun t k => ?_) ?_
    · show Steps p.tables e below (T47.setTop (mkF m 129 #[.val (.int p0), .val (.ref b5), .val (.int ((p0 &&& (2147483647 : Int32)) % (13 : Int32))), .val (.ref (pk w_CHMOD w_CHOWN w_COPY w_MKDIR w_MOUNT w_RESTORECON w_RESTORECON_RECURSIVE w_RM w_RMDIR w_SETPROP w_SYMLINK w_UMOUNT w_WRITE ((p0 &&& (2147483647 : Int32)) % (13 : Int32)))), .val (.int (1 : Int32))] [])) _
      refine XS.iconst X47.here hx rfl (hb hby at_129) ?_
      show Steps p.tables e below (T47.setTop (mkF m 130 #[.val (.int p0), .val (.ref b5), .val (.int ((p0 &&& (2147483647 : Int32)) % (13 : Int32))), .val (.ref (pk w_CHMOD w_CHOWN w_COPY w_MKDIR w_MOUNT w_RESTORECON w_RESTORECON_RECURSIVE w_RM w_RMDIR w_SETPROP w_SYMLINK w_UMOUNT w_WRITE ((p0 &&& (2147483647 : Int32)) % (13 : Int32)))), .val (.int (1 : Int32))] [(.int (1 : Int32))])) _
      refine XS.goto X47.here hx rfl (pc0 := 130) (pc' := 134) rfl (hb hby at_130) (by decide) (by decide) ?_
      exact k
    obtain ⟨fs, hr, hrun, hended, hW, hsame⟩ := X47.leave (v := some (.int (1 : Int32))) (fun h => by rw [Bd.returns] at h; cases h)
    refine ⟨_, _, ?_, hrun, hended, _, _, rfl, ?_, ⟨_, rfl⟩, hW, hsame.mono (by decide) (by decide)⟩
    · show Steps p.tables e below (T47.setTop (mkF m 134 #[.val (.int p0), .val (.ref b5), .val (.int ((p0 &&& (2147483647 : Int32)) % (13 : Int32))), .val (.ref (pk w_CHMOD w_CHOWN w_COPY w_MKDIR w_MOUNT w_RESTORECON w_RESTORECON_RECURSIVE w_RM w_RMDIR w_SETPROP w_SYMLINK w_UMOUNT w_WRITE ((p0 &&& (2147483647 : Int32)) % (13 : Int32)))), .val (.int (1 : Int32))] [(.int (1 : Int32))])) _
      exact retN X47 hx (t := .boolean) Bd.returns (by simp) (hb hby at_134) hr
    · show Q0 Z p0 w_CHMOD w_CHOWN w_COPY w_MKDIR w_MOUNT w_RESTORECON w_RESTORECON_RECURSIVE w_RM w_RMDIR w_SETPROP w_SYMLINK w_UMOUNT w_WRITE h0 n0 _ T47.heap _
      exact ⟨rfl, N47⟩
  · -- hc46: no
    refine own_go (A' := (T44.setTop (mkF m 108 #[.val (.int p0), .val (.ref b5), .val (.int ((p0 &&& (2147483647 : Int32)) % (13 : Int32))), .val (.ref (pk w_CHMOD w_CHOWN w_COPY w_MKDIR w_MOUNT w_RESTORECON w_RESTORECON_RECURSIVE w_RM w_RMDIR w_SETPROP w_SYMLINK w_UMOUNT w_WRITE ((p0 &&& (2147483647 : Int32)) % (13 : Int32)))), .unset] []))) (fun t k => XS.icmpNo X44.here hx rfl (hb hby at_105) rfl (feq hc46).1 k) ?_
    refine own_go (A' := (T44.setTop (mkF m 110 #[.val (.int p0), .val (.ref b5), .val (.int ((p0 &&& (2147483647 : Int32)) % (13 : Int32))), .val (.ref (pk w_CHMOD w_CHOWN w_COPY w_MKDIR w_MOUNT w_RESTORECON w_RESTORECON_RECURSIVE w_RM w_RMDIR w_SETPROP w_SYMLINK w_UMOUNT w_WRITE ((p0 &&& (2147483647 : Int32)) % (13 : Int32)))), .unset] [(.int (4 : Int32)), (.int ((p0 &&& (2147483647 : Int32)) % (13 : Int32)))]))) (fun t k => ?_) ?_
    · show Steps p.tables e below (T44.setTop (mkF m 108 #[.val (.int p0), .val (.ref b5), .val (.int ((p0 &&& (2147483647 : Int32)) % (13 : Int32))), .val (.ref (pk w_CHMOD w_CHOWN w_COPY w_MKDIR w_MOUNT w_RESTORECON w_RESTORECON_RECURSIVE w_RM w_RMDIR w_SETPROP w_SYMLINK w_UMOUNT w_WRITE ((p0 &&& (2147483647 : Int32)) % (13 : Int32)))), .unset] [])) _
      refine XS.iloadN X44.here hx rfl (hb hby at_108) rfl ?_
      show Steps p.tables e below (T44.setTop (mkF m 109 #[.val (.int p0), .val (.ref b5), .val (.int ((p0 &&& (2147483647 : Int32)) % (13 : Int32))), .val (.ref (pk w_CHMOD w_CHOWN w_COPY w_MKDIR w_MOUNT w_RESTORECON w_RESTORECON_RECURSIVE w_RM w_RMDIR w_SETPROP w_SYMLINK w_UMOUNT w_WRITE ((p0 &&& (2147483647 : Int32)) % (13 : Int32)))), .unset] [(.int ((p0 &&& (2147483647 : Int32)) % (13 : Int32)))])) _
      refine XS.iconst X44.here hx rfl (hb hby at_109) ?_
      exact k
    by_cases hc48 : ((p0 &&& (2147483647 : Int32)) % (13 : Int32)) = (4 : Int32)
    · -- hc48: yes
      refine own_go (A' := (T44.setTop (mkF m 113 #[.val (.int p0), .val (.ref b5), .val (.int ((p0 &&& (2147483647 : Int32)) % (13 : Int32))), .val (.ref (pk w_CHMOD w_CHOWN w_COPY w_MKDIR w_MOUNT w_RESTORECON w_RESTORECON_RECURSIVE w_RM w_RMDIR w_SETPROP w_SYMLINK w_UMOUNT w_WRITE ((p0 &&& (2147483647 : Int32)) % (13 : Int32)))), .unset] []))) (fun t k => XS.icmpNo X44.here hx rfl (hb hby at_110) rfl (teq hc48).2 k) ?_
      obtain ⟨cq49, kq49, q49a, q49b, q49c⟩ := isOf hZ e44 (pk_exa _ (E_CHMOD.ext B44) (E_CHOWN.ext B44) (E_COPY.ext B44) (E_MKDIR.ext B44) (E_MOUNT.ext B44) (E_RESTORECON.ext B44) (E_RESTORECON_RECURSIVE.ext B44) (E_RM.ext B44) (E_RMDIR.ext B44) (E_SETPROP.ext B44) (E_SYMLINK.ext B44) (E_UMOUNT.ext B44) (E_WRITE.ext B44))
      obtain ⟨_, _, ⟨T49, L49, k49, n49⟩, -, X49, ⟨Lc49, hQ49, l49, y49, z49⟩, st49⟩ := X44.virtualBack hx (y := (⟨"com/example/bounded_policy/boundedpolicy/service/VendorInitCommand", "actsBeforeMount", "()Z"⟩ : MethodName)) (z := (⟨"com/example/bounded_policy/boundedpolicy/service/VendorInitCommand", "actsBeforeMount", "()Z"⟩ : MethodName)) hown (mvT hZ (hw _ (List.mem_of_getElem? (i := 31) rfl))) (mvT hZ (hw _ (List.mem_of_getElem? (i := 32) rfl))) (notFace_of_selects (args := #[]) (mvT hZ (hw _ (List.mem_of_getElem? (i := 34) rfl)))) (mvT hZ (hw _ (List.mem_of_getElem? (i := 34) rfl))) (mvT hZ (hw _ (List.mem_of_getElem? (i := 33) rfl))) (by decide) (backOf (W := 0) (rm1 l Z a0 hw [] (pk w_CHMOD w_CHOWN w_COPY w_MKDIR w_MOUNT w_RESTORECON w_RESTORECON_RECURSIVE w_RM w_RMDIR w_SETPROP w_SYMLINK w_UMOUNT w_WRITE ((p0 &&& (2147483647 : Int32)) % (13 : Int32))) w_CHMOD w_CHOWN w_COPY w_MKDIR w_MOUNT w_RESTORECON w_RESTORECON_RECURSIVE w_RM w_RMDIR w_SETPROP w_SYMLINK w_UMOUNT w_WRITE h44 n0 (Nat.le_trans Z0 K44.1) (S_CHMOD.ext B44) (S_CHOWN.ext B44) (S_COPY.ext B44) (S_MKDIR.ext B44) (S_MOUNT.ext B44) (S_RESTORECON.ext B44) (S_RESTORECON_RECURSIVE.ext B44) (S_RM.ext B44) (S_RMDIR.ext B44) (S_SETPROP.ext B44) (S_SYMLINK.ext B44) (S_UMOUNT.ext B44) (S_WRITE.ext B44) (E_CHMOD.ext B44) (E_CHOWN.ext B44) (E_COPY.ext B44) (E_MKDIR.ext B44) (E_MOUNT.ext B44) (E_RESTORECON.ext B44) (E_RESTORECON_RECURSIVE.ext B44) (E_RM.ext B44) (E_RMDIR.ext B44) (E_SETPROP.ext B44) (E_SYMLINK.ext B44) (E_UMOUNT.ext B44) (E_WRITE.ext B44) (O_CHMOD_ordinal.ext B44) (O_CHOWN_ordinal.ext B44) (O_COPY_ordinal.ext B44) (O_MKDIR_ordinal.ext B44) (O_MOUNT_ordinal.ext B44) (O_RESTORECON_ordinal.ext B44) (O_RESTORECON_RECURSIVE_ordinal.ext B44) (O_RM_ordinal.ext B44) (O_RMDIR_ordinal.ext B44) (O_SETPROP_ordinal.ext B44) (O_SYMLINK_ordinal.ext B44) (O_UMOUNT_ordinal.ext B44) (O_WRITE_ordinal.ext B44)) hZ (hw _ (List.mem_of_getElem? (i := 35) rfl)) (hw _ (List.mem_of_getElem? (i := 3) rfl)) (by decide) (by decide)) q49a q49c (g := (mkF m 121 #[.val (.int p0), .val (.ref b5), .val (.int ((p0 &&& (2147483647 : Int32)) % (13 : Int32))), .val (.ref (pk w_CHMOD w_CHOWN w_COPY w_MKDIR w_MOUNT w_RESTORECON w_RESTORECON_RECURSIVE w_RM w_RMDIR w_SETPROP w_SYMLINK w_UMOUNT w_WRITE ((p0 &&& (2147483647 : Int32)) % (13 : Int32)))), .val (.int (1 : Int32))] [(.ref (pk w_CHMOD w_CHOWN w_COPY w_MKDIR w_MOUNT w_RESTORECON w_RESTORECON_RECURSIVE w_RM w_RMDIR w_SETPROP w_SYMLINK w_UMOUNT w_WRITE ((p0 &&& (2147483647 : Int32)) % (13 : Int32))))])) rfl (by rw [hml]; rfl) (Steps.refl _) (argsL := []) (rest := []) (lenOf pd_0 rfl) rfl (by show 2 * 0 + _ ≤ _; exact Nat.le_of_eq rfl) (hb hby at_121) (fun _ _ => ⟨rfl, e44, (by decide : 1 + 0 ≤ _), (by decide : 13 + 0 ≤ _)⟩)
      dsimp only [Pt.U, Pt.locs, Pt.cells, Pt.slots] at X49 l49 y49 z49 st49 hQ49
      subst l49 y49 z49
      obtain ⟨rfl, N49q, e49⟩ := hQ49
      have N49 := Fr.app N44 N49q
      refine own_go (A' := (T49.setTop (mkF m 126 #[.val (.int p0), .val (.ref b5), .val (.int ((p0 &&& (2147483647 : Int32)) % (13 : Int32))), .val (.ref (pk w_CHMOD w_CHOWN w_COPY w_MKDIR w_MOUNT w_RESTORECON w_RESTORECON_RECURSIVE w_RM w_RMDIR w_SETPROP w_SYMLINK w_UMOUNT w_WRITE ((p0 &&& (2147483647 : Int32)) % (13 : Int32)))), .val (.int (1 : Int32))] [(.int (1 : Int32)), (.int (isF w_MKDIR w_MOUNT (pk w_CHMOD w_CHOWN w_COPY w_MKDIR w_MOUNT w_RESTORECON w_RESTORECON_RECURSIVE w_RM w_RMDIR w_SETPROP w_SYMLINK w_UMOUNT w_WRITE ((p0 &&& (2147483647 : Int32)) % (13 : Int32)))))]))) (fun t k => ?_) ?_
      · show Steps p.tables e below (T44.setTop (mkF m 113 #[.val (.int p0), .val (.ref b5), .val (.int ((p0 &&& (2147483647 : Int32)) % (13 : Int32))), .val (.ref (pk w_CHMOD w_CHOWN w_COPY w_MKDIR w_MOUNT w_RESTORECON w_RESTORECON_RECURSIVE w_RM w_RMDIR w_SETPROP w_SYMLINK w_UMOUNT w_WRITE ((p0 &&& (2147483647 : Int32)) % (13 : Int32)))), .unset] [])) _
        refine XS.iconst X44.here hx rfl (hb hby at_113) ?_
        show Steps p.tables e below (T44.setTop (mkF m 114 #[.val (.int p0), .val (.ref b5), .val (.int ((p0 &&& (2147483647 : Int32)) % (13 : Int32))), .val (.ref (pk w_CHMOD w_CHOWN w_COPY w_MKDIR w_MOUNT w_RESTORECON w_RESTORECON_RECURSIVE w_RM w_RMDIR w_SETPROP w_SYMLINK w_UMOUNT w_WRITE ((p0 &&& (2147483647 : Int32)) % (13 : Int32)))), .unset] [(.int (1 : Int32))])) _
        refine XS.goto X44.here hx rfl (pc0 := 114) (pc' := 118) rfl (hb hby at_114) (by decide) (by decide) ?_
        show Steps p.tables e below (T44.setTop (mkF m 118 #[.val (.int p0), .val (.ref b5), .val (.int ((p0 &&& (2147483647 : Int32)) % (13 : Int32))), .val (.ref (pk w_CHMOD w_CHOWN w_COPY w_MKDIR w_MOUNT w_RESTORECON w_RESTORECON_RECURSIVE w_RM w_RMDIR w_SETPROP w_SYMLINK w_UMOUNT w_WRITE ((p0 &&& (2147483647 : Int32)) % (13 : Int32)))), .unset] [(.int (1 : Int32))])) _
        refine XS.istore X44.here hx rfl (hb hby at_118) rfl (l' := #[.val (.int p0), .val (.ref b5), .val (.int ((p0 &&& (2147483647 : Int32)) % (13 : Int32))), .val (.ref (pk w_CHMOD w_CHOWN w_COPY w_MKDIR w_MOUNT w_RESTORECON w_RESTORECON_RECURSIVE w_RM w_RMDIR w_SETPROP w_SYMLINK w_UMOUNT w_WRITE ((p0 &&& (2147483647 : Int32)) % (13 : Int32)))), .val (.int (1 : Int32))]) rfl ?_
        show Steps p.tables e below (T44.setTop (mkF m 120 #[.val (.int p0), .val (.ref b5), .val (.int ((p0 &&& (2147483647 : Int32)) % (13 : Int32))), .val (.ref (pk w_CHMOD w_CHOWN w_COPY w_MKDIR w_MOUNT w_RESTORECON w_RESTORECON_RECURSIVE w_RM w_RMDIR w_SETPROP w_SYMLINK w_UMOUNT w_WRITE ((p0 &&& (2147483647 : Int32)) % (13 : Int32)))), .val (.int (1 : Int32))] [])) _
        refine XS.aloadN X44.here hx rfl (hb hby at_120) rfl rfl ?_
        show Steps p.tables e below (T44.setTop (mkF m 121 #[.val (.int p0), .val (.ref b5), .val (.int ((p0 &&& (2147483647 : Int32)) % (13 : Int32))), .val (.ref (pk w_CHMOD w_CHOWN w_COPY w_MKDIR w_MOUNT w_RESTORECON w_RESTORECON_RECURSIVE w_RM w_RMDIR w_SETPROP w_SYMLINK w_UMOUNT w_WRITE ((p0 &&& (2147483647 : Int32)) % (13 : Int32)))), .val (.int (1 : Int32))] [(.ref (pk w_CHMOD w_CHOWN w_COPY w_MKDIR w_MOUNT w_RESTORECON w_RESTORECON_RECURSIVE w_RM w_RMDIR w_SETPROP w_SYMLINK w_UMOUNT w_WRITE ((p0 &&& (2147483647 : Int32)) % (13 : Int32))))])) _
        refine st49.trans ?_
        show Steps p.tables e below (T49.setTop (mkF m 124 #[.val (.int p0), .val (.ref b5), .val (.int ((p0 &&& (2147483647 : Int32)) % (13 : Int32))), .val (.ref (pk w_CHMOD w_CHOWN w_COPY w_MKDIR w_MOUNT w_RESTORECON w_RESTORECON_RECURSIVE w_RM w_RMDIR w_SETPROP w_SYMLINK w_UMOUNT w_WRITE ((p0 &&& (2147483647 : Int32)) % (13 : Int32)))), .val (.int (1 : Int32))] [(.int (isF w_MKDIR w_MOUNT (pk w_CHMOD w_CHOWN w_COPY w_MKDIR w_MOUNT w_RESTORECON w_RESTORECON_RECURSIVE w_RM w_RMDIR w_SETPROP w_SYMLINK w_UMOUNT w_WRITE ((p0 &&& (2147483647 : Int32)) % (13 : Int32)))))])) _
        refine XS.iload X49.here hx rfl (hb hby at_124) rfl ?_
        exact k
      refine own_go (A' := (T49.setTop (mkF m 129 #[.val (.int p0), .val (.ref b5), .val (.int ((p0 &&& (2147483647 : Int32)) % (13 : Int32))), .val (.ref (pk w_CHMOD w_CHOWN w_COPY w_MKDIR w_MOUNT w_RESTORECON w_RESTORECON_RECURSIVE w_RM w_RMDIR w_SETPROP w_SYMLINK w_UMOUNT w_WRITE ((p0 &&& (2147483647 : Int32)) % (13 : Int32)))), .val (.int (1 : Int32))] []))) (fun t k => XS.icmpNo X49.here hx rfl (hb hby at_126) rfl (teq ((own_key (own_fld_ne O_CHMOD_ordinal O_MKDIR_ordinal (by decide)) (own_fld_ne O_CHMOD_ordinal O_MOUNT_ordinal (by decide)) (own_fld_ne O_CHOWN_ordinal O_MKDIR_ordinal (by decide)) (own_fld_ne O_CHOWN_ordinal O_MOUNT_ordinal (by decide)) (own_fld_ne O_COPY_ordinal O_MKDIR_ordinal (by decide)) (own_fld_ne O_COPY_ordinal O_MOUNT_ordinal (by decide)) (own_fld_ne O_MKDIR_ordinal O_MOUNT_ordinal (by decide)) (own_fld_ne O_MOUNT_ordinal O_MKDIR_ordinal (by decide)) (own_fld_ne O_RESTORECON_ordinal O_MKDIR_ordinal (by decide)) (own_fld_ne O_RESTORECON_ordinal O_MOUNT_ordinal (by decide)) (own_fld_ne O_RESTORECON_RECURSIVE_ordinal O_MKDIR_ordinal (by decide)) (own_fld_ne O_RESTORECON_RECURSIVE_ordinal O_MOUNT_ordinal (by decide)) (own_fld_ne O_RM_ordinal O_MKDIR_ordinal (by decide)) (own_fld_ne O_RM_ordinal O_MOUNT_ordinal (by decide)) (own_fld_ne O_RMDIR_ordinal O_MKDIR_ordinal (by decide)) (own_fld_ne O_RMDIR_ordinal O_MOUNT_ordinal (by decide)) (own_fld_ne O_SETPROP_ordinal O_MKDIR_ordinal (by decide)) (own_fld_ne O_SETPROP_ordinal O_MOUNT_ordinal (by decide)) (own_fld_ne O_SYMLINK_ordinal O_MKDIR_ordinal (by decide)) (own_fld_ne O_SYMLINK_ordinal O_MOUNT_ordinal (by decide)) (own_fld_ne O_UMOUNT_ordinal O_MKDIR_ordinal (by decide)) (own_fld_ne O_UMOUNT_ordinal O_MOUNT_ordinal (by decide)) (own_fld_ne O_WRITE_ordinal O_MKDIR_ordinal (by decide)) (own_fld_ne O_WRITE_ordinal O_MOUNT_ordinal (by decide)) (own_small (own_rem p0).1 (own_rem p0).2)).trans (by rw [exF, if_neg hc46, if_pos hc48]))).2 k) ?_
      refine own_go (A' := (T49.setTop (mkF m 134 #[.val (.int p0), .val (.ref b5), .val (.int ((p0 &&& (2147483647 : Int32)) % (13 : Int32))), .val (.ref (pk w_CHMOD w_CHOWN w_COPY w_MKDIR w_MOUNT w_RESTORECON w_RESTORECON_RECURSIVE w_RM w_RMDIR w_SETPROP w_SYMLINK w_UMOUNT w_WRITE ((p0 &&& (2147483647 : Int32)) % (13 : Int32)))), .val (.int (1 : Int32))] [(.int (1 : Int32))]))) (fun t k => ?_) ?_
      · show Steps p.tables e below (T49.setTop (mkF m 129 #[.val (.int p0), .val (.ref b5), .val (.int ((p0 &&& (2147483647 : Int32)) % (13 : Int32))), .val (.ref (pk w_CHMOD w_CHOWN w_COPY w_MKDIR w_MOUNT w_RESTORECON w_RESTORECON_RECURSIVE w_RM w_RMDIR w_SETPROP w_SYMLINK w_UMOUNT w_WRITE ((p0 &&& (2147483647 : Int32)) % (13 : Int32)))), .val (.int (1 : Int32))] [])) _
        refine XS.iconst X49.here hx rfl (hb hby at_129) ?_
        show Steps p.tables e below (T49.setTop (mkF m 130 #[.val (.int p0), .val (.ref b5), .val (.int ((p0 &&& (2147483647 : Int32)) % (13 : Int32))), .val (.ref (pk w_CHMOD w_CHOWN w_COPY w_MKDIR w_MOUNT w_RESTORECON w_RESTORECON_RECURSIVE w_RM w_RMDIR w_SETPROP w_SYMLINK w_UMOUNT w_WRITE ((p0 &&& (2147483647 : Int32)) % (13 : Int32)))), .val (.int (1 : Int32))] [(.int (1 : Int32))])) _
        refine XS.goto X49.here hx rfl (pc0 := 130) (pc' := 134) rfl (hb hby at_130) (by decide) (by decide) ?_
        exact k
      obtain ⟨fs, hr, hrun, hended, hW, hsame⟩ := X49.leave (v := some (.int (1 : Int32))) (fun h => by rw [Bd.returns] at h; cases h)
      refine ⟨_, _, ?_, hrun, hended, _, _, rfl, ?_, ⟨_, rfl⟩, hW, hsame.mono (by decide) (by decide)⟩
      · show Steps p.tables e below (T49.setTop (mkF m 134 #[.val (.int p0), .val (.ref b5), .val (.int ((p0 &&& (2147483647 : Int32)) % (13 : Int32))), .val (.ref (pk w_CHMOD w_CHOWN w_COPY w_MKDIR w_MOUNT w_RESTORECON w_RESTORECON_RECURSIVE w_RM w_RMDIR w_SETPROP w_SYMLINK w_UMOUNT w_WRITE ((p0 &&& (2147483647 : Int32)) % (13 : Int32)))), .val (.int (1 : Int32))] [(.int (1 : Int32))])) _
        exact retN X49 hx (t := .boolean) Bd.returns (by simp) (hb hby at_134) hr
      · show Q0 Z p0 w_CHMOD w_CHOWN w_COPY w_MKDIR w_MOUNT w_RESTORECON w_RESTORECON_RECURSIVE w_RM w_RMDIR w_SETPROP w_SYMLINK w_UMOUNT w_WRITE h0 n0 _ T49.heap _
        exact ⟨rfl, N49⟩
    · -- hc48: no
      refine own_go (A' := (T44.setTop (mkF m 117 #[.val (.int p0), .val (.ref b5), .val (.int ((p0 &&& (2147483647 : Int32)) % (13 : Int32))), .val (.ref (pk w_CHMOD w_CHOWN w_COPY w_MKDIR w_MOUNT w_RESTORECON w_RESTORECON_RECURSIVE w_RM w_RMDIR w_SETPROP w_SYMLINK w_UMOUNT w_WRITE ((p0 &&& (2147483647 : Int32)) % (13 : Int32)))), .unset] []))) (fun t k => XS.icmpYes X44.here hx rfl (pc0 := 110) (pc' := 117) rfl (hb hby at_110) rfl (feq hc48).2 (by decide) (by decide) k) ?_
      obtain ⟨cq50, kq50, q50a, q50b, q50c⟩ := isOf hZ e44 (pk_exa _ (E_CHMOD.ext B44) (E_CHOWN.ext B44) (E_COPY.ext B44) (E_MKDIR.ext B44) (E_MOUNT.ext B44) (E_RESTORECON.ext B44) (E_RESTORECON_RECURSIVE.ext B44) (E_RM.ext B44) (E_RMDIR.ext B44) (E_SETPROP.ext B44) (E_SYMLINK.ext B44) (E_UMOUNT.ext B44) (E_WRITE.ext B44))
      obtain ⟨_, _, ⟨T50, L50, k50, n50⟩, -, X50, ⟨Lc50, hQ50, l50, y50, z50⟩, st50⟩ := X44.virtualBack hx (y := (⟨"com/example/bounded_policy/boundedpolicy/service/VendorInitCommand", "actsBeforeMount", "()Z"⟩ : MethodName)) (z := (⟨"com/example/bounded_policy/boundedpolicy/service/VendorInitCommand", "actsBeforeMount", "()Z"⟩ : MethodName)) hown (mvT hZ (hw _ (List.mem_of_getElem? (i := 31) rfl))) (mvT hZ (hw _ (List.mem_of_getElem? (i := 32) rfl))) (notFace_of_selects (args := #[]) (mvT hZ (hw _ (List.mem_of_getElem? (i := 34) rfl)))) (mvT hZ (hw _ (List.mem_of_getElem? (i := 34) rfl))) (mvT hZ (hw _ (List.mem_of_getElem? (i := 33) rfl))) (by decide) (backOf (W := 0) (rm1 l Z a0 hw [] (pk w_CHMOD w_CHOWN w_COPY w_MKDIR w_MOUNT w_RESTORECON w_RESTORECON_RECURSIVE w_RM w_RMDIR w_SETPROP w_SYMLINK w_UMOUNT w_WRITE ((p0 &&& (2147483647 : Int32)) % (13 : Int32))) w_CHMOD w_CHOWN w_COPY w_MKDIR w_MOUNT w_RESTORECON w_RESTORECON_RECURSIVE w_RM w_RMDIR w_SETPROP w_SYMLINK w_UMOUNT w_WRITE h44 n0 (Nat.le_trans Z0 K44.1) (S_CHMOD.ext B44) (S_CHOWN.ext B44) (S_COPY.ext B44) (S_MKDIR.ext B44) (S_MOUNT.ext B44) (S_RESTORECON.ext B44) (S_RESTORECON_RECURSIVE.ext B44) (S_RM.ext B44) (S_RMDIR.ext B44) (S_SETPROP.ext B44) (S_SYMLINK.ext B44) (S_UMOUNT.ext B44) (S_WRITE.ext B44) (E_CHMOD.ext B44) (E_CHOWN.ext B44) (E_COPY.ext B44) (E_MKDIR.ext B44) (E_MOUNT.ext B44) (E_RESTORECON.ext B44) (E_RESTORECON_RECURSIVE.ext B44) (E_RM.ext B44) (E_RMDIR.ext B44) (E_SETPROP.ext B44) (E_SYMLINK.ext B44) (E_UMOUNT.ext B44) (E_WRITE.ext B44) (O_CHMOD_ordinal.ext B44) (O_CHOWN_ordinal.ext B44) (O_COPY_ordinal.ext B44) (O_MKDIR_ordinal.ext B44) (O_MOUNT_ordinal.ext B44) (O_RESTORECON_ordinal.ext B44) (O_RESTORECON_RECURSIVE_ordinal.ext B44) (O_RM_ordinal.ext B44) (O_RMDIR_ordinal.ext B44) (O_SETPROP_ordinal.ext B44) (O_SYMLINK_ordinal.ext B44) (O_UMOUNT_ordinal.ext B44) (O_WRITE_ordinal.ext B44)) hZ (hw _ (List.mem_of_getElem? (i := 35) rfl)) (hw _ (List.mem_of_getElem? (i := 3) rfl)) (by decide) (by decide)) q50a q50c (g := (mkF m 121 #[.val (.int p0), .val (.ref b5), .val (.int ((p0 &&& (2147483647 : Int32)) % (13 : Int32))), .val (.ref (pk w_CHMOD w_CHOWN w_COPY w_MKDIR w_MOUNT w_RESTORECON w_RESTORECON_RECURSIVE w_RM w_RMDIR w_SETPROP w_SYMLINK w_UMOUNT w_WRITE ((p0 &&& (2147483647 : Int32)) % (13 : Int32)))), .val (.int (0 : Int32))] [(.ref (pk w_CHMOD w_CHOWN w_COPY w_MKDIR w_MOUNT w_RESTORECON w_RESTORECON_RECURSIVE w_RM w_RMDIR w_SETPROP w_SYMLINK w_UMOUNT w_WRITE ((p0 &&& (2147483647 : Int32)) % (13 : Int32))))])) rfl (by rw [hml]; rfl) (Steps.refl _) (argsL := []) (rest := []) (lenOf pd_0 rfl) rfl (by show 2 * 0 + _ ≤ _; exact Nat.le_of_eq rfl) (hb hby at_121) (fun _ _ => ⟨rfl, e44, (by decide : 1 + 0 ≤ _), (by decide : 13 + 0 ≤ _)⟩)
      dsimp only [Pt.U, Pt.locs, Pt.cells, Pt.slots] at X50 l50 y50 z50 st50 hQ50
      subst l50 y50 z50
      obtain ⟨rfl, N50q, e50⟩ := hQ50
      have N50 := Fr.app N44 N50q
      refine own_go (A' := (T50.setTop (mkF m 126 #[.val (.int p0), .val (.ref b5), .val (.int ((p0 &&& (2147483647 : Int32)) % (13 : Int32))), .val (.ref (pk w_CHMOD w_CHOWN w_COPY w_MKDIR w_MOUNT w_RESTORECON w_RESTORECON_RECURSIVE w_RM w_RMDIR w_SETPROP w_SYMLINK w_UMOUNT w_WRITE ((p0 &&& (2147483647 : Int32)) % (13 : Int32)))), .val (.int (0 : Int32))] [(.int (0 : Int32)), (.int (isF w_MKDIR w_MOUNT (pk w_CHMOD w_CHOWN w_COPY w_MKDIR w_MOUNT w_RESTORECON w_RESTORECON_RECURSIVE w_RM w_RMDIR w_SETPROP w_SYMLINK w_UMOUNT w_WRITE ((p0 &&& (2147483647 : Int32)) % (13 : Int32)))))]))) (fun t k => ?_) ?_
      · show Steps p.tables e below (T44.setTop (mkF m 117 #[.val (.int p0), .val (.ref b5), .val (.int ((p0 &&& (2147483647 : Int32)) % (13 : Int32))), .val (.ref (pk w_CHMOD w_CHOWN w_COPY w_MKDIR w_MOUNT w_RESTORECON w_RESTORECON_RECURSIVE w_RM w_RMDIR w_SETPROP w_SYMLINK w_UMOUNT w_WRITE ((p0 &&& (2147483647 : Int32)) % (13 : Int32)))), .unset] [])) _
        refine XS.iconst X44.here hx rfl (hb hby at_117) ?_
        show Steps p.tables e below (T44.setTop (mkF m 118 #[.val (.int p0), .val (.ref b5), .val (.int ((p0 &&& (2147483647 : Int32)) % (13 : Int32))), .val (.ref (pk w_CHMOD w_CHOWN w_COPY w_MKDIR w_MOUNT w_RESTORECON w_RESTORECON_RECURSIVE w_RM w_RMDIR w_SETPROP w_SYMLINK w_UMOUNT w_WRITE ((p0 &&& (2147483647 : Int32)) % (13 : Int32)))), .unset] [(.int (0 : Int32))])) _
        refine XS.istore X44.here hx rfl (hb hby at_118) rfl (l' := #[.val (.int p0), .val (.ref b5), .val (.int ((p0 &&& (2147483647 : Int32)) % (13 : Int32))), .val (.ref (pk w_CHMOD w_CHOWN w_COPY w_MKDIR w_MOUNT w_RESTORECON w_RESTORECON_RECURSIVE w_RM w_RMDIR w_SETPROP w_SYMLINK w_UMOUNT w_WRITE ((p0 &&& (2147483647 : Int32)) % (13 : Int32)))), .val (.int (0 : Int32))]) rfl ?_
        show Steps p.tables e below (T44.setTop (mkF m 120 #[.val (.int p0), .val (.ref b5), .val (.int ((p0 &&& (2147483647 : Int32)) % (13 : Int32))), .val (.ref (pk w_CHMOD w_CHOWN w_COPY w_MKDIR w_MOUNT w_RESTORECON w_RESTORECON_RECURSIVE w_RM w_RMDIR w_SETPROP w_SYMLINK w_UMOUNT w_WRITE ((p0 &&& (2147483647 : Int32)) % (13 : Int32)))), .val (.int (0 : Int32))] [])) _
        refine XS.aloadN X44.here hx rfl (hb hby at_120) rfl rfl ?_
        show Steps p.tables e below (T44.setTop (mkF m 121 #[.val (.int p0), .val (.ref b5), .val (.int ((p0 &&& (2147483647 : Int32)) % (13 : Int32))), .val (.ref (pk w_CHMOD w_CHOWN w_COPY w_MKDIR w_MOUNT w_RESTORECON w_RESTORECON_RECURSIVE w_RM w_RMDIR w_SETPROP w_SYMLINK w_UMOUNT w_WRITE ((p0 &&& (2147483647 : Int32)) % (13 : Int32)))), .val (.int (0 : Int32))] [(.ref (pk w_CHMOD w_CHOWN w_COPY w_MKDIR w_MOUNT w_RESTORECON w_RESTORECON_RECURSIVE w_RM w_RMDIR w_SETPROP w_SYMLINK w_UMOUNT w_WRITE ((p0 &&& (2147483647 : Int32)) % (13 : Int32))))])) _
        refine st50.trans ?_
        show Steps p.tables e below (T50.setTop (mkF m 124 #[.val (.int p0), .val (.ref b5), .val (.int ((p0 &&& (2147483647 : Int32)) % (13 : Int32))), .val (.ref (pk w_CHMOD w_CHOWN w_COPY w_MKDIR w_MOUNT w_RESTORECON w_RESTORECON_RECURSIVE w_RM w_RMDIR w_SETPROP w_SYMLINK w_UMOUNT w_WRITE ((p0 &&& (2147483647 : Int32)) % (13 : Int32)))), .val (.int (0 : Int32))] [(.int (isF w_MKDIR w_MOUNT (pk w_CHMOD w_CHOWN w_COPY w_MKDIR w_MOUNT w_RESTORECON w_RESTORECON_RECURSIVE w_RM w_RMDIR w_SETPROP w_SYMLINK w_UMOUNT w_WRITE ((p0 &&& (2147483647 : Int32)) % (13 : Int32)))))])) _
        refine XS.iload X50.here hx rfl (hb hby at_124) rfl ?_
        exact k
      refine own_go (A' := (T50.setTop (mkF m 129 #[.val (.int p0), .val (.ref b5), .val (.int ((p0 &&& (2147483647 : Int32)) % (13 : Int32))), .val (.ref (pk w_CHMOD w_CHOWN w_COPY w_MKDIR w_MOUNT w_RESTORECON w_RESTORECON_RECURSIVE w_RM w_RMDIR w_SETPROP w_SYMLINK w_UMOUNT w_WRITE ((p0 &&& (2147483647 : Int32)) % (13 : Int32)))), .val (.int (0 : Int32))] []))) (fun t k => XS.icmpNo X50.here hx rfl (hb hby at_126) rfl (teq ((own_key (own_fld_ne O_CHMOD_ordinal O_MKDIR_ordinal (by decide)) (own_fld_ne O_CHMOD_ordinal O_MOUNT_ordinal (by decide)) (own_fld_ne O_CHOWN_ordinal O_MKDIR_ordinal (by decide)) (own_fld_ne O_CHOWN_ordinal O_MOUNT_ordinal (by decide)) (own_fld_ne O_COPY_ordinal O_MKDIR_ordinal (by decide)) (own_fld_ne O_COPY_ordinal O_MOUNT_ordinal (by decide)) (own_fld_ne O_MKDIR_ordinal O_MOUNT_ordinal (by decide)) (own_fld_ne O_MOUNT_ordinal O_MKDIR_ordinal (by decide)) (own_fld_ne O_RESTORECON_ordinal O_MKDIR_ordinal (by decide)) (own_fld_ne O_RESTORECON_ordinal O_MOUNT_ordinal (by decide)) (own_fld_ne O_RESTORECON_RECURSIVE_ordinal O_MKDIR_ordinal (by decide)) (own_fld_ne O_RESTORECON_RECURSIVE_ordinal O_MOUNT_ordinal (by decide)) (own_fld_ne O_RM_ordinal O_MKDIR_ordinal (by decide)) (own_fld_ne O_RM_ordinal O_MOUNT_ordinal (by decide)) (own_fld_ne O_RMDIR_ordinal O_MKDIR_ordinal (by decide)) (own_fld_ne O_RMDIR_ordinal O_MOUNT_ordinal (by decide)) (own_fld_ne O_SETPROP_ordinal O_MKDIR_ordinal (by decide)) (own_fld_ne O_SETPROP_ordinal O_MOUNT_ordinal (by decide)) (own_fld_ne O_SYMLINK_ordinal O_MKDIR_ordinal (by decide)) (own_fld_ne O_SYMLINK_ordinal O_MOUNT_ordinal (by decide)) (own_fld_ne O_UMOUNT_ordinal O_MKDIR_ordinal (by decide)) (own_fld_ne O_UMOUNT_ordinal O_MOUNT_ordinal (by decide)) (own_fld_ne O_WRITE_ordinal O_MKDIR_ordinal (by decide)) (own_fld_ne O_WRITE_ordinal O_MOUNT_ordinal (by decide)) (own_small (own_rem p0).1 (own_rem p0).2)).trans (by rw [exF, if_neg hc46, if_neg hc48]))).2 k) ?_
      refine own_go (A' := (T50.setTop (mkF m 134 #[.val (.int p0), .val (.ref b5), .val (.int ((p0 &&& (2147483647 : Int32)) % (13 : Int32))), .val (.ref (pk w_CHMOD w_CHOWN w_COPY w_MKDIR w_MOUNT w_RESTORECON w_RESTORECON_RECURSIVE w_RM w_RMDIR w_SETPROP w_SYMLINK w_UMOUNT w_WRITE ((p0 &&& (2147483647 : Int32)) % (13 : Int32)))), .val (.int (0 : Int32))] [(.int (1 : Int32))]))) (fun t k => ?_) ?_
      · show Steps p.tables e below (T50.setTop (mkF m 129 #[.val (.int p0), .val (.ref b5), .val (.int ((p0 &&& (2147483647 : Int32)) % (13 : Int32))), .val (.ref (pk w_CHMOD w_CHOWN w_COPY w_MKDIR w_MOUNT w_RESTORECON w_RESTORECON_RECURSIVE w_RM w_RMDIR w_SETPROP w_SYMLINK w_UMOUNT w_WRITE ((p0 &&& (2147483647 : Int32)) % (13 : Int32)))), .val (.int (0 : Int32))] [])) _
        refine XS.iconst X50.here hx rfl (hb hby at_129) ?_
        show Steps p.tables e below (T50.setTop (mkF m 130 #[.val (.int p0), .val (.ref b5), .val (.int ((p0 &&& (2147483647 : Int32)) % (13 : Int32))), .val (.ref (pk w_CHMOD w_CHOWN w_COPY w_MKDIR w_MOUNT w_RESTORECON w_RESTORECON_RECURSIVE w_RM w_RMDIR w_SETPROP w_SYMLINK w_UMOUNT w_WRITE ((p0 &&& (2147483647 : Int32)) % (13 : Int32)))), .val (.int (0 : Int32))] [(.int (1 : Int32))])) _
        refine XS.goto X50.here hx rfl (pc0 := 130) (pc' := 134) rfl (hb hby at_130) (by decide) (by decide) ?_
        exact k
      obtain ⟨fs, hr, hrun, hended, hW, hsame⟩ := X50.leave (v := some (.int (1 : Int32))) (fun h => by rw [Bd.returns] at h; cases h)
      refine ⟨_, _, ?_, hrun, hended, _, _, rfl, ?_, ⟨_, rfl⟩, hW, hsame.mono (by decide) (by decide)⟩
      · show Steps p.tables e below (T50.setTop (mkF m 134 #[.val (.int p0), .val (.ref b5), .val (.int ((p0 &&& (2147483647 : Int32)) % (13 : Int32))), .val (.ref (pk w_CHMOD w_CHOWN w_COPY w_MKDIR w_MOUNT w_RESTORECON w_RESTORECON_RECURSIVE w_RM w_RMDIR w_SETPROP w_SYMLINK w_UMOUNT w_WRITE ((p0 &&& (2147483647 : Int32)) % (13 : Int32)))), .val (.int (0 : Int32))] [(.int (1 : Int32))])) _
        exact retN X50 hx (t := .boolean) Bd.returns (by simp) (hb hby at_134) hr
      · show Q0 Z p0 w_CHMOD w_CHOWN w_COPY w_MKDIR w_MOUNT w_RESTORECON w_RESTORECON_RECURSIVE w_RM w_RMDIR w_SETPROP w_SYMLINK w_UMOUNT w_WRITE h0 n0 _ T50.heap _
        exact ⟨rfl, N50⟩
theorem own_eqint {t : Term} {k : Int32} {args : Array Value} {first s : State} {o : Option Outcome} {idx : List Nat} (h : (Jvm.Cond.eq t (.int k)).value args first o s idx = some true) : t.eval args first o idx s = some (.int k) := by
  cases ht : t.eval args first o idx s with
  | none => simp [Cond.value, Term.eval, ht] at h
  | some x => cases x <;> simp [Cond.value, Term.eval, ht] at h; subst h; rfl
set_option maxRecDepth 65536 in
set_option maxHeartbeats 40000000 in
theorem comes_1 {Post : Tables → Env → Array Value → State → Outcome → State → Prop} (hpost : ∀ tb e args s v u, (limb_1_1.after args s (.returned v) u = true ∧ limb_1_2.after args s (.returned v) u = true ∧ True) → FrameEnd s (.returned v) u (Jvm.fieldLocs frame_1_writes args s ++ Jvm.arrayLocs frame_1_arrays args s ++ Jvm.staticLocs frame_1_statics s) 16 128 → Post tb e args s (.returned v) u) :
    ArmFor flags0 classFile x code maxLocals ret World_1 tables_1 room_1 Calls_1 rest_1 Pre_1 Post := by
  intro l hfl _ _ p e ha hc hk s m args below hf hA hF happ hP
  obtain ⟨hcalls, hrest, hpre⟩ := hP
  obtain ⟨-, -, -, hnamed, -, -, -, hat⟩ := (Spec.applies_iff hf).mp happ
  obtain ⟨hg, hn⟩ := and_e (Cond.before_iff.mp (show (Jvm.Cond.and given_1 narrow_1).before args s = true from hpre))
  have hv0 := (and_e hg).2
  obtain ⟨w0, rfl⟩ : ∃ w0 : Value, args = #[w0] := by
    have hs : args.size = 1 := by simpa [Cond.value, given_1] using (and_e hg).1
    obtain ⟨L⟩ := args
    match L, hs with
    | [w0], _ => exact ⟨w0, rfl⟩
  have hw := fun d (hd : d ∈ tables_1) => atoms_spec (ws := Jvm.Cond.code x code maxLocals ret :: tables_1) hat d (List.mem_cons_of_mem _ hd)
  have hfit : Fit s := fun {y c} hc i hi => by
    obtain ⟨ha, rfl⟩ := Array.getElem?_eq_some_iff.mp hc
    have q := List.all_eq_true.mp ((Array.all_eq_true_iff_forall_mem.mp hF) _ (Array.getElem_mem ha)) i (List.mem_range.mpr hi)
    simpa [Array.getElem?_eq_getElem hi] using q
  obtain ⟨i0, ei0⟩ := is_v hv0
  obtain rfl : w0 = (.int i0) := Option.some.inj ei0
  have hx_CHMOD := (and_e hn).1
  obtain ⟨w_CHMOD, ev_CHMOD⟩ := exa_v hx_CHMOD
  have S_CHMOD : Sta s s.heap "com/example/bounded_policy/boundedpolicy/service/VendorInitCommand" "CHMOD" "Lcom/example/bounded_policy/boundedpolicy/service/VendorInitCommand;" (.ref w_CHMOD) := Sta.start ev_CHMOD (Or.inr ⟨(hw _ (List.mem_of_getElem? (i := 3) rfl)), (hw _ (List.mem_of_getElem? (i := 4) rfl))⟩)
  have E_CHMOD : Exa s s.heap w_CHMOD "com/example/bounded_policy/boundedpolicy/service/VendorInitCommand" := Exa.start ev_CHMOD hx_CHMOD
  have O_CHMOD_ordinal : Fld s s.heap w_CHMOD "java/lang/Enum" "ordinal" "I" (.int (0 : Int32)) := Fld.start ((fld_at ev_CHMOD).symm.trans (own_eqint (and_e (and_e (and_e (and_e (and_e (and_e (and_e (and_e (and_e (and_e (and_e (and_e (and_e (and_e hn).2).2).2).2).2).2).2).2).2).2).2).2).2).1))
  have hx_CHOWN := (and_e (and_e hn).2).1
  obtain ⟨w_CHOWN, ev_CHOWN⟩ := exa_v hx_CHOWN
  have S_CHOWN : Sta s s.heap "com/example/bounded_policy/boundedpolicy/service/VendorInitCommand" "CHOWN" "Lcom/example/bounded_policy/boundedpolicy/service/VendorInitCommand;" (.ref w_CHOWN) := Sta.start ev_CHOWN (Or.inr ⟨(hw _ (List.mem_of_getElem? (i := 3) rfl)), (hw _ (List.mem_of_getElem? (i := 7) rfl))⟩)
  have E_CHOWN : Exa s s.heap w_CHOWN "com/example/bounded_policy/boundedpolicy/service/VendorInitCommand" := Exa.start ev_CHOWN hx_CHOWN
  have O_CHOWN_ordinal : Fld s s.heap w_CHOWN "java/lang/Enum" "ordinal" "I" (.int (1 : Int32)) := Fld.start ((fld_at ev_CHOWN).symm.trans (own_eqint (and_e (and_e (and_e (and_e (and_e (and_e (and_e (and_e (and_e (and_e (and_e (and_e (and_e (and_e (and_e (and_e (and_e (and_e (and_e (and_e (and_e (and_e (and_e hn).2).2).2).2).2).2).2).2).2).2).2).2).2).2).2).2).2).2).2).2).2).2).1))
  have hx_COPY := (and_e (and_e (and_e hn).2).2).1
  obtain ⟨w_COPY, ev_COPY⟩ := exa_v hx_COPY
  have S_COPY : Sta s s.heap "com/example/bounded_policy/boundedpolicy/service/VendorInitCommand" "COPY" "Lcom/example/bounded_policy/boundedpolicy/service/VendorInitCommand;" (.ref w_COPY) := Sta.start ev_COPY (Or.inr ⟨(hw _ (List.mem_of_getElem? (i := 3) rfl)), (hw _ (List.mem_of_getElem? (i := 9) rfl))⟩)
  have E_COPY : Exa s s.heap w_COPY "com/example/bounded_policy/boundedpolicy/service/VendorInitCommand" := Exa.start ev_COPY hx_COPY
  have O_COPY_ordinal : Fld s s.heap w_COPY "java/lang/Enum" "ordinal" "I" (.int (2 : Int32)) := Fld.start ((fld_at ev_COPY).symm.trans (own_eqint (and_e (and_e (and_e (and_e (and_e (and_e (and_e (and_e (and_e (and_e (and_e (and_e (and_e (and_e (and_e (and_e (and_e (and_e (and_e (and_e (and_e hn).2).2).2).2).2).2).2).2).2).2).2).2).2).2).2).2).2).2).2).2).1))
  have hx_MKDIR := (and_e (and_e (and_e (and_e hn).2).2).2).1
  obtain ⟨w_MKDIR, ev_MKDIR⟩ := exa_v hx_MKDIR
  have S_MKDIR : Sta s s.heap "com/example/bounded_policy/boundedpolicy/service/VendorInitCommand" "MKDIR" "Lcom/example/bounded_policy/boundedpolicy/service/VendorInitCommand;" (.ref w_MKDIR) := Sta.start ev_MKDIR (Or.inr ⟨(hw _ (List.mem_of_getElem? (i := 3) rfl)), (hw _ (List.mem_of_getElem? (i := 11) rfl))⟩)
  have E_MKDIR : Exa s s.heap w_MKDIR "com/example/bounded_policy/boundedpolicy/service/VendorInitCommand" := Exa.start ev_MKDIR hx_MKDIR
  have O_MKDIR_ordinal : Fld s s.heap w_MKDIR "java/lang/Enum" "ordinal" "I" (.int (3 : Int32)) := Fld.start ((fld_at ev_MKDIR).symm.trans (own_eqint (and_e (and_e (and_e (and_e (and_e (and_e (and_e (and_e (and_e (and_e (and_e (and_e (and_e (and_e (and_e hn).2).2).2).2).2).2).2).2).2).2).2).2).2).2).1))
  have hx_MOUNT := (and_e (and_e (and_e (and_e (and_e hn).2).2).2).2).1
  obtain ⟨w_MOUNT, ev_MOUNT⟩ := exa_v hx_MOUNT
  have S_MOUNT : Sta s s.heap "com/example/bounded_policy/boundedpolicy/service/VendorInitCommand" "MOUNT" "Lcom/example/bounded_policy/boundedpolicy/service/VendorInitCommand;" (.ref w_MOUNT) := Sta.start ev_MOUNT (Or.inr ⟨(hw _ (List.mem_of_getElem? (i := 3) rfl)), (hw _ (List.mem_of_getElem? (i := 13) rfl))⟩)
  have E_MOUNT : Exa s s.heap w_MOUNT "com/example/bounded_policy/boundedpolicy/service/VendorInitCommand" := Exa.start ev_MOUNT hx_MOUNT
  have O_MOUNT_ordinal : Fld s s.heap w_MOUNT "java/lang/Enum" "ordinal" "I" (.int (4 : Int32)) := Fld.start ((fld_at ev_MOUNT).symm.trans (own_eqint (and_e (and_e (and_e (and_e (and_e (and_e (and_e (and_e (and_e (and_e (and_e (and_e (and_e (and_e (and_e (and_e hn).2).2).2).2).2).2).2).2).2).2).2).2).2).2).2).1))
  have hx_RESTORECON := (and_e (and_e (and_e (and_e (and_e (and_e hn).2).2).2).2).2).1
  obtain ⟨w_RESTORECON, ev_RESTORECON⟩ := exa_v hx_RESTORECON
  have S_RESTORECON : Sta s s.heap "com/example/bounded_policy/boundedpolicy/service/VendorInitCommand" "RESTORECON" "Lcom/example/bounded_policy/boundedpolicy/service/VendorInitCommand;" (.ref w_RESTORECON) := Sta.start ev_RESTORECON (Or.inr ⟨(hw _ (List.mem_of_getElem? (i := 3) rfl)), (hw _ (List.mem_of_getElem? (i := 15) rfl))⟩)
  have E_RESTORECON : Exa s s.heap w_RESTORECON "com/example/bounded_policy/boundedpolicy/service/VendorInitCommand" := Exa.start ev_RESTORECON hx_RESTORECON
  have O_RESTORECON_ordinal : Fld s s.heap w_RESTORECON "java/lang/Enum" "ordinal" "I" (.int (5 : Int32)) := Fld.start ((fld_at ev_RESTORECON).symm.trans (own_eqint (and_e (and_e (and_e (and_e (and_e (and_e (and_e (and_e (and_e (and_e (and_e (and_e (and_e (and_e (and_e (and_e (and_e (and_e hn).2).2).2).2).2).2).2).2).2).2).2).2).2).2).2).2).2).1))
  have hx_RESTORECON_RECURSIVE := (and_e (and_e (and_e (and_e (and_e (and_e (and_e hn).2).2).2).2).2).2).1
  obtain ⟨w_RESTORECON_RECURSIVE, ev_RESTORECON_RECURSIVE⟩ := exa_v hx_RESTORECON_RECURSIVE
  have S_RESTORECON_RECURSIVE : Sta s s.heap "com/example/bounded_policy/boundedpolicy/service/VendorInitCommand" "RESTORECON_RECURSIVE" "Lcom/example/bounded_policy/boundedpolicy/service/VendorInitCommand;" (.ref w_RESTORECON_RECURSIVE) := Sta.start ev_RESTORECON_RECURSIVE (Or.inr ⟨(hw _ (List.mem_of_getElem? (i := 3) rfl)), (hw _ (List.mem_of_getElem? (i := 17) rfl))⟩)
  have E_RESTORECON_RECURSIVE : Exa s s.heap w_RESTORECON_RECURSIVE "com/example/bounded_policy/boundedpolicy/service/VendorInitCommand" := Exa.start ev_RESTORECON_RECURSIVE hx_RESTORECON_RECURSIVE
  have O_RESTORECON_RECURSIVE_ordinal : Fld s s.heap w_RESTORECON_RECURSIVE "java/lang/Enum" "ordinal" "I" (.int (6 : Int32)) := Fld.start ((fld_at ev_RESTORECON_RECURSIVE).symm.trans (own_eqint (and_e (and_e (and_e (and_e (and_e (and_e (and_e (and_e (and_e (and_e (and_e (and_e (and_e (and_e (and_e (and_e (and_e hn).2).2).2).2).2).2).2).2).2).2).2).2).2).2).2).2).1))
  have hx_RM := (and_e (and_e (and_e (and_e (and_e (and_e (and_e (and_e hn).2).2).2).2).2).2).2).1
  obtain ⟨w_RM, ev_RM⟩ := exa_v hx_RM
  have S_RM : Sta s s.heap "com/example/bounded_policy/boundedpolicy/service/VendorInitCommand" "RM" "Lcom/example/bounded_policy/boundedpolicy/service/VendorInitCommand;" (.ref w_RM) := Sta.start ev_RM (Or.inr ⟨(hw _ (List.mem_of_getElem? (i := 3) rfl)), (hw _ (List.mem_of_getElem? (i := 19) rfl))⟩)
  have E_RM : Exa s s.heap w_RM "com/example/bounded_policy/boundedpolicy/service/VendorInitCommand" := Exa.start ev_RM hx_RM
  have O_RM_ordinal : Fld s s.heap w_RM "java/lang/Enum" "ordinal" "I" (.int (7 : Int32)) := Fld.start ((fld_at ev_RM).symm.trans (own_eqint (and_e (and_e (and_e (and_e (and_e (and_e (and_e (and_e (and_e (and_e (and_e (and_e (and_e (and_e (and_e (and_e (and_e (and_e (and_e hn).2).2).2).2).2).2).2).2).2).2).2).2).2).2).2).2).2).2).1))
  have hx_RMDIR := (and_e (and_e (and_e (and_e (and_e (and_e (and_e (and_e (and_e hn).2).2).2).2).2).2).2).2).1
  obtain ⟨w_RMDIR, ev_RMDIR⟩ := exa_v hx_RMDIR
  have S_RMDIR : Sta s s.heap "com/example/bounded_policy/boundedpolicy/service/VendorInitCommand" "RMDIR" "Lcom/example/bounded_policy/boundedpolicy/service/VendorInitCommand;" (.ref w_RMDIR) := Sta.start ev_RMDIR (Or.inr ⟨(hw _ (List.mem_of_getElem? (i := 3) rfl)), (hw _ (List.mem_of_getElem? (i := 21) rfl))⟩)
  have E_RMDIR : Exa s s.heap w_RMDIR "com/example/bounded_policy/boundedpolicy/service/VendorInitCommand" := Exa.start ev_RMDIR hx_RMDIR
  have O_RMDIR_ordinal : Fld s s.heap w_RMDIR "java/lang/Enum" "ordinal" "I" (.int (8 : Int32)) := Fld.start ((fld_at ev_RMDIR).symm.trans (own_eqint (and_e (and_e (and_e (and_e (and_e (and_e (and_e (and_e (and_e (and_e (and_e (and_e (and_e (and_e (and_e (and_e (and_e (and_e (and_e (and_e (and_e (and_e (and_e (and_e hn).2).2).2).2).2).2).2).2).2).2).2).2).2).2).2).2).2).2).2).2).2).2).2).1))
  have hx_SETPROP := (and_e (and_e (and_e (and_e (and_e (and_e (and_e (and_e (and_e (and_e hn).2).2).2).2).2).2).2).2).2).1
  obtain ⟨w_SETPROP, ev_SETPROP⟩ := exa_v hx_SETPROP
  have S_SETPROP : Sta s s.heap "com/example/bounded_policy/boundedpolicy/service/VendorInitCommand" "SETPROP" "Lcom/example/bounded_policy/boundedpolicy/service/VendorInitCommand;" (.ref w_SETPROP) := Sta.start ev_SETPROP (Or.inr ⟨(hw _ (List.mem_of_getElem? (i := 3) rfl)), (hw _ (List.mem_of_getElem? (i := 23) rfl))⟩)
  have E_SETPROP : Exa s s.heap w_SETPROP "com/example/bounded_policy/boundedpolicy/service/VendorInitCommand" := Exa.start ev_SETPROP hx_SETPROP
  have O_SETPROP_ordinal : Fld s s.heap w_SETPROP "java/lang/Enum" "ordinal" "I" (.int (9 : Int32)) := Fld.start ((fld_at ev_SETPROP).symm.trans (own_eqint (and_e (and_e (and_e (and_e (and_e (and_e (and_e (and_e (and_e (and_e (and_e (and_e (and_e (and_e (and_e (and_e (and_e (and_e (and_e (and_e hn).2).2).2).2).2).2).2).2).2).2).2).2).2).2).2).2).2).2).2).1))
  have hx_SYMLINK := (and_e (and_e (and_e (and_e (and_e (and_e (and_e (and_e (and_e (and_e (and_e hn).2).2).2).2).2).2).2).2).2).2).1
  obtain ⟨w_SYMLINK, ev_SYMLINK⟩ := exa_v hx_SYMLINK
  have S_SYMLINK : Sta s s.heap "com/example/bounded_policy/boundedpolicy/service/VendorInitCommand" "SYMLINK" "Lcom/example/bounded_policy/boundedpolicy/service/VendorInitCommand;" (.ref w_SYMLINK) := Sta.start ev_SYMLINK (Or.inr ⟨(hw _ (List.mem_of_getElem? (i := 3) rfl)), (hw _ (List.mem_of_getElem? (i := 25) rfl))⟩)
  have E_SYMLINK : Exa s s.heap w_SYMLINK "com/example/bounded_policy/boundedpolicy/service/VendorInitCommand" := Exa.start ev_SYMLINK hx_SYMLINK
  have O_SYMLINK_ordinal : Fld s s.heap w_SYMLINK "java/lang/Enum" "ordinal" "I" (.int (10 : Int32)) := Fld.start ((fld_at ev_SYMLINK).symm.trans (own_eqint (and_e (and_e (and_e (and_e (and_e (and_e (and_e (and_e (and_e (and_e (and_e (and_e (and_e (and_e (and_e (and_e (and_e (and_e (and_e (and_e (and_e (and_e (and_e (and_e (and_e hn).2).2).2).2).2).2).2).2).2).2).2).2).2).2).2).2).2).2).2).2).2).2).2).2).1))
  have hx_UMOUNT := (and_e (and_e (and_e (and_e (and_e (and_e (and_e (and_e (and_e (and_e (and_e (and_e hn).2).2).2).2).2).2).2).2).2).2).2).1
  obtain ⟨w_UMOUNT, ev_UMOUNT⟩ := exa_v hx_UMOUNT
  have S_UMOUNT : Sta s s.heap "com/example/bounded_policy/boundedpolicy/service/VendorInitCommand" "UMOUNT" "Lcom/example/bounded_policy/boundedpolicy/service/VendorInitCommand;" (.ref w_UMOUNT) := Sta.start ev_UMOUNT (Or.inr ⟨(hw _ (List.mem_of_getElem? (i := 3) rfl)), (hw _ (List.mem_of_getElem? (i := 27) rfl))⟩)
  have E_UMOUNT : Exa s s.heap w_UMOUNT "com/example/bounded_policy/boundedpolicy/service/VendorInitCommand" := Exa.start ev_UMOUNT hx_UMOUNT
  have O_UMOUNT_ordinal : Fld s s.heap w_UMOUNT "java/lang/Enum" "ordinal" "I" (.int (11 : Int32)) := Fld.start ((fld_at ev_UMOUNT).symm.trans (own_eqint (and_e (and_e (and_e (and_e (and_e (and_e (and_e (and_e (and_e (and_e (and_e (and_e (and_e (and_e (and_e (and_e (and_e (and_e (and_e (and_e (and_e (and_e hn).2).2).2).2).2).2).2).2).2).2).2).2).2).2).2).2).2).2).2).2).2).1))
  have hx_WRITE := (and_e (and_e (and_e (and_e (and_e (and_e (and_e (and_e (and_e (and_e (and_e (and_e (and_e hn).2).2).2).2).2).2).2).2).2).2).2).2).1
  obtain ⟨w_WRITE, ev_WRITE⟩ := exa_v hx_WRITE
  have S_WRITE : Sta s s.heap "com/example/bounded_policy/boundedpolicy/service/VendorInitCommand" "WRITE" "Lcom/example/bounded_policy/boundedpolicy/service/VendorInitCommand;" (.ref w_WRITE) := Sta.start ev_WRITE (Or.inr ⟨(hw _ (List.mem_of_getElem? (i := 3) rfl)), (hw _ (List.mem_of_getElem? (i := 29) rfl))⟩)
  have E_WRITE : Exa s s.heap w_WRITE "com/example/bounded_policy/boundedpolicy/service/VendorInitCommand" := Exa.start ev_WRITE hx_WRITE
  have O_WRITE_ordinal : Fld s s.heap w_WRITE "java/lang/Enum" "ordinal" "I" (.int (12 : Int32)) := Fld.start ((fld_at ev_WRITE).symm.trans (own_eqint (and_e (and_e (and_e (and_e (and_e (and_e (and_e (and_e (and_e (and_e (and_e (and_e (and_e (and_e (and_e (and_e (and_e (and_e (and_e (and_e (and_e (and_e (and_e (and_e (and_e hn).2).2).2).2).2).2).2).2).2).2).2).2).2).2).2).2).2).2).2).2).2).2).2).2).2))
  obtain ⟨n, o, h1, h2, h3, _, L, rfl, ⟨rfl, N⟩, hq⟩ := rm0 l s _ hw tables_1 i0 w_CHMOD w_CHOWN w_COPY w_MKDIR w_MOUNT w_RESTORECON w_RESTORECON_RECURSIVE w_RM w_RMDIR w_SETPROP w_SYMLINK w_UMOUNT w_WRITE s.heap s.heap.size (Nat.le_refl _) S_CHMOD S_CHOWN S_COPY S_MKDIR S_MOUNT S_RESTORECON S_RESTORECON_RECURSIVE S_RM S_RMDIR S_SETPROP S_SYMLINK S_UMOUNT S_WRITE E_CHMOD E_CHOWN E_COPY E_MKDIR E_MOUNT E_RESTORECON E_RESTORECON_RECURSIVE E_RM E_RMDIR E_SETPROP E_SYMLINK E_UMOUNT E_WRITE O_CHMOD_ordinal O_CHOWN_ordinal O_COPY_ordinal O_MKDIR_ordinal O_MOUNT_ordinal O_RESTORECON_ordinal O_RESTORECON_RECURSIVE_ordinal O_RM_ordinal O_RMDIR_ordinal O_SETPROP_ordinal O_SYMLINK_ordinal O_UMOUNT_ordinal O_WRITE_ordinal p e ha hc hk s m _ below hf ((Spec.applies_iff_loose hf).mp happ).1 ⟨rfl, State.Warmed39.refl s, rfl⟩ trivial
  refine ⟨n, _, h1, h2, h3, hpost _ _ _ _ _ _ ⟨Cond.after_iff.mpr rfl, Cond.after_iff.mpr (eq_i res_at (Term.int_eval (1)) rfl), trivial⟩ ⟨hq.1, hq.2.1, (hq.2.2.sift fun y hy => Or.inr (N y hy)).mono (by decide) (by decide)⟩⟩
theorem main_1_1 : Claimed_1_1 := comes_1 fun _ _ _ _ _ _ h hF => ⟨h.1, hF⟩
theorem main_1_2 : Claimed_1_2 := comes_1 fun _ _ _ _ _ _ h hF => ⟨h.2.1, hF⟩
end Jvm.Pilot.@@N@@
namespace Jvm.Pilot.@@N@@
open Jvm Jvm.ClassFile Sem Op Lib Jvm.Free Jvm.Stand Jvm.Pilot.@@N@@.Jvm.D
/-! MADE BY PROGRAM (witnessworld.py) out of the Statement's table words and the real class files: 13 classes; the members and pool entries that the words name. The judged class is class 1, her method 1. -/
namespace start1
open Jvm.ClassFile
def u (s : String) : CpInfo := .utf8 (stringToUtf16 s)
/-- a pool by its gaps: so many unusable entries, then the entry; so many at the end -/
def gap : Nat → List CpInfo → List CpInfo
  | 0, r => r
  | n + 1, r => .unusable :: gap n r
def poolList (es : List (Nat × CpInfo)) (last : Nat) : List CpInfo := es.foldr (fun e r => gap e.1 (e.2 :: r)) (gap last [])
def pool (es : List (Nat × CpInfo)) (last : Nat) : Array CpInfo := ⟨poolList es last⟩
def fileOf (pool : Array CpInfo) (this : Nat) (attrs : Array Attribute := #[]) (ms : Array MethodInfo := #[]) (fl : Nat := 33) (sup : Nat := 0) (ifs : Array Nat := #[]) (fds : Array FieldInfo := #[]) : ClassFile where
  minorVersion := 0
  majorVersion := 65
  constantPool := pool
  accessFlags := fl
  thisClass := this
  superClass := sup
  interfaces := ifs
  fields := fds
  methods := ms
  attributes := attrs
def plain (name : String) (sup : Option ClassId) : Class where
  name := name
  kind := .ordinary
  loader := none
  accessFlags := 33
  super := sup
  interfaces := #[]
  cf := none
  fields := #[]
  methods := #[]
  instanceTypes := #[]
  staticTypes := #[]
  resolved := #[]
  callSites := []
  init := .initialized
  statics := none
  mirror := none

def pool0 : Array CpInfo := pool [(5, u "<init>"), (0, u "()V"), (1, .class_ 10), (1, u "java/lang/Object")] 113

def k0m0 : Method := { name := "<init>", desc := "()V", sig := { parameters := [], returnType := none }, accessFlags := 1, code := none }
/-- java/lang/Object -/
def k0 : Class := { plain "java/lang/Object" none with
  accessFlags := 33
  interfaces := #[]
  cf := some (fileOf pool0 8 #[] #[{ accessFlags := 1, nameIndex := 5, descriptorIndex := 6, attributes := #[] }] 33 0 #[] #[])
  fields := #[]
  methods := #[k0m0]
  instanceTypes := #[]
  staticTypes := #[]
  resolved := Array.replicate 124 none
  statics := none }

def pool1 : Array CpInfo := pool [(2, .class_ 4), (1, u "java/lang/Object"), (0, u "<init>"), (0, u "()V"), (0, .class_ 8), (0, u "com/example/bounded_policy/boundedpolicy/service/VendorInitCommand"), (0, .fieldref 7 10), (0, .nameAndType 11 12), (0, u "CHMOD"), (0, u "Lcom/example/bounded_policy/boundedpolicy/service/VendorInitCommand;"), (0, .fieldref 7 14), (0, .nameAndType 15 12), (0, u "CHOWN"), (0, .fieldref 7 17), (0, .nameAndType 18 12), (0, u "COPY"), (0, .fieldref 7 20), (0, .nameAndType 21 12), (0, u "MKDIR"), (0, .fieldref 7 23), (0, .nameAndType 24 12), (0, u "MOUNT"), (0, .fieldref 7 26), (0, .nameAndType 27 12), (0, u "RESTORECON"), (0, .fieldref 7 29), (0, .nameAndType 30 12), (0, u "RESTORECON_RECURSIVE"), (0, .fieldref 7 32), (0, .nameAndType 33 12), (0, u "RM"), (0, .fieldref 7 35), (0, .nameAndType 36 12), (0, u "RMDIR"), (0, .fieldref 7 38), (0, .nameAndType 39 12), (0, u "SETPROP"), (0, .fieldref 7 41), (0, .nameAndType 42 12), (0, u "SYMLINK"), (0, .fieldref 7 44), (0, .nameAndType 45 12), (0, u "UMOUNT"), (0, .fieldref 7 47), (0, .nameAndType 48 12), (0, u "WRITE"), (0, .integer 2147483647), (0, .methodref 7 51), (0, .nameAndType 52 53), (0, u "actsBeforeMount"), (0, u "()Z"), (0, .class_ 55), (0, u "com/example/bounded_policy/boundedpolicy/service/VendorInitCommandActsBeforeMountPinLaw"), (2, u "law"), (0, u "(I)Z")] 5

def k1m0 : Method := { name := "<init>", desc := "()V", sig := { parameters := [], returnType := none }, accessFlags := 1, code := none }
def k1c1 : Code := { maxStack := 4, maxLocals := 5, code := code, exceptionTable := #[], attributes := #[] }
def k1m1 : Method := { name := "law", desc := "(I)Z", sig := { parameters := [.int], returnType := some .boolean }, accessFlags := 9, code := some k1c1 }
/-- com/example/bounded_policy/boundedpolicy/service/VendorInitCommandActsBeforeMountPinLaw -/
def k1 : Class := { plain "com/example/bounded_policy/boundedpolicy/service/VendorInitCommandActsBeforeMountPinLaw" (some 0) with
  accessFlags := 49
  interfaces := #[]
  cf := some (fileOf pool1 54 #[] #[{ accessFlags := 1, nameIndex := 5, descriptorIndex := 6, attributes := #[] }, { accessFlags := 9, nameIndex := 58, descriptorIndex := 59, attributes := #[] }] 49 2 #[] #[])
  fields := #[]
  methods := #[k1m0, k1m1]
  instanceTypes := #[]
  staticTypes := #[]
  resolved := Array.replicate 65 none
  statics := none }

def pool2 : Array CpInfo := pool [(1, .class_ 2), (0, u "java/lang/constant/Constable"), (0, .class_ 4), (0, u "java/lang/Object")] 6

/-- java/lang/constant/Constable -/
def k2 : Class := { plain "java/lang/constant/Constable" (some 0) with
  accessFlags := 1537
  interfaces := #[]
  cf := some (fileOf pool2 1 #[] #[] 1537 3 #[] #[])
  fields := #[]
  methods := #[]
  instanceTypes := #[]
  staticTypes := #[]
  resolved := Array.replicate 11 none
  statics := none }

def pool3 : Array CpInfo := pool [(1, .class_ 2), (0, u "java/lang/Comparable"), (0, .class_ 4), (0, u "java/lang/Object")] 7

/-- java/lang/Comparable -/
def k3 : Class := { plain "java/lang/Comparable" (some 0) with
  accessFlags := 1537
  interfaces := #[]
  cf := some (fileOf pool3 1 #[] #[] 1537 3 #[] #[])
  fields := #[]
  methods := #[]
  instanceTypes := #[]
  staticTypes := #[]
  resolved := Array.replicate 12 none
  statics := none }

def pool4 : Array CpInfo := pool [(1, .class_ 2), (0, u "java/io/Serializable"), (0, .class_ 4), (0, u "java/lang/Object")] 2

/-- java/io/Serializable -/
def k4 : Class := { plain "java/io/Serializable" (some 0) with
  accessFlags := 1537
  interfaces := #[]
  cf := some (fileOf pool4 1 #[] #[] 1537 3 #[] #[])
  fields := #[]
  methods := #[]
  instanceTypes := #[]
  staticTypes := #[]
  resolved := Array.replicate 7 none
  statics := none }

def pool5 : Array CpInfo := pool [(2, .class_ 4), (1, u "java/lang/Enum"), (0, u "name"), (0, u "Ljava/lang/String;"), (2, u "ordinal"), (0, u "I"), (1, .class_ 14), (1, u "java/lang/Object"), (4, u "hash"), (86, .class_ 108), (1, u "java/lang/Enum$EnumDesc"), (2, .class_ 112), (0, u "java/lang/constant/Constable"), (0, .class_ 114), (0, u "java/lang/Comparable"), (0, .class_ 116), (0, u "java/io/Serializable")] 87

/-- java/lang/Enum -/
def k5 : Class := { plain "java/lang/Enum" (some 0) with
  accessFlags := 1057
  interfaces := #[2, 3, 4]
  cf := some (fileOf pool5 2 #[.nestMembers #[106]] #[] 1057 12 #[111, 113, 115] #[{ accessFlags := 18, nameIndex := 5, descriptorIndex := 6, attributes := #[] }, { accessFlags := 18, nameIndex := 9, descriptorIndex := 10, attributes := #[] }, { accessFlags := 2, nameIndex := 19, descriptorIndex := 10, attributes := #[] }])
  fields := #[{ name := "name", type := (.object "java/lang/String"), accessFlags := 18, slot := 0, constantValue := 0 }, { name := "ordinal", type := .int, accessFlags := 18, slot := 1, constantValue := 0 }, { name := "hash", type := .int, accessFlags := 2, slot := 2, constantValue := 0 }]
  methods := #[]
  instanceTypes := #[(.object "java/lang/String"), .int, .int]
  staticTypes := #[]
  resolved := Array.replicate 204 none
  statics := none }

def pool6 : Array CpInfo := pool [(1, .class_ 2), (0, u "com/example/bounded_policy/boundedpolicy/service/VendorInitCommand"), (2, u "CHMOD"), (0, u "Lcom/example/bounded_policy/boundedpolicy/service/VendorInitCommand;"), (2, u "CHOWN"), (2, u "COPY"), (0, .fieldref 1 14), (0, .nameAndType 15 6), (0, u "MKDIR"), (0, .fieldref 1 17), (0, .nameAndType 18 6), (0, u "MOUNT"), (2, u "RESTORECON"), (2, u "RESTORECON_RECURSIVE"), (2, u "RM"), (2, u "RMDIR"), (2, u "SETPROP"), (2, u "SYMLINK"), (2, u "UMOUNT"), (2, u "WRITE"), (2, u "$VALUES"), (0, u "[Lcom/example/bounded_policy/boundedpolicy/service/VendorInitCommand;"), (6, .class_ 55), (1, u "java/lang/Enum"), (8, u "object"), (0, u "Lcom/example/bounded_policy/boundedpolicy/service/VendorInitCommand$Argument;"), (8, u "pathType"), (0, u "Ljava/util/Optional;"), (35, .class_ 113), (1, u "com/example/bounded_policy/boundedpolicy/service/VendorInitCommand$Argument"), (10, .class_ 125), (0, u "com/example/bounded_policy/boundedpolicy/service/VendorInitCommand$Need"), (87, u "actsBeforeMount"), (0, u "()Z")] 11

def k6c0 : Code := { maxStack := 2, maxLocals := 1, code := prog_132_method_10_code, exceptionTable := #[], attributes := #[] }
def k6m0 : Method := { name := "actsBeforeMount", desc := "()Z", sig := { parameters := [], returnType := some .boolean }, accessFlags := 0, code := some k6c0 }
/-- com/example/bounded_policy/boundedpolicy/service/VendorInitCommand -/
def k6 : Class := { plain "com/example/bounded_policy/boundedpolicy/service/VendorInitCommand" (some 5) with
  accessFlags := 16432
  interfaces := #[]
  cf := some (fileOf pool6 1 #[.nestMembers #[111, 124]] #[{ accessFlags := 0, nameIndex := 213, descriptorIndex := 214, attributes := #[] }] 16432 53 #[] #[{ accessFlags := 16409, nameIndex := 5, descriptorIndex := 6, attributes := #[] }, { accessFlags := 16409, nameIndex := 9, descriptorIndex := 6, attributes := #[] }, { accessFlags := 16409, nameIndex := 12, descriptorIndex := 6, attributes := #[] }, { accessFlags := 16409, nameIndex := 15, descriptorIndex := 6, attributes := #[] }, { accessFlags := 16409, nameIndex := 18, descriptorIndex := 6, attributes := #[] }, { accessFlags := 16409, nameIndex := 21, descriptorIndex := 6, attributes := #[] }, { accessFlags := 16409, nameIndex := 24, descriptorIndex := 6, attributes := #[] }, { accessFlags := 16409, nameIndex := 27, descriptorIndex := 6, attributes := #[] }, { accessFlags := 16409, nameIndex := 30, descriptorIndex := 6, attributes := #[] }, { accessFlags := 16409, nameIndex := 33, descriptorIndex := 6, attributes := #[] }, { accessFlags := 16409, nameIndex := 36, descriptorIndex := 6, attributes := #[] }, { accessFlags := 16409, nameIndex := 39, descriptorIndex := 6, attributes := #[] }, { accessFlags := 16409, nameIndex := 42, descriptorIndex := 6, attributes := #[] }, { accessFlags := 18, nameIndex := 64, descriptorIndex := 65, attributes := #[] }, { accessFlags := 18, nameIndex := 74, descriptorIndex := 75, attributes := #[] }, { accessFlags := 4122, nameIndex := 45, descriptorIndex := 46, attributes := #[] }])
  fields := #[{ name := "CHMOD", type := (.object "com/example/bounded_policy/boundedpolicy/service/VendorInitCommand"), accessFlags := 16409, slot := 0, constantValue := 0 }, { name := "CHOWN", type := (.object "com/example/bounded_policy/boundedpolicy/service/VendorInitCommand"), accessFlags := 16409, slot := 1, constantValue := 0 }, { name := "COPY", type := (.object "com/example/bounded_policy/boundedpolicy/service/VendorInitCommand"), accessFlags := 16409, slot := 2, constantValue := 0 }, { name := "MKDIR", type := (.object "com/example/bounded_policy/boundedpolicy/service/VendorInitCommand"), accessFlags := 16409, slot := 3, constantValue := 0 }, { name := "MOUNT", type := (.object "com/example/bounded_policy/boundedpolicy/service/VendorInitCommand"), accessFlags := 16409, slot := 4, constantValue := 0 }, { name := "RESTORECON", type := (.object "com/example/bounded_policy/boundedpolicy/service/VendorInitCommand"), accessFlags := 16409, slot := 5, constantValue := 0 }, { name := "RESTORECON_RECURSIVE", type := (.object "com/example/bounded_policy/boundedpolicy/service/VendorInitCommand"), accessFlags := 16409, slot := 6, constantValue := 0 }, { name := "RM", type := (.object "com/example/bounded_policy/boundedpolicy/service/VendorInitCommand"), accessFlags := 16409, slot := 7, constantValue := 0 }, { name := "RMDIR", type := (.object "com/example/bounded_policy/boundedpolicy/service/VendorInitCommand"), accessFlags := 16409, slot := 8, constantValue := 0 }, { name := "SETPROP", type := (.object "com/example/bounded_policy/boundedpolicy/service/VendorInitCommand"), accessFlags := 16409, slot := 9, constantValue := 0 }, { name := "SYMLINK", type := (.object "com/example/bounded_policy/boundedpolicy/service/VendorInitCommand"), accessFlags := 16409, slot := 10, constantValue := 0 }, { name := "UMOUNT", type := (.object "com/example/bounded_policy/boundedpolicy/service/VendorInitCommand"), accessFlags := 16409, slot := 11, constantValue := 0 }, { name := "WRITE", type := (.object "com/example/bounded_policy/boundedpolicy/service/VendorInitCommand"), accessFlags := 16409, slot := 12, constantValue := 0 }, { name := "object", type := (.object "com/example/bounded_policy/boundedpolicy/service/VendorInitCommand$Argument"), accessFlags := 18, slot := 3, constantValue := 0 }, { name := "pathType", type := (.object "java/util/Optional"), accessFlags := 18, slot := 4, constantValue := 0 }, { name := "$VALUES", type := (.array (.object "com/example/bounded_policy/boundedpolicy/service/VendorInitCommand")), accessFlags := 4122, slot := 13, constantValue := 0 }]
  methods := #[k6m0]
  instanceTypes := #[(.object "java/lang/String"), .int, .int, (.object "com/example/bounded_policy/boundedpolicy/service/VendorInitCommand$Argument"), (.object "java/util/Optional")]
  staticTypes := #[(.object "com/example/bounded_policy/boundedpolicy/service/VendorInitCommand"), (.object "com/example/bounded_policy/boundedpolicy/service/VendorInitCommand"), (.object "com/example/bounded_policy/boundedpolicy/service/VendorInitCommand"), (.object "com/example/bounded_policy/boundedpolicy/service/VendorInitCommand"), (.object "com/example/bounded_policy/boundedpolicy/service/VendorInitCommand"), (.object "com/example/bounded_policy/boundedpolicy/service/VendorInitCommand"), (.object "com/example/bounded_policy/boundedpolicy/service/VendorInitCommand"), (.object "com/example/bounded_policy/boundedpolicy/service/VendorInitCommand"), (.object "com/example/bounded_policy/boundedpolicy/service/VendorInitCommand"), (.object "com/example/bounded_policy/boundedpolicy/service/VendorInitCommand"), (.object "com/example/bounded_policy/boundedpolicy/service/VendorInitCommand"), (.object "com/example/bounded_policy/boundedpolicy/service/VendorInitCommand"), (.object "com/example/bounded_policy/boundedpolicy/service/VendorInitCommand"), (.array (.object "com/example/bounded_policy/boundedpolicy/service/VendorInitCommand"))]
  resolved := Array.replicate 226 none
  statics := some 0 }

def pool7 : Array CpInfo := pool [(1, u "java/lang/Cloneable"), (0, .class_ 1), (0, u "java/lang/Object"), (0, .class_ 3)] 3

/-- java/lang/Cloneable -/
def k7 : Class := { plain "java/lang/Cloneable" (some 0) with
  accessFlags := 1537
  interfaces := #[]
  cf := some (fileOf pool7 2 #[] #[] 1537 4 #[] #[])
  fields := #[]
  methods := #[]
  instanceTypes := #[]
  staticTypes := #[]
  resolved := Array.replicate 8 none
  statics := none }

/-- the primitive byte -/
def k8 : Class := { plain "byte" none with kind := .primitive 'B', accessFlags := 0x411 }
/-- [B -/
def k9 : Class := { plain "[B" (some 0) with kind := .array 8 .byte, interfaces := #[7, 4], accessFlags := 1041 }

/-- the primitive int -/
def k10 : Class := { plain "int" none with kind := .primitive 'I', accessFlags := 0x411 }
/-- [I -/
def k11 : Class := { plain "[I" (some 0) with kind := .array 10 .int, interfaces := #[7, 4], accessFlags := 1041 }

/-- [Lcom/example/bounded_policy/boundedpolicy/service/VendorInitCommand; -/
def k12 : Class := { plain "[Lcom/example/bounded_policy/boundedpolicy/service/VendorInitCommand;" (some 0) with kind := .array 6 (.object "com/example/bounded_policy/boundedpolicy/service/VendorInitCommand"), interfaces := #[7, 4], accessFlags := 1041 }

def heap : Heap := #[{ cls := 6, slots := #[.ref 1, .ref 2, .ref 3, .ref 4, .ref 5, .ref 6, .ref 7, .ref 8, .ref 9, .ref 10, .ref 11, .ref 12, .ref 13, .null], vm := .statics 6 },
  { cls := 6, slots := #[.null, .int 0, .int 0, .null, .null], vm := .none },
  { cls := 6, slots := #[.null, .int 1, .int 0, .null, .null], vm := .none },
  { cls := 6, slots := #[.null, .int 2, .int 0, .null, .null], vm := .none },
  { cls := 6, slots := #[.null, .int 3, .int 0, .null, .null], vm := .none },
  { cls := 6, slots := #[.null, .int 4, .int 0, .null, .null], vm := .none },
  { cls := 6, slots := #[.null, .int 5, .int 0, .null, .null], vm := .none },
  { cls := 6, slots := #[.null, .int 6, .int 0, .null, .null], vm := .none },
  { cls := 6, slots := #[.null, .int 7, .int 0, .null, .null], vm := .none },
  { cls := 6, slots := #[.null, .int 8, .int 0, .null, .null], vm := .none },
  { cls := 6, slots := #[.null, .int 9, .int 0, .null, .null], vm := .none },
  { cls := 6, slots := #[.null, .int 10, .int 0, .null, .null], vm := .none },
  { cls := 6, slots := #[.null, .int 11, .int 0, .null, .null], vm := .none },
  { cls := 6, slots := #[.null, .int 12, .int 0, .null, .null], vm := .none }]
def classes : Array Class := #[k0, k1, k2, k3, k4, k5, k6, k7, k8, k9, k10, k11, k12]
def interned : List (Array UInt16 × Addr) := []
def slotsUsed : Nat := 79
def theMethod : MethodId := ⟨1, 1⟩
def args0 : Array Value := #[.int 5]
def aboutOver (below : List Frame) : State where
  vm := { classes := classes, interned := interned.toArray }
  heap := heap
  slotsUsed := slotsUsed
  threads := #[{ frames := .invoking theMethod args0 :: below }]
def below0 : List Frame := [.native { method := ⟨0, 0⟩, args := #[] }]
def about1 : State := aboutOver below0
def p0 : Program := .bare "" "" ""
def e0 : Env := launch0.env 0 0 0
theorem w_frames : about1.frames = Frame.invoking theMethod args0 :: below0 := rfl
set_option maxRecDepth 65536 in
theorem w_args : argsFit about1.vm theMethod args0 = true := by decide +kernel
set_option maxRecDepth 65536 in
theorem w_heap : heapFits about1 = true := by decide +kernel
set_option maxRecDepth 65536 in
theorem w_runnable : about1.curStatus? = some .runnable := by decide +kernel
set_option maxRecDepth 65536 in
theorem w_alone : about1.alone = true := by decide +kernel
set_option maxRecDepth 65536 in
theorem w_named : about1.methodNamed? x = some theMethod := by decide +kernel
set_option maxRecDepth 65536 in
theorem w_hears : about1.hears theMethod below0 = true := by decide +kernel
set_option maxRecDepth 65536 in
theorem w_ripe : about1.ripe theMethod args0 below0 = true := by decide +kernel
theorem w_running : about1.status = .running := rfl
set_option maxRecDepth 65536 in
theorem w_room : about1.hasRoom e0.platform room_1 = true :=
  launch0.hasRoom_least _ room_1 (by decide +kernel) (by decide +kernel) (by decide +kernel) (by decide +kernel) (by decide +kernel) (by decide +kernel)
theorem allAtoms_all (ts : List Jvm.Cond) (a : Array Jvm.Value) (st : Jvm.State) : (allAtoms ts).before a st = ts.all (fun c => c.before a st) := by
  induction ts with
  | nil => rfl
  | cons c t ih =>
    show (Jvm.Cond.and c (allAtoms t)).before a st = _
    rw [Jvm.Cond.before_and, ih, List.all_cons]
def words1 : List Jvm.Cond := Jvm.Cond.code x code maxLocals ret :: tables_1
/-- a 'code' word, met by the world's own term for the bytes: nothing is compared byte by byte -/
theorem code_word {y : MethodName} {bytes : ByteArray} {mx : Nat} {rt : Option FieldType} {a : Array Value} {s : State} {m : MethodId} {meth : Method} {c : Code} (h1 : s.methodNamed? y = some m) (h2 : s.vm.method? m = some meth) (h3 : meth.code = some c) (h4 : c.code = bytes)
    (h5 : (c.maxLocals == mx && c.exceptionTable.isEmpty && decide (c.maxStack ≤ mostOperands) && decide (meth.sig.returnType = rt) && !meth.locks && decide (parseMethodDescriptor y.desc = some meth.sig)) = true) : (Jvm.Cond.code y bytes mx rt).before a s = true := by
  simp only [Bool.and_eq_true, beq_iff_eq, Bool.not_eq_true', decide_eq_true_eq] at h5
  obtain ⟨⟨⟨⟨⟨g1, g2⟩, g3⟩, g4⟩, g5⟩, g6⟩ := h5
  simp [Cond.before, Cond.holds, Cond.value, h1, h2, h3, h4, g1, g2, g3, g4, g5, g6]
def isCode : Jvm.Cond → Bool
  | .code _ _ _ _ => true
  | _ => false
theorem all_split {L : List Jvm.Cond} {P : Jvm.Cond → Bool} (h1 : L.all (fun c => isCode c || P c) = true) (h2 : ∀ c ∈ L.filter isCode, P c = true) : L.all P = true := by
  refine List.all_eq_true.mpr fun c hc => ?_
  have h := List.all_eq_true.mp h1 c hc
  rcases Bool.eq_false_or_eq_true (isCode c) with hi | hi
  · exact h2 c (List.mem_filter.mpr ⟨hc, hi⟩)
  · simpa [hi] using h
set_option maxRecDepth 65536 in
theorem w_c0 : (Jvm.Cond.code x code maxLocals ret).before args0 about1 = true := code_word (m := ⟨1, 1⟩) (meth := k1m1) (c := k1c1) (by decide +kernel) rfl rfl rfl (by decide +kernel)
set_option maxRecDepth 65536 in
theorem w_c1 : (Jvm.Cond.code ({ cls := "com/example/bounded_policy/boundedpolicy/service/VendorInitCommand", name := "actsBeforeMount", desc := "()Z" } : Jvm.MethodName) prog_132_method_10_code (1 : Nat) (Option.some Jvm.ClassFile.FieldType.boolean)).before args0 about1 = true := code_word (m := ⟨6, 0⟩) (meth := k6m0) (c := k6c0) (by decide +kernel) rfl rfl rfl (by decide +kernel)
def codes1 : List Jvm.Cond := [Jvm.Cond.code x code maxLocals ret, Jvm.Cond.code ({ cls := "com/example/bounded_policy/boundedpolicy/service/VendorInitCommand", name := "actsBeforeMount", desc := "()Z" } : Jvm.MethodName) prog_132_method_10_code (1 : Nat) (Option.some Jvm.ClassFile.FieldType.boolean)]
set_option maxRecDepth 65536 in
theorem codes_eq : words1.filter isCode = codes1 := rfl
theorem w_codes : ∀ c ∈ words1.filter isCode, c.before args0 about1 = true := by
  rw [codes_eq]
  intro c hc
  simp only [codes1, List.mem_cons, List.not_mem_nil, or_false] at hc
  rcases hc with rfl | rfl
  · exact w_c0
  · exact w_c1
set_option maxRecDepth 65536 in
theorem w_t1 : (words1.take 24).all (fun c => isCode c || c.before args0 about1) = true := by decide +kernel
set_option maxRecDepth 65536 in
theorem w_t2 : (words1.drop 24).all (fun c => isCode c || c.before args0 about1) = true := by decide +kernel
theorem w_tables : (allAtoms (Jvm.Cond.code x code maxLocals ret :: tables_1)).before args0 about1 = true := by
  rw [allAtoms_all]
  show words1.all (fun c => c.before args0 about1) = true
  refine all_split ?_ w_codes
  rw [← List.take_append_drop 24 words1, List.all_append, w_t1, w_t2]
  rfl
set_option maxRecDepth 65536 in
theorem w_case : (Jvm.Cond.and given_1 narrow_1).before args0 about1 = true := by decide +kernel
theorem w_applies : (headSpec (Jvm.Cond.code x code maxLocals ret :: tables_1) room_1).applies x e0.platform about1 = true :=
  (Spec.applies_iff w_frames).mpr ⟨w_running, w_runnable, w_alone, w_named, w_hears, w_ripe, w_room, w_tables⟩
theorem atStart : AtStart classFile x code maxLocals ret World_1 tables_1 room_1 Calls_1 rest_1 Pre_1 launch0 p0 e0 about1 theMethod args0 below0 :=
  ⟨lists_1, trivial, launch0.admits_env _ _ _, launch0.least_env, fairChoices_fair.cas, fairChoices_fair.clock, w_frames, w_args, w_heap, w_applies, trivial, trivial, w_case⟩
end start1
theorem witness_1 : WitnessClaimed_1 := ⟨start1.p0, start1.e0, start1.about1, start1.theMethod, start1.args0, start1.below0, start1.atStart⟩
end Jvm.Pilot.@@N@@
