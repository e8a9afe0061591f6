import JvmDerived
import JvmDerived.Pilot.@@N@@Statement
import JvmDerived.Pilot.@@N@@Code
set_option linter.unusedVariables false
set_option linter.unusedSimpArgs false
namespace Jvm.RoadKit
open Sem ClassFile Op Lib Jvm.Stand Jvm.Free Jvm.LawKit
section New
variable {p : Program} {l : Launch} {e : Env} {R : Room} {s : State} {m : MethodId} {args : Array Value} {below : List Frame} {meth : Method} {c : Code} {T : State} {locs : List Loc} {cells slots : Nat}
theorem own_retV (X : Stand p l e R s m args below meth c T locs cells slots) (hx : p.tables.exec = Jvm.exec) {pc : Nat} {Ls : Array Slot} {w : Value} {rest : List Value} {t : FieldType} (hret : meth.sig.returnType = some t) (ht : t.isReference = true) (hw : w.isRef = true)
    (hd : decode c.code pc = .ok (.areturn, 1)) {fs : List Frame} (hl : ∀ (f : JFrame) (acts : List Action), f.method = m → f.locked = none → f.entered = [] → (doReturn e (T.setTop f) acts (some w)).1 = T.setFrames fs) :
    Steps p.tables e below (T.setTop (mkF m pc Ls (w :: rest))) (T.setFrames fs) :=
  retOut X hx hret (by cases t <;> first | rfl | cases ht) (Or.inr (Or.inr (Or.inr (Or.inr ⟨rfl, ht, hw⟩)))) hd hl
theorem own_retI (X : Stand p l e R s m args below meth c T locs cells slots) (hx : p.tables.exec = Jvm.exec) {pc : Nat} {Ls : Array Slot} {z : Int32} {rest : List Value} (hret : meth.sig.returnType = some .int)
    (hd : decode c.code pc = .ok (.ireturn, 1)) {fs : List Frame} (hl : ∀ (f : JFrame) (acts : List Action), f.method = m → f.locked = none → f.entered = [] → (doReturn e (T.setTop f) acts (some (.int z))).1 = T.setFrames fs) :
    Steps p.tables e below (T.setTop (mkF m pc Ls (.int z :: rest))) (T.setFrames fs) :=
  retOut X hx hret rfl (Or.inl ⟨rfl, Or.inl rfl, z, rfl⟩) hd hl
theorem own_retL (X : Stand p l e R s m args below meth c T locs cells slots) (hx : p.tables.exec = Jvm.exec) {pc : Nat} {Ls : Array Slot} {z : Int64} {rest : List Value} (hret : meth.sig.returnType = some .long)
    (hd : decode c.code pc = .ok (.lreturn, 1)) {fs : List Frame} (hl : ∀ (f : JFrame) (acts : List Action), f.method = m → f.locked = none → f.entered = [] → (doReturn e (T.setTop f) acts (some (.long z))).1 = T.setFrames fs) :
    Steps p.tables e below (T.setTop (mkF m pc Ls (.long z :: rest))) (T.setFrames fs) :=
  retOut X hx hret rfl (Or.inr (Or.inl ⟨rfl, rfl, z, rfl⟩)) hd hl
theorem own_go {tb : Tables} {e : Env} {below : List Frame} {A A' : State} {P : State → Outcome → Prop} (st : ∀ t, Steps tb e below A' t → Steps tb e below A t) (h : ∃ s₂ o, Steps tb e below A' s₂ ∧ P s₂ o) : ∃ s₂ o, Steps tb e below A s₂ ∧ P s₂ o :=
  let ⟨s₂, o, h1, h2⟩ := h
  ⟨s₂, o, st _ h1, h2⟩
theorem own_fld_inj {Z : State} {h : Heap} {a : Addr} {C n d : String} {v w : Value} (F : Fld Z h a C n d v) (G : Fld Z h a C n d w) : v = w := by
  obtain ⟨c1, cf1, k1, i1, f1, p1, p2, -, -, -, -, p5⟩ := F
  obtain ⟨c2, cf2, k2, i2, f2, q1, q2, -, -, -, -, q5⟩ := G
  rw [p1] at q1; cases q1
  rw [p2] at q2; cases q2
  have := p5.symm.trans q5
  simpa using this
theorem own_fld_ne {Z : State} {h : Heap} {a b : Addr} {C n d : String} {i j : Int32} (F : Fld Z h a C n d (.int i)) (G : Fld Z h b C n d (.int j)) (hij : ¬ i = j) : ¬ a = b := fun q => by
  subst q
  exact hij (Value.int.inj (own_fld_inj F G))
theorem own_keep_ext {h h' : Heap} (K : Keep h h' []) : Ext h h' := ⟨K.1, fun a c q => K.2.1 a c q nin0⟩
theorem own_sta_keep {Z : State} {h h' : Heap} {C n d K : String} {v : Value} {a : Addr} (F : Sta Z h C n d v) (k : Keep h h' [a]) (E : Exa Z h a K) : Sta Z h' C n d v := by
  obtain ⟨cf, i, kk, f, st, cell, h1, h2, h3, h4, h5, h6, h7⟩ := F
  refine ⟨cf, i, kk, f, st, cell, h1, h2, h3, h4, k.2.1 _ _ h5 (ninS (fun q => ?_) nin0), h6, h7⟩
  obtain ⟨cell', k', g1, -, -, g4, -⟩ := E
  subst q
  cases h5.symm.trans g1
  rw [h6] at g4; cases g4
theorem own_ext_trans {h h' h'' : Heap} (E : Ext h h') (F : Ext h' h'') : Ext h h'' := ⟨Nat.le_trans E.1 F.1, fun a c q => F.2 a c (E.2 a c q)⟩
theorem own_ext_keep {h h' h'' : Heap} {ws : List Addr} (E : Ext h h') (K : Keep h' h'' ws) (q : ∀ x ∈ ws, h.size ≤ x) : Ext h h'' :=
  ⟨Nat.le_trans E.1 K.1, fun a c r => K.2.1 a c (E.2 a c r) fun z => absurd (Array.getElem?_eq_some_iff.mp r).1 (Nat.not_lt.mpr (q a z))⟩
theorem own_ext_wr {h h' h'' : Heap} {b : Addr} {sl : Nat} {v : Value} (E : Ext h h') (W : Wr h' h'' b sl v) (q : h.size ≤ b) : Ext h h'' :=
  own_ext_keep E (Keep.of_wr W) fun x hx => by cases List.mem_singleton.mp hx; exact q
end New
end Jvm.RoadKit
namespace Jvm.Pilot.@@N@@
open Jvm Jvm.ClassFile Sem Op Lib Jvm.Free Jvm.Stand Jvm.LawKit Jvm.RoadKit Bundle Jvm.Pilot.@@N@@.Jvm.D
def pk (w_ANY w_REGULAR_FILE w_DIRECTORY w_CHARACTER_DEVICE w_BLOCK_DEVICE w_SOCKET w_SYMBOLIC_LINK w_PIPE : Addr) (k : Int32) : Addr := if k = (0 : Int32) then w_ANY else if k = (1 : Int32) then w_REGULAR_FILE else if k = (2 : Int32) then w_DIRECTORY else if k = (3 : Int32) then w_CHARACTER_DEVICE else if k = (4 : Int32) then w_BLOCK_DEVICE else if k = (5 : Int32) then w_SOCKET else if k = (6 : Int32) then w_SYMBOLIC_LINK else w_PIPE
def lab (v a b : Addr) : Int32 := if a = v then 1 else if b = v then 1 else if a = b then 1 else 0
def exF (i j : Int32) : Int32 := if i = (0 : Int32) then 1 else if j = (0 : Int32) then 1 else if i = j then 1 else 0
theorem pk_exa {Z : State} {h : Heap} {C : String} {w_ANY w_REGULAR_FILE w_DIRECTORY w_CHARACTER_DEVICE w_BLOCK_DEVICE w_SOCKET w_SYMBOLIC_LINK w_PIPE : Addr} (k : Int32) (e0 : Exa Z h w_ANY C) (e1 : Exa Z h w_REGULAR_FILE C) (e2 : Exa Z h w_DIRECTORY C) (e3 : Exa Z h w_CHARACTER_DEVICE C) (e4 : Exa Z h w_BLOCK_DEVICE C) (e5 : Exa Z h w_SOCKET C) (e6 : Exa Z h w_SYMBOLIC_LINK C) (e7 : Exa Z h w_PIPE C) : Exa Z h (pk w_ANY w_REGULAR_FILE w_DIRECTORY w_CHARACTER_DEVICE w_BLOCK_DEVICE w_SOCKET w_SYMBOLIC_LINK w_PIPE k) C := by
  unfold pk
  repeat' split
  all_goals assumption
theorem own_small {k : Int32} (h0 : 0 ≤ k.toInt) (h1 : k.toInt < 8) : k = 0 ∨ k = 1 ∨ k = 2 ∨ k = 3 ∨ k = 4 ∨ k = 5 ∨ k = 6 ∨ k = 7 := by
  simp only [← Int32.toInt_inj]
  have e0 : (0 : Int32).toInt = 0 := by decide
  have e1 : (1 : Int32).toInt = 1 := by decide
  have e2 : (2 : Int32).toInt = 2 := by decide
  have e3 : (3 : Int32).toInt = 3 := by decide
  have e4 : (4 : Int32).toInt = 4 := by decide
  have e5 : (5 : Int32).toInt = 5 := by decide
  have e6 : (6 : Int32).toInt = 6 := by decide
  have e7 : (7 : Int32).toInt = 7 := by decide
  rw [e0, e1, e2, e3, e4, e5, e6, e7]
  omega
theorem own_mask (x : Int32) : (x &&& 7) = 0 ∨ (x &&& 7) = 1 ∨ (x &&& 7) = 2 ∨ (x &&& 7) = 3 ∨ (x &&& 7) = 4 ∨ (x &&& 7) = 5 ∨ (x &&& 7) = 6 ∨ (x &&& 7) = 7 := by
  have h := c_mask x 7 3 (by decide) (by decide)
  exact own_small (by omega) (by omega)
set_option maxHeartbeats 4000000 in
theorem own_key {w_ANY w_REGULAR_FILE w_DIRECTORY w_CHARACTER_DEVICE w_BLOCK_DEVICE w_SOCKET w_SYMBOLIC_LINK w_PIPE : Addr} (n0_1 : ¬ w_ANY = w_REGULAR_FILE) (n0_2 : ¬ w_ANY = w_DIRECTORY) (n0_3 : ¬ w_ANY = w_CHARACTER_DEVICE) (n0_4 : ¬ w_ANY = w_BLOCK_DEVICE) (n0_5 : ¬ w_ANY = w_SOCKET) (n0_6 : ¬ w_ANY = w_SYMBOLIC_LINK) (n0_7 : ¬ w_ANY = w_PIPE) (n1_0 : ¬ w_REGULAR_FILE = w_ANY) (n1_2 : ¬ w_REGULAR_FILE = w_DIRECTORY) (n1_3 : ¬ w_REGULAR_FILE = w_CHARACTER_DEVICE) (n1_4 : ¬ w_REGULAR_FILE = w_BLOCK_DEVICE) (n1_5 : ¬ w_REGULAR_FILE = w_SOCKET) (n1_6 : ¬ w_REGULAR_FILE = w_SYMBOLIC_LINK) (n1_7 : ¬ w_REGULAR_FILE = w_PIPE) (n2_0 : ¬ w_DIRECTORY = w_ANY) (n2_1 : ¬ w_DIRECTORY = w_REGULAR_FILE) (n2_3 : ¬ w_DIRECTORY = w_CHARACTER_DEVICE) (n2_4 : ¬ w_DIRECTORY = w_BLOCK_DEVICE) (n2_5 : ¬ w_DIRECTORY = w_SOCKET) (n2_6 : ¬ w_DIRECTORY = w_SYMBOLIC_LINK) (n2_7 : ¬ w_DIRECTORY = w_PIPE) (n3_0 : ¬ w_CHARACTER_DEVICE = w_ANY) (n3_1 : ¬ w_CHARACTER_DEVICE = w_REGULAR_FILE) (n3_2 : ¬ w_CHARACTER_DEVICE = w_DIRECTORY) (n3_4 : ¬ w_CHARACTER_DEVICE = w_BLOCK_DEVICE) (n3_5 : ¬ w_CHARACTER_DEVICE = w_SOCKET) (n3_6 : ¬ w_CHARACTER_DEVICE = w_SYMBOLIC_LINK) (n3_7 : ¬ w_CHARACTER_DEVICE = w_PIPE) (n4_0 : ¬ w_BLOCK_DEVICE = w_ANY) (n4_1 : ¬ w_BLOCK_DEVICE = w_REGULAR_FILE) (n4_2 : ¬ w_BLOCK_DEVICE = w_DIRECTORY) (n4_3 : ¬ w_BLOCK_DEVICE = w_CHARACTER_DEVICE) (n4_5 : ¬ w_BLOCK_DEVICE = w_SOCKET) (n4_6 : ¬ w_BLOCK_DEVICE = w_SYMBOLIC_LINK) (n4_7 : ¬ w_BLOCK_DEVICE = w_PIPE) (n5_0 : ¬ w_SOCKET = w_ANY) (n5_1 : ¬ w_SOCKET = w_REGULAR_FILE) (n5_2 : ¬ w_SOCKET = w_DIRECTORY) (n5_3 : ¬ w_SOCKET = w_CHARACTER_DEVICE) (n5_4 : ¬ w_SOCKET = w_BLOCK_DEVICE) (n5_6 : ¬ w_SOCKET = w_SYMBOLIC_LINK) (n5_7 : ¬ w_SOCKET = w_PIPE) (n6_0 : ¬ w_SYMBOLIC_LINK = w_ANY) (n6_1 : ¬ w_SYMBOLIC_LINK = w_REGULAR_FILE) (n6_2 : ¬ w_SYMBOLIC_LINK = w_DIRECTORY) (n6_3 : ¬ w_SYMBOLIC_LINK = w_CHARACTER_DEVICE) (n6_4 : ¬ w_SYMBOLIC_LINK = w_BLOCK_DEVICE) (n6_5 : ¬ w_SYMBOLIC_LINK = w_SOCKET) (n6_7 : ¬ w_SYMBOLIC_LINK = w_PIPE) (n7_0 : ¬ w_PIPE = w_ANY) (n7_1 : ¬ w_PIPE = w_REGULAR_FILE) (n7_2 : ¬ w_PIPE = w_DIRECTORY) (n7_3 : ¬ w_PIPE = w_CHARACTER_DEVICE) (n7_4 : ¬ w_PIPE = w_BLOCK_DEVICE) (n7_5 : ¬ w_PIPE = w_SOCKET) (n7_6 : ¬ w_PIPE = w_SYMBOLIC_LINK) {i j : Int32} (hi : i = 0 ∨ i = 1 ∨ i = 2 ∨ i = 3 ∨ i = 4 ∨ i = 5 ∨ i = 6 ∨ i = 7) (hj : j = 0 ∨ j = 1 ∨ j = 2 ∨ j = 3 ∨ j = 4 ∨ j = 5 ∨ j = 6 ∨ j = 7) : lab w_ANY (pk w_ANY w_REGULAR_FILE w_DIRECTORY w_CHARACTER_DEVICE w_BLOCK_DEVICE w_SOCKET w_SYMBOLIC_LINK w_PIPE i) (pk w_ANY w_REGULAR_FILE w_DIRECTORY w_CHARACTER_DEVICE w_BLOCK_DEVICE w_SOCKET w_SYMBOLIC_LINK w_PIPE j) = exF i j := by
  have q : ∀ n : Int32, n = n := fun _ => rfl
  rcases hi with rfl | rfl | rfl | rfl | rfl | rfl | rfl | rfl <;> rcases hj with rfl | rfl | rfl | rfl | rfl | rfl | rfl | rfl <;> simp [lab, pk, exF, n0_1, n0_2, n0_3, n0_4, n0_5, n0_6, n0_7, n1_0, n1_2, n1_3, n1_4, n1_5, n1_6, n1_7, n2_0, n2_1, n2_3, n2_4, n2_5, n2_6, n2_7, n3_0, n3_1, n3_2, n3_4, n3_5, n3_6, n3_7, n4_0, n4_1, n4_2, n4_3, n4_5, n4_6, n4_7, n5_0, n5_1, n5_2, n5_3, n5_4, n5_6, n5_7, n6_0, n6_1, n6_2, n6_3, n6_4, n6_5, n6_7, n7_0, n7_1, n7_2, n7_3, n7_4, n7_5, n7_6]
theorem d1_0 : decode method_2_code 0 = .ok (.iload_n 0, 1) := by decide +kernel
theorem d1_1 : decode method_2_code 1 = .ok (.ifCond .ne 7, 3) := by decide +kernel
theorem d1_4 : decode method_2_code 4 = .ok (.getstatic 7, 3) := by decide +kernel
theorem d1_7 : decode method_2_code 7 = .ok (.areturn, 1) := by decide +kernel
theorem d1_8 : decode method_2_code 8 = .ok (.iload_n 0, 1) := by decide +kernel
theorem d1_9 : decode method_2_code 9 = .ok (.iconst 1, 1) := by decide +kernel
theorem d1_10 : decode method_2_code 10 = .ok (.if_icmp .ne 7, 3) := by decide +kernel
theorem d1_13 : decode method_2_code 13 = .ok (.getstatic 13, 3) := by decide +kernel
theorem d1_16 : decode method_2_code 16 = .ok (.areturn, 1) := by decide +kernel
theorem d1_17 : decode method_2_code 17 = .ok (.iload_n 0, 1) := by decide +kernel
theorem d1_18 : decode method_2_code 18 = .ok (.iconst 2, 1) := by decide +kernel
theorem d1_19 : decode method_2_code 19 = .ok (.if_icmp .ne 7, 3) := by decide +kernel
theorem d1_22 : decode method_2_code 22 = .ok (.getstatic 16, 3) := by decide +kernel
theorem d1_25 : decode method_2_code 25 = .ok (.areturn, 1) := by decide +kernel
theorem d1_26 : decode method_2_code 26 = .ok (.iload_n 0, 1) := by decide +kernel
theorem d1_27 : decode method_2_code 27 = .ok (.iconst 3, 1) := by decide +kernel
theorem d1_28 : decode method_2_code 28 = .ok (.if_icmp .ne 7, 3) := by decide +kernel
theorem d1_31 : decode method_2_code 31 = .ok (.getstatic 19, 3) := by decide +kernel
theorem d1_34 : decode method_2_code 34 = .ok (.areturn, 1) := by decide +kernel
theorem d1_35 : decode method_2_code 35 = .ok (.iload_n 0, 1) := by decide +kernel
theorem d1_36 : decode method_2_code 36 = .ok (.iconst 4, 1) := by decide +kernel
theorem d1_37 : decode method_2_code 37 = .ok (.if_icmp .ne 7, 3) := by decide +kernel
theorem d1_40 : decode method_2_code 40 = .ok (.getstatic 22, 3) := by decide +kernel
theorem d1_43 : decode method_2_code 43 = .ok (.areturn, 1) := by decide +kernel
theorem d1_44 : decode method_2_code 44 = .ok (.iload_n 0, 1) := by decide +kernel
theorem d1_45 : decode method_2_code 45 = .ok (.iconst 5, 1) := by decide +kernel
theorem d1_46 : decode method_2_code 46 = .ok (.if_icmp .ne 7, 3) := by decide +kernel
theorem d1_49 : decode method_2_code 49 = .ok (.getstatic 25, 3) := by decide +kernel
theorem d1_52 : decode method_2_code 52 = .ok (.areturn, 1) := by decide +kernel
theorem d1_53 : decode method_2_code 53 = .ok (.iload_n 0, 1) := by decide +kernel
theorem d1_54 : decode method_2_code 54 = .ok (.bipush 6, 2) := by decide +kernel
theorem d1_56 : decode method_2_code 56 = .ok (.if_icmp .ne 7, 3) := by decide +kernel
theorem d1_59 : decode method_2_code 59 = .ok (.getstatic 28, 3) := by decide +kernel
theorem d1_62 : decode method_2_code 62 = .ok (.areturn, 1) := by decide +kernel
theorem d1_63 : decode method_2_code 63 = .ok (.getstatic 31, 3) := by decide +kernel
theorem d1_66 : decode method_2_code 66 = .ok (.areturn, 1) := by decide +kernel
theorem pn_1 : plainName "com/example/bounded_policy/boundedpolicy/model/FileTypeLabelsPinLaw" = true := by first | (simp [plainName, overriddenIn]; done) | decide +kernel
theorem ef_1 (m : MethodId) (p0 : Int32) : entryFrame m #[(.int p0)] 1 = mkF m 0 #[.val (.int p0)] [] := by first | (simp [entryFrame, mkF, argsToLocals, Value.category]; done) | rfl
def Q1 (Z : State) (p0 : Int32) (w_ANY : Addr) (w_CHARACTER_DEVICE : Addr) (w_SYMBOLIC_LINK : Addr) (w_REGULAR_FILE : Addr) (w_BLOCK_DEVICE : Addr) (w_SOCKET : Addr) (w_PIPE : Addr) (w_DIRECTORY : Addr) (h0 : Heap) (n0 : Nat) (v : Option Value) (h : Heap) (L : List Loc) : Prop := v = some (.ref (pk w_ANY w_REGULAR_FILE w_DIRECTORY w_CHARACTER_DEVICE w_BLOCK_DEVICE w_SOCKET w_SYMBOLIC_LINK w_PIPE p0)) ∧ Fr n0 L ∧ h = h0
set_option maxRecDepth 65536 in
set_option maxHeartbeats 40000000 in
theorem rm1 (l : Launch) (Z : State) (a0 : Array Value) (hw : ∀ d ∈ tables_1, d.before a0 Z = true) (ws : List Jvm.Cond) (p0 : Int32) (w_ANY : Addr) (w_CHARACTER_DEVICE : Addr) (w_SYMBOLIC_LINK : Addr) (w_REGULAR_FILE : Addr) (w_BLOCK_DEVICE : Addr) (w_SOCKET : Addr) (w_PIPE : Addr) (w_DIRECTORY : Addr) (h0 : Heap) (n0 : Nat) (Z0 : n0 ≤ h0.size) (S_ANY : Sta Z h0 "com/example/bounded_policy/boundedpolicy/model/FileType" "ANY" "Lcom/example/bounded_policy/boundedpolicy/model/FileType;" (.ref w_ANY)) (S_CHARACTER_DEVICE : Sta Z h0 "com/example/bounded_policy/boundedpolicy/model/FileType" "CHARACTER_DEVICE" "Lcom/example/bounded_policy/boundedpolicy/model/FileType;" (.ref w_CHARACTER_DEVICE)) (S_SYMBOLIC_LINK : Sta Z h0 "com/example/bounded_policy/boundedpolicy/model/FileType" "SYMBOLIC_LINK" "Lcom/example/bounded_policy/boundedpolicy/model/FileType;" (.ref w_SYMBOLIC_LINK)) (S_REGULAR_FILE : Sta Z h0 "com/example/bounded_policy/boundedpolicy/model/FileType" "REGULAR_FILE" "Lcom/example/bounded_policy/boundedpolicy/model/FileType;" (.ref w_REGULAR_FILE)) (S_BLOCK_DEVICE : Sta Z h0 "com/example/bounded_policy/boundedpolicy/model/FileType" "BLOCK_DEVICE" "Lcom/example/bounded_policy/boundedpolicy/model/FileType;" (.ref w_BLOCK_DEVICE)) (S_SOCKET : Sta Z h0 "com/example/bounded_policy/boundedpolicy/model/FileType" "SOCKET" "Lcom/example/bounded_policy/boundedpolicy/model/FileType;" (.ref w_SOCKET)) (S_PIPE : Sta Z h0 "com/example/bounded_policy/boundedpolicy/model/FileType" "PIPE" "Lcom/example/bounded_policy/boundedpolicy/model/FileType;" (.ref w_PIPE)) (S_DIRECTORY : Sta Z h0 "com/example/bounded_policy/boundedpolicy/model/FileType" "DIRECTORY" "Lcom/example/bounded_policy/boundedpolicy/model/FileType;" (.ref w_DIRECTORY)) (E_ANY : Exa Z h0 w_ANY "com/example/bounded_policy/boundedpolicy/model/FileType") (E_CHARACTER_DEVICE : Exa Z h0 w_CHARACTER_DEVICE "com/example/bounded_policy/boundedpolicy/model/FileType") (E_SYMBOLIC_LINK : Exa Z h0 w_SYMBOLIC_LINK "com/example/bounded_policy/boundedpolicy/model/FileType") (E_REGULAR_FILE : Exa Z h0 w_REGULAR_FILE "com/example/bounded_policy/boundedpolicy/model/FileType") (E_BLOCK_DEVICE : Exa Z h0 w_BLOCK_DEVICE "com/example/bounded_policy/boundedpolicy/model/FileType") (E_SOCKET : Exa Z h0 w_SOCKET "com/example/bounded_policy/boundedpolicy/model/FileType") (E_PIPE : Exa Z h0 w_PIPE "com/example/bounded_policy/boundedpolicy/model/FileType") (E_DIRECTORY : Exa Z h0 w_DIRECTORY "com/example/bounded_policy/boundedpolicy/model/FileType") (O_ANY_ordinal : Fld Z h0 w_ANY "java/lang/Enum" "ordinal" "I" (.int (0 : Int32))) (O_CHARACTER_DEVICE_ordinal : Fld Z h0 w_CHARACTER_DEVICE "java/lang/Enum" "ordinal" "I" (.int (3 : Int32))) (O_SYMBOLIC_LINK_ordinal : Fld Z h0 w_SYMBOLIC_LINK "java/lang/Enum" "ordinal" "I" (.int (6 : Int32))) (O_REGULAR_FILE_ordinal : Fld Z h0 w_REGULAR_FILE "java/lang/Enum" "ordinal" "I" (.int (1 : Int32))) (O_BLOCK_DEVICE_ordinal : Fld Z h0 w_BLOCK_DEVICE "java/lang/Enum" "ordinal" "I" (.int (4 : Int32))) (O_SOCKET_ordinal : Fld Z h0 w_SOCKET "java/lang/Enum" "ordinal" "I" (.int (5 : Int32))) (O_PIPE_ordinal : Fld Z h0 w_PIPE "java/lang/Enum" "ordinal" "I" (.int (7 : Int32))) (O_DIRECTORY_ordinal : Fld Z h0 w_DIRECTORY "java/lang/Enum" "ordinal" "I" (.int (2 : Int32))) :
    MetFree l (⟨"com/example/bounded_policy/boundedpolicy/model/FileTypeLabelsPinLaw", "pick", "(I)Lcom/example/bounded_policy/boundedpolicy/model/FileType;"⟩ : MethodName) (head1 (Jvm.Cond.code (⟨"com/example/bounded_policy/boundedpolicy/model/FileTypeLabelsPinLaw", "pick", "(I)Lcom/example/bounded_policy/boundedpolicy/model/FileType;"⟩ : MethodName) method_2_code 1 (some (.object "com/example/bounded_policy/boundedpolicy/model/FileType")) :: ws) ({ frames := 0, cells := 0, slots := 0, locals := 0 } : Room)) (fun a U => a = #[(.int p0)] ∧ Z.Warmed39 U.vm ∧ U.heap = h0) (fun _ _ _ _ _ => True) (fun _ U o U' => ∃ v L, o = .returned v ∧ Q1 Z p0 w_ANY w_CHARACTER_DEVICE w_SYMBOLIC_LINK w_REGULAR_FILE w_BLOCK_DEVICE w_SOCKET w_PIPE w_DIRECTORY h0 n0 v U'.heap L ∧ FrameEnd U o U' L ({ frames := 0, cells := 0, slots := 0, locals := 0 } : Room).cells ({ frames := 0, cells := 0, slots := 0, locals := 0 } : Room).slots) := by
  refine MetFree.of_bodySF (plainFor_of_name pn_1) hisR ?_
  intro p e s m args below meth c s₁ Bd hml0 hP hK
  obtain ⟨rfl, hZ, hh⟩ := hP
  have hx := Bd.exec
  have hby := Bd.bytes
  have hml : c.maxLocals = 1 := hml0
  have hown : s.vm.findClass "com/example/bounded_policy/boundedpolicy/model/FileTypeLabelsPinLaw" = some m.cls := findClass_of_methodNamed Bd.named
  have hnm := (name_of_methodNamed Bd.named Bd.method).1
  have X0 : Stand p l e ({ frames := 0, cells := 0, slots := 0, locals := 0 } : Room) s m #[(.int p0)] below meth c s₁ [] 0 0 := Stand.of_body Bd
  have e0 : s₁.heap = h0 := by rw [← hh, Bd.state]; rfl
  have N0 := Fr.nil n0
  refine own_go (A' := (s₁.setTop (mkF m 0 #[.val (.int p0)] []))) (fun t k => castTop (ef_1 m p0) k) ?_
  refine own_go (A' := (s₁.setTop (mkF m 1 #[.val (.int p0)] [(.int p0)]))) (fun t k => ?_) ?_
  · show Steps p.tables e below (s₁.setTop (mkF m 0 #[.val (.int p0)] [])) _
    refine XS.iloadN X0.here hx rfl (hb hby d1_0) rfl ?_
    exact k
  by_cases hc1 : p0 = (0 : Int32)
  · -- hc1: yes
    refine own_go (A' := (s₁.setTop (mkF m 4 #[.val (.int p0)] []))) (fun t k => XS.ifNo X0.here hx rfl (hb hby d1_1) rfl ((if0 _ _).trans (teq hc1).2) k) ?_
    obtain ⟨T2, X2, e2, st2⟩ := getS2 X0 hx hZ hown (host := "") (Or.inl (hw _ (List.mem_of_getElem? (i := 4) rfl))) Via.refl e0 S_ANY (g := (mkF m 4 #[.val (.int p0)] [])) rfl (hb hby d1_4)
    refine own_go (A' := (T2.setTop (mkF m 7 #[.val (.int p0)] [(.ref w_ANY)]))) (fun t k => ?_) ?_
    · show Steps p.tables e below (s₁.setTop (mkF m 4 #[.val (.int p0)] [])) _
      refine st2 _ ?_
      exact k
    obtain ⟨fs, hr, hrun, hended, hW, hsame⟩ := X2.leave (v := some (.ref w_ANY)) (fun h => by rw [Bd.returns] at h; cases h)
    refine ⟨_, _, ?_, hrun, hended, _, _, rfl, ?_, ⟨_, rfl⟩, hW, hsame.mono (by decide) (by decide)⟩
    · show Steps p.tables e below (T2.setTop (mkF m 7 #[.val (.int p0)] [(.ref w_ANY)])) _
      exact own_retV X2 hx Bd.returns rfl rfl (hb hby d1_7) hr
    · show Q1 Z p0 w_ANY w_CHARACTER_DEVICE w_SYMBOLIC_LINK w_REGULAR_FILE w_BLOCK_DEVICE w_SOCKET w_PIPE w_DIRECTORY h0 n0 _ _ _
      exact ⟨(by rw [pk, if_pos hc1]), N0, e2⟩
  · -- hc1: no
    refine own_go (A' := (s₁.setTop (mkF m 8 #[.val (.int p0)] []))) (fun t k => XS.ifYes X0.here hx rfl (pc0 := 1) (pc' := 8) rfl (hb hby d1_1) rfl ((if0 _ _).trans (feq hc1).2) (by decide) (by decide) k) ?_
    refine own_go (A' := (s₁.setTop (mkF m 10 #[.val (.int p0)] [(.int (1 : Int32)), (.int p0)]))) (fun t k => ?_) ?_
    · show Steps p.tables e below (s₁.setTop (mkF m 8 #[.val (.int p0)] [])) _
      refine XS.iloadN X0.here hx rfl (hb hby d1_8) rfl ?_
      show Steps p.tables e below (s₁.setTop (mkF m 9 #[.val (.int p0)] [(.int p0)])) _
      refine XS.iconst X0.here hx rfl (hb hby d1_9) ?_
      exact k
    by_cases hc3 : p0 = (1 : Int32)
    · -- hc3: yes
      refine own_go (A' := (s₁.setTop (mkF m 13 #[.val (.int p0)] []))) (fun t k => XS.icmpNo X0.here hx rfl (hb hby d1_10) rfl (teq hc3).2 k) ?_
      obtain ⟨T4, X4, e4, st4⟩ := getS2 X0 hx hZ hown (host := "") (Or.inl (hw _ (List.mem_of_getElem? (i := 17) rfl))) Via.refl e0 S_REGULAR_FILE (g := (mkF m 13 #[.val (.int p0)] [])) rfl (hb hby d1_13)
      refine own_go (A' := (T4.setTop (mkF m 16 #[.val (.int p0)] [(.ref w_REGULAR_FILE)]))) (fun t k => ?_) ?_
      · show Steps p.tables e below (s₁.setTop (mkF m 13 #[.val (.int p0)] [])) _
        refine st4 _ ?_
        exact k
      obtain ⟨fs, hr, hrun, hended, hW, hsame⟩ := X4.leave (v := some (.ref w_REGULAR_FILE)) (fun h => by rw [Bd.returns] at h; cases h)
      refine ⟨_, _, ?_, hrun, hended, _, _, rfl, ?_, ⟨_, rfl⟩, hW, hsame.mono (by decide) (by decide)⟩
      · show Steps p.tables e below (T4.setTop (mkF m 16 #[.val (.int p0)] [(.ref w_REGULAR_FILE)])) _
        exact own_retV X4 hx Bd.returns rfl rfl (hb hby d1_16) hr
      · show Q1 Z p0 w_ANY w_CHARACTER_DEVICE w_SYMBOLIC_LINK w_REGULAR_FILE w_BLOCK_DEVICE w_SOCKET w_PIPE w_DIRECTORY h0 n0 _ _ _
        exact ⟨(by rw [pk, if_neg hc1, if_pos hc3]), N0, e4⟩
    · -- hc3: no
      refine own_go (A' := (s₁.setTop (mkF m 17 #[.val (.int p0)] []))) (fun t k => XS.icmpYes X0.here hx rfl (pc0 := 10) (pc' := 17) rfl (hb hby d1_10) rfl (feq hc3).2 (by decide) (by decide) k) ?_
      refine own_go (A' := (s₁.setTop (mkF m 19 #[.val (.int p0)] [(.int (2 : Int32)), (.int p0)]))) (fun t k => ?_) ?_
      · show Steps p.tables e below (s₁.setTop (mkF m 17 #[.val (.int p0)] [])) _
        refine XS.iloadN X0.here hx rfl (hb hby d1_17) rfl ?_
        show Steps p.tables e below (s₁.setTop (mkF m 18 #[.val (.int p0)] [(.int p0)])) _
        refine XS.iconst X0.here hx rfl (hb hby d1_18) ?_
        exact k
      by_cases hc5 : p0 = (2 : Int32)
      · -- hc5: yes
        refine own_go (A' := (s₁.setTop (mkF m 22 #[.val (.int p0)] []))) (fun t k => XS.icmpNo X0.here hx rfl (hb hby d1_19) rfl (teq hc5).2 k) ?_
        obtain ⟨T6, X6, e6, st6⟩ := getS2 X0 hx hZ hown (host := "") (Or.inl (hw _ (List.mem_of_getElem? (i := 25) rfl))) Via.refl e0 S_DIRECTORY (g := (mkF m 22 #[.val (.int p0)] [])) rfl (hb hby d1_22)
        refine own_go (A' := (T6.setTop (mkF m 25 #[.val (.int p0)] [(.ref w_DIRECTORY)]))) (fun t k => ?_) ?_
        · show Steps p.tables e below (s₁.setTop (mkF m 22 #[.val (.int p0)] [])) _
          refine st6 _ ?_
          exact k
        obtain ⟨fs, hr, hrun, hended, hW, hsame⟩ := X6.leave (v := some (.ref w_DIRECTORY)) (fun h => by rw [Bd.returns] at h; cases h)
        refine ⟨_, _, ?_, hrun, hended, _, _, rfl, ?_, ⟨_, rfl⟩, hW, hsame.mono (by decide) (by decide)⟩
        · show Steps p.tables e below (T6.setTop (mkF m 25 #[.val (.int p0)] [(.ref w_DIRECTORY)])) _
          exact own_retV X6 hx Bd.returns rfl rfl (hb hby d1_25) hr
        · show Q1 Z p0 w_ANY w_CHARACTER_DEVICE w_SYMBOLIC_LINK w_REGULAR_FILE w_BLOCK_DEVICE w_SOCKET w_PIPE w_DIRECTORY h0 n0 _ _ _
          exact ⟨(by rw [pk, if_neg hc1, if_neg hc3, if_pos hc5]), N0, e6⟩
      · -- hc5: no
        refine own_go (A' := (s₁.setTop (mkF m 26 #[.val (.int p0)] []))) (fun t k => XS.icmpYes X0.here hx rfl (pc0 := 19) (pc' := 26) rfl (hb hby d1_19) rfl (feq hc5).2 (by decide) (by decide) k) ?_
        refine own_go (A' := (s₁.setTop (mkF m 28 #[.val (.int p0)] [(.int (3 : Int32)), (.int p0)]))) (fun t k => ?_) ?_
        · show Steps p.tables e below (s₁.setTop (mkF m 26 #[.val (.int p0)] [])) _
          refine XS.iloadN X0.here hx rfl (hb hby d1_26) rfl ?_
          show Steps p.tables e below (s₁.setTop (mkF m 27 #[.val (.int p0)] [(.int p0)])) _
          refine XS.iconst X0.here hx rfl (hb hby d1_27) ?_
          exact k
        by_cases hc7 : p0 = (3 : Int32)
        · -- hc7: yes
          refine own_go (A' := (s₁.setTop (mkF m 31 #[.val (.int p0)] []))) (fun t k => XS.icmpNo X0.here hx rfl (hb hby d1_28) rfl (teq hc7).2 k) ?_
          obtain ⟨T8, X8, e8, st8⟩ := getS2 X0 hx hZ hown (host := "") (Or.inl (hw _ (List.mem_of_getElem? (i := 7) rfl))) Via.refl e0 S_CHARACTER_DEVICE (g := (mkF m 31 #[.val (.int p0)] [])) rfl (hb hby d1_31)
          refine own_go (A' := (T8.setTop (mkF m 34 #[.val (.int p0)] [(.ref w_CHARACTER_DEVICE)]))) (fun t k => ?_) ?_
          · show Steps p.tables e below (s₁.setTop (mkF m 31 #[.val (.int p0)] [])) _
            refine st8 _ ?_
            exact k
          obtain ⟨fs, hr, hrun, hended, hW, hsame⟩ := X8.leave (v := some (.ref w_CHARACTER_DEVICE)) (fun h => by rw [Bd.returns] at h; cases h)
          refine ⟨_, _, ?_, hrun, hended, _, _, rfl, ?_, ⟨_, rfl⟩, hW, hsame.mono (by decide) (by decide)⟩
          · show Steps p.tables e below (T8.setTop (mkF m 34 #[.val (.int p0)] [(.ref w_CHARACTER_DEVICE)])) _
            exact own_retV X8 hx Bd.returns rfl rfl (hb hby d1_34) hr
          · show Q1 Z p0 w_ANY w_CHARACTER_DEVICE w_SYMBOLIC_LINK w_REGULAR_FILE w_BLOCK_DEVICE w_SOCKET w_PIPE w_DIRECTORY h0 n0 _ _ _
            exact ⟨(by rw [pk, if_neg hc1, if_neg hc3, if_neg hc5, if_pos hc7]), N0, e8⟩
        · -- hc7: no
          refine own_go (A' := (s₁.setTop (mkF m 35 #[.val (.int p0)] []))) (fun t k => XS.icmpYes X0.here hx rfl (pc0 := 28) (pc' := 35) rfl (hb hby d1_28) rfl (feq hc7).2 (by decide) (by decide) k) ?_
          refine own_go (A' := (s₁.setTop (mkF m 37 #[.val (.int p0)] [(.int (4 : Int32)), (.int p0)]))) (fun t k => ?_) ?_
          · show Steps p.tables e below (s₁.setTop (mkF m 35 #[.val (.int p0)] [])) _
            refine XS.iloadN X0.here hx rfl (hb hby d1_35) rfl ?_
            show Steps p.tables e below (s₁.setTop (mkF m 36 #[.val (.int p0)] [(.int p0)])) _
            refine XS.iconst X0.here hx rfl (hb hby d1_36) ?_
            exact k
          by_cases hc9 : p0 = (4 : Int32)
          · -- hc9: yes
            refine own_go (A' := (s₁.setTop (mkF m 40 #[.val (.int p0)] []))) (fun t k => XS.icmpNo X0.here hx rfl (hb hby d1_37) rfl (teq hc9).2 k) ?_
            obtain ⟨T10, X10, e10, st10⟩ := getS2 X0 hx hZ hown (host := "") (Or.inl (hw _ (List.mem_of_getElem? (i := 19) rfl))) Via.refl e0 S_BLOCK_DEVICE (g := (mkF m 40 #[.val (.int p0)] [])) rfl (hb hby d1_40)
            refine own_go (A' := (T10.setTop (mkF m 43 #[.val (.int p0)] [(.ref w_BLOCK_DEVICE)]))) (fun t k => ?_) ?_
            · show Steps p.tables e below (s₁.setTop (mkF m 40 #[.val (.int p0)] [])) _
              refine st10 _ ?_
              exact k
            obtain ⟨fs, hr, hrun, hended, hW, hsame⟩ := X10.leave (v := some (.ref w_BLOCK_DEVICE)) (fun h => by rw [Bd.returns] at h; cases h)
            refine ⟨_, _, ?_, hrun, hended, _, _, rfl, ?_, ⟨_, rfl⟩, hW, hsame.mono (by decide) (by decide)⟩
            · show Steps p.tables e below (T10.setTop (mkF m 43 #[.val (.int p0)] [(.ref w_BLOCK_DEVICE)])) _
              exact own_retV X10 hx Bd.returns rfl rfl (hb hby d1_43) hr
            · show Q1 Z p0 w_ANY w_CHARACTER_DEVICE w_SYMBOLIC_LINK w_REGULAR_FILE w_BLOCK_DEVICE w_SOCKET w_PIPE w_DIRECTORY h0 n0 _ _ _
              exact ⟨(by rw [pk, if_neg hc1, if_neg hc3, if_neg hc5, if_neg hc7, if_pos hc9]), N0, e10⟩
          · -- hc9: no
            refine own_go (A' := (s₁.setTop (mkF m 44 #[.val (.int p0)] []))) (fun t k => XS.icmpYes X0.here hx rfl (pc0 := 37) (pc' := 44) rfl (hb hby d1_37) rfl (feq hc9).2 (by decide) (by decide) k) ?_
            refine own_go (A' := (s₁.setTop (mkF m 46 #[.val (.int p0)] [(.int (5 : Int32)), (.int p0)]))) (fun t k => ?_) ?_
            · show Steps p.tables e below (s₁.setTop (mkF m 44 #[.val (.int p0)] [])) _
              refine XS.iloadN X0.here hx rfl (hb hby d1_44) rfl ?_
              show Steps p.tables e below (s₁.setTop (mkF m 45 #[.val (.int p0)] [(.int p0)])) _
              refine XS.iconst X0.here hx rfl (hb hby d1_45) ?_
              exact k
            by_cases hc11 : p0 = (5 : Int32)
            · -- hc11: yes
              refine own_go (A' := (s₁.setTop (mkF m 49 #[.val (.int p0)] []))) (fun t k => XS.icmpNo X0.here hx rfl (hb hby d1_46) rfl (teq hc11).2 k) ?_
              obtain ⟨T12, X12, e12, st12⟩ := getS2 X0 hx hZ hown (host := "") (Or.inl (hw _ (List.mem_of_getElem? (i := 21) rfl))) Via.refl e0 S_SOCKET (g := (mkF m 49 #[.val (.int p0)] [])) rfl (hb hby d1_49)
              refine own_go (A' := (T12.setTop (mkF m 52 #[.val (.int p0)] [(.ref w_SOCKET)]))) (fun t k => ?_) ?_
              · show Steps p.tables e below (s₁.setTop (mkF m 49 #[.val (.int p0)] [])) _
                refine st12 _ ?_
                exact k
              obtain ⟨fs, hr, hrun, hended, hW, hsame⟩ := X12.leave (v := some (.ref w_SOCKET)) (fun h => by rw [Bd.returns] at h; cases h)
              refine ⟨_, _, ?_, hrun, hended, _, _, rfl, ?_, ⟨_, rfl⟩, hW, hsame.mono (by decide) (by decide)⟩
              · show Steps p.tables e below (T12.setTop (mkF m 52 #[.val (.int p0)] [(.ref w_SOCKET)])) _
                exact own_retV X12 hx Bd.returns rfl rfl (hb hby d1_52) hr
              · show Q1 Z p0 w_ANY w_CHARACTER_DEVICE w_SYMBOLIC_LINK w_REGULAR_FILE w_BLOCK_DEVICE w_SOCKET w_PIPE w_DIRECTORY h0 n0 _ _ _
                exact ⟨(by rw [pk, if_neg hc1, if_neg hc3, if_neg hc5, if_neg hc7, if_neg hc9, if_pos hc11]), N0, e12⟩
            · -- hc11: no
              refine own_go (A' := (s₁.setTop (mkF m 53 #[.val (.int p0)] []))) (fun t k => XS.icmpYes X0.here hx rfl (pc0 := 46) (pc' := 53) rfl (hb hby d1_46) rfl (feq hc11).2 (by decide) (by decide) k) ?_
              refine own_go (A' := (s₁.setTop (mkF m 56 #[.val (.int p0)] [(.int (6 : Int32)), (.int p0)]))) (fun t k => ?_) ?_
              · show Steps p.tables e below (s₁.setTop (mkF m 53 #[.val (.int p0)] [])) _
                refine XS.iloadN X0.here hx rfl (hb hby d1_53) rfl ?_
                show Steps p.tables e below (s₁.setTop (mkF m 54 #[.val (.int p0)] [(.int p0)])) _
                refine XS.bipush X0.here hx rfl (hb hby d1_54) ?_
                exact k
              by_cases hc13 : p0 = (6 : Int32)
              · -- hc13: yes
                refine own_go (A' := (s₁.setTop (mkF m 59 #[.val (.int p0)] []))) (fun t k => XS.icmpNo X0.here hx rfl (hb hby d1_56) rfl (teq hc13).2 k) ?_
                obtain ⟨T14, X14, e14, st14⟩ := getS2 X0 hx hZ hown (host := "") (Or.inl (hw _ (List.mem_of_getElem? (i := 15) rfl))) Via.refl e0 S_SYMBOLIC_LINK (g := (mkF m 59 #[.val (.int p0)] [])) rfl (hb hby d1_59)
                refine own_go (A' := (T14.setTop (mkF m 62 #[.val (.int p0)] [(.ref w_SYMBOLIC_LINK)]))) (fun t k => ?_) ?_
                · show Steps p.tables e below (s₁.setTop (mkF m 59 #[.val (.int p0)] [])) _
                  refine st14 _ ?_
                  exact k
                obtain ⟨fs, hr, hrun, hended, hW, hsame⟩ := X14.leave (v := some (.ref w_SYMBOLIC_LINK)) (fun h => by rw [Bd.returns] at h; cases h)
                refine ⟨_, _, ?_, hrun, hended, _, _, rfl, ?_, ⟨_, rfl⟩, hW, hsame.mono (by decide) (by decide)⟩
                · show Steps p.tables e below (T14.setTop (mkF m 62 #[.val (.int p0)] [(.ref w_SYMBOLIC_LINK)])) _
                  exact own_retV X14 hx Bd.returns rfl rfl (hb hby d1_62) hr
                · show Q1 Z p0 w_ANY w_CHARACTER_DEVICE w_SYMBOLIC_LINK w_REGULAR_FILE w_BLOCK_DEVICE w_SOCKET w_PIPE w_DIRECTORY h0 n0 _ _ _
                  exact ⟨(by rw [pk, if_neg hc1, if_neg hc3, if_neg hc5, if_neg hc7, if_neg hc9, if_neg hc11, if_pos hc13]), N0, e14⟩
              · -- hc13: no
                refine own_go (A' := (s₁.setTop (mkF m 63 #[.val (.int p0)] []))) (fun t k => XS.icmpYes X0.here hx rfl (pc0 := 56) (pc' := 63) rfl (hb hby d1_56) rfl (feq hc13).2 (by decide) (by decide) k) ?_
                obtain ⟨T15, X15, e15, st15⟩ := getS2 X0 hx hZ hown (host := "") (Or.inl (hw _ (List.mem_of_getElem? (i := 23) rfl))) Via.refl e0 S_PIPE (g := (mkF m 63 #[.val (.int p0)] [])) rfl (hb hby d1_63)
                refine own_go (A' := (T15.setTop (mkF m 66 #[.val (.int p0)] [(.ref w_PIPE)]))) (fun t k => ?_) ?_
                · show Steps p.tables e below (s₁.setTop (mkF m 63 #[.val (.int p0)] [])) _
                  refine st15 _ ?_
                  exact k
                obtain ⟨fs, hr, hrun, hended, hW, hsame⟩ := X15.leave (v := some (.ref w_PIPE)) (fun h => by rw [Bd.returns] at h; cases h)
                refine ⟨_, _, ?_, hrun, hended, _, _, rfl, ?_, ⟨_, rfl⟩, hW, hsame.mono (by decide) (by decide)⟩
                · show Steps p.tables e below (T15.setTop (mkF m 66 #[.val (.int p0)] [(.ref w_PIPE)])) _
                  exact own_retV X15 hx Bd.returns rfl rfl (hb hby d1_66) hr
                · show Q1 Z p0 w_ANY w_CHARACTER_DEVICE w_SYMBOLIC_LINK w_REGULAR_FILE w_BLOCK_DEVICE w_SOCKET w_PIPE w_DIRECTORY h0 n0 _ _ _
                  exact ⟨(by rw [pk, if_neg hc1, if_neg hc3, if_neg hc5, if_neg hc7, if_neg hc9, if_neg hc11, if_neg hc13]), N0, e15⟩
theorem d2_0 : decode prog_31_method_5_code 0 = .ok (.aload_n 0, 1) := by decide +kernel
theorem d2_1 : decode prog_31_method_5_code 1 = .ok (.getstatic 3, 3) := by decide +kernel
theorem d2_4 : decode prog_31_method_5_code 4 = .ok (.if_acmp .eq 15, 3) := by decide +kernel
theorem d2_7 : decode prog_31_method_5_code 7 = .ok (.aload_n 1, 1) := by decide +kernel
theorem d2_8 : decode prog_31_method_5_code 8 = .ok (.getstatic 3, 3) := by decide +kernel
theorem d2_11 : decode prog_31_method_5_code 11 = .ok (.if_acmp .eq 8, 3) := by decide +kernel
theorem d2_14 : decode prog_31_method_5_code 14 = .ok (.aload_n 0, 1) := by decide +kernel
theorem d2_15 : decode prog_31_method_5_code 15 = .ok (.aload_n 1, 1) := by decide +kernel
theorem d2_16 : decode prog_31_method_5_code 16 = .ok (.if_acmp .ne 7, 3) := by decide +kernel
theorem d2_19 : decode prog_31_method_5_code 19 = .ok (.iconst 1, 1) := by decide +kernel
theorem d2_20 : decode prog_31_method_5_code 20 = .ok (.goto 4, 3) := by decide +kernel
theorem d2_23 : decode prog_31_method_5_code 23 = .ok (.iconst 0, 1) := by decide +kernel
theorem d2_24 : decode prog_31_method_5_code 24 = .ok (.ireturn, 1) := by decide +kernel
theorem pn_2 : plainName "com/example/bounded_policy/boundedpolicy/model/FileType" = true := by first | (simp [plainName, overriddenIn]; done) | decide +kernel
theorem ef_2 (m : MethodId) (r0 : Addr) (r1 : Addr) : entryFrame m #[(.ref r0), (.ref r1)] 2 = mkF m 0 #[.val (.ref r0), .val (.ref r1)] [] := by first | (simp [entryFrame, mkF, argsToLocals, Value.category]; done) | rfl
def Q2 (Z : State) (r0 : Addr) (r1 : Addr) (w_ANY : Addr) (w_CHARACTER_DEVICE : Addr) (w_SYMBOLIC_LINK : Addr) (w_REGULAR_FILE : Addr) (w_BLOCK_DEVICE : Addr) (w_SOCKET : Addr) (w_PIPE : Addr) (w_DIRECTORY : Addr) (h0 : Heap) (n0 : Nat) (v : Option Value) (h : Heap) (L : List Loc) : Prop := v = some (.int (lab w_ANY r0 r1)) ∧ Fr n0 L ∧ h = h0
set_option maxRecDepth 65536 in
set_option maxHeartbeats 40000000 in
theorem rm2 (l : Launch) (Z : State) (a0 : Array Value) (hw : ∀ d ∈ tables_1, d.before a0 Z = true) (ws : List Jvm.Cond) (r0 : Addr) (r1 : Addr) (w_ANY : Addr) (w_CHARACTER_DEVICE : Addr) (w_SYMBOLIC_LINK : Addr) (w_REGULAR_FILE : Addr) (w_BLOCK_DEVICE : Addr) (w_SOCKET : Addr) (w_PIPE : Addr) (w_DIRECTORY : Addr) (h0 : Heap) (n0 : Nat) (Z0 : n0 ≤ h0.size) (S_ANY : Sta Z h0 "com/example/bounded_policy/boundedpolicy/model/FileType" "ANY" "Lcom/example/bounded_policy/boundedpolicy/model/FileType;" (.ref w_ANY)) (S_CHARACTER_DEVICE : Sta Z h0 "com/example/bounded_policy/boundedpolicy/model/FileType" "CHARACTER_DEVICE" "Lcom/example/bounded_policy/boundedpolicy/model/FileType;" (.ref w_CHARACTER_DEVICE)) (S_SYMBOLIC_LINK : Sta Z h0 "com/example/bounded_policy/boundedpolicy/model/FileType" "SYMBOLIC_LINK" "Lcom/example/bounded_policy/boundedpolicy/model/FileType;" (.ref w_SYMBOLIC_LINK)) (S_REGULAR_FILE : Sta Z h0 "com/example/bounded_policy/boundedpolicy/model/FileType" "REGULAR_FILE" "Lcom/example/bounded_policy/boundedpolicy/model/FileType;" (.ref w_REGULAR_FILE)) (S_BLOCK_DEVICE : Sta Z h0 "com/example/bounded_policy/boundedpolicy/model/FileType" "BLOCK_DEVICE" "Lcom/example/bounded_policy/boundedpolicy/model/FileType;" (.ref w_BLOCK_DEVICE)) (S_SOCKET : Sta Z h0 "com/example/bounded_policy/boundedpolicy/model/FileType" "SOCKET" "Lcom/example/bounded_policy/boundedpolicy/model/FileType;" (.ref w_SOCKET)) (S_PIPE : Sta Z h0 "com/example/bounded_policy/boundedpolicy/model/FileType" "PIPE" "Lcom/example/bounded_policy/boundedpolicy/model/FileType;" (.ref w_PIPE)) (S_DIRECTORY : Sta Z h0 "com/example/bounded_policy/boundedpolicy/model/FileType" "DIRECTORY" "Lcom/example/bounded_policy/boundedpolicy/model/FileType;" (.ref w_DIRECTORY)) (E_ANY : Exa Z h0 w_ANY "com/example/bounded_policy/boundedpolicy/model/FileType") (E_CHARACTER_DEVICE : Exa Z h0 w_CHARACTER_DEVICE "com/example/bounded_policy/boundedpolicy/model/FileType") (E_SYMBOLIC_LINK : Exa Z h0 w_SYMBOLIC_LINK "com/example/bounded_policy/boundedpolicy/model/FileType") (E_REGULAR_FILE : Exa Z h0 w_REGULAR_FILE "com/example/bounded_policy/boundedpolicy/model/FileType") (E_BLOCK_DEVICE : Exa Z h0 w_BLOCK_DEVICE "com/example/bounded_policy/boundedpolicy/model/FileType") (E_SOCKET : Exa Z h0 w_SOCKET "com/example/bounded_policy/boundedpolicy/model/FileType") (E_PIPE : Exa Z h0 w_PIPE "com/example/bounded_policy/boundedpolicy/model/FileType") (E_DIRECTORY : Exa Z h0 w_DIRECTORY "com/example/bounded_policy/boundedpolicy/model/FileType") (O_ANY_ordinal : Fld Z h0 w_ANY "java/lang/Enum" "ordinal" "I" (.int (0 : Int32))) (O_CHARACTER_DEVICE_ordinal : Fld Z h0 w_CHARACTER_DEVICE "java/lang/Enum" "ordinal" "I" (.int (3 : Int32))) (O_SYMBOLIC_LINK_ordinal : Fld Z h0 w_SYMBOLIC_LINK "java/lang/Enum" "ordinal" "I" (.int (6 : Int32))) (O_REGULAR_FILE_ordinal : Fld Z h0 w_REGULAR_FILE "java/lang/Enum" "ordinal" "I" (.int (1 : Int32))) (O_BLOCK_DEVICE_ordinal : Fld Z h0 w_BLOCK_DEVICE "java/lang/Enum" "ordinal" "I" (.int (4 : Int32))) (O_SOCKET_ordinal : Fld Z h0 w_SOCKET "java/lang/Enum" "ordinal" "I" (.int (5 : Int32))) (O_PIPE_ordinal : Fld Z h0 w_PIPE "java/lang/Enum" "ordinal" "I" (.int (7 : Int32))) (O_DIRECTORY_ordinal : Fld Z h0 w_DIRECTORY "java/lang/Enum" "ordinal" "I" (.int (2 : Int32))) :
    MetFree l (⟨"com/example/bounded_policy/boundedpolicy/model/FileType", "labels", "(Lcom/example/bounded_policy/boundedpolicy/model/FileType;)Z"⟩ : MethodName) (head1 (Jvm.Cond.code (⟨"com/example/bounded_policy/boundedpolicy/model/FileType", "labels", "(Lcom/example/bounded_policy/boundedpolicy/model/FileType;)Z"⟩ : MethodName) prog_31_method_5_code 2 (some .boolean) :: ws) ({ frames := 0, cells := 0, slots := 0, locals := 0 } : Room)) (fun a U => a = #[(.ref r0), (.ref r1)] ∧ Z.Warmed39 U.vm ∧ U.heap = h0) (fun _ _ _ _ _ => True) (fun _ U o U' => ∃ v L, o = .returned v ∧ Q2 Z r0 r1 w_ANY w_CHARACTER_DEVICE w_SYMBOLIC_LINK w_REGULAR_FILE w_BLOCK_DEVICE w_SOCKET w_PIPE w_DIRECTORY h0 n0 v U'.heap L ∧ FrameEnd U o U' L ({ frames := 0, cells := 0, slots := 0, locals := 0 } : Room).cells ({ frames := 0, cells := 0, slots := 0, locals := 0 } : Room).slots) := by
  refine MetFree.of_bodySF (plainFor_of_name pn_2) hisR ?_
  intro p e s m args below meth c s₁ Bd hml0 hP hK
  obtain ⟨rfl, hZ, hh⟩ := hP
  have hx := Bd.exec
  have hby := Bd.bytes
  have hml : c.maxLocals = 2 := hml0
  have hown : s.vm.findClass "com/example/bounded_policy/boundedpolicy/model/FileType" = some m.cls := findClass_of_methodNamed Bd.named
  have hnm := (name_of_methodNamed Bd.named Bd.method).1
  have X0 : Stand p l e ({ frames := 0, cells := 0, slots := 0, locals := 0 } : Room) s m #[(.ref r0), (.ref r1)] below meth c s₁ [] 0 0 := Stand.of_body Bd
  have e0 : s₁.heap = h0 := by rw [← hh, Bd.state]; rfl
  have N0 := Fr.nil n0
  refine own_go (A' := (s₁.setTop (mkF m 0 #[.val (.ref r0), .val (.ref r1)] []))) (fun t k => castTop (ef_2 m r0 r1) k) ?_
  obtain ⟨T16, X16, e16, st16⟩ := getS2 X0 hx hZ hown (host := "") (Or.inl (hw _ (List.mem_of_getElem? (i := 14) rfl))) Via.refl e0 S_ANY (g := (mkF m 1 #[.val (.ref r0), .val (.ref r1)] [(.ref r0)])) rfl (hb hby d2_1)
  refine own_go (A' := (T16.setTop (mkF m 4 #[.val (.ref r0), .val (.ref r1)] [(.ref w_ANY), (.ref r0)]))) (fun t k => ?_) ?_
  · show Steps p.tables e below (s₁.setTop (mkF m 0 #[.val (.ref r0), .val (.ref r1)] [])) _
    refine XS.aloadN X0.here hx rfl (hb hby d2_0) rfl rfl ?_
    show Steps p.tables e below (s₁.setTop (mkF m 1 #[.val (.ref r0), .val (.ref r1)] [(.ref r0)])) _
    refine st16 _ ?_
    exact k
  by_cases hc17 : r0 = w_ANY
  · -- hc17: yes
    refine own_go (A' := (T16.setTop (mkF m 19 #[.val (.ref r0), .val (.ref r1)] []))) (fun t k => Jvm.RoadKit.acmp (g := (mkF m 4 #[.val (.ref r0), .val (.ref r1)] [(.ref w_ANY), (.ref r0)])) X16 hx rfl rfl rfl (pc0 := 4) (pc' := 19) (same := true) rfl (hb hby d2_4) rfl (decide_eq_true (congrArg Value.ref hc17)) (by decide) (by decide) k) ?_
    refine own_go (A' := (T16.setTop (mkF m 24 #[.val (.ref r0), .val (.ref r1)] [(.int (1 : Int32))]))) (fun t k => ?_) ?_
    · show Steps p.tables e below (T16.setTop (mkF m 19 #[.val (.ref r0), .val (.ref r1)] [])) _
      refine XS.iconst X16.here hx rfl (hb hby d2_19) ?_
      show Steps p.tables e below (T16.setTop (mkF m 20 #[.val (.ref r0), .val (.ref r1)] [(.int (1 : Int32))])) _
      refine XS.goto X16.here hx rfl (pc0 := 20) (pc' := 24) rfl (hb hby d2_20) (by decide) (by decide) ?_
      exact k
    obtain ⟨fs, hr, hrun, hended, hW, hsame⟩ := X16.leave (v := some (.int (1 : Int32))) (fun h => by rw [Bd.returns] at h; cases h)
    refine ⟨_, _, ?_, hrun, hended, _, _, rfl, ?_, ⟨_, rfl⟩, hW, hsame.mono (by decide) (by decide)⟩
    · show Steps p.tables e below (T16.setTop (mkF m 24 #[.val (.ref r0), .val (.ref r1)] [(.int (1 : Int32))])) _
      exact retN X16 hx (t := .boolean) Bd.returns (by simp) (hb hby d2_24) hr
    · show Q2 Z r0 r1 w_ANY w_CHARACTER_DEVICE w_SYMBOLIC_LINK w_REGULAR_FILE w_BLOCK_DEVICE w_SOCKET w_PIPE w_DIRECTORY h0 n0 _ _ _
      exact ⟨(by rw [lab, if_pos hc17]), N0, e16⟩
  · -- hc17: no
    refine own_go (A' := (T16.setTop (mkF m 7 #[.val (.ref r0), .val (.ref r1)] []))) (fun t k => Jvm.RoadKit.acmp (g := (mkF m 4 #[.val (.ref r0), .val (.ref r1)] [(.ref w_ANY), (.ref r0)])) X16 hx rfl rfl rfl (pc0 := 4) (pc' := 7) (same := false) rfl (hb hby d2_4) rfl (decide_eq_false fun q => hc17 (Value.ref.inj q)) (by decide) (by decide) k) ?_
    obtain ⟨T18, X18, e18, st18⟩ := getS2 X16 hx hZ hown (host := "") (Or.inl (hw _ (List.mem_of_getElem? (i := 14) rfl))) Via.refl e16 S_ANY (g := (mkF m 8 #[.val (.ref r0), .val (.ref r1)] [(.ref r1)])) rfl (hb hby d2_8)
    refine own_go (A' := (T18.setTop (mkF m 11 #[.val (.ref r0), .val (.ref r1)] [(.ref w_ANY), (.ref r1)]))) (fun t k => ?_) ?_
    · show Steps p.tables e below (T16.setTop (mkF m 7 #[.val (.ref r0), .val (.ref r1)] [])) _
      refine XS.aloadN X16.here hx rfl (hb hby d2_7) rfl rfl ?_
      show Steps p.tables e below (T16.setTop (mkF m 8 #[.val (.ref r0), .val (.ref r1)] [(.ref r1)])) _
      refine st18 _ ?_
      exact k
    by_cases hc19 : r1 = w_ANY
    · -- hc19: yes
      refine own_go (A' := (T18.setTop (mkF m 19 #[.val (.ref r0), .val (.ref r1)] []))) (fun t k => Jvm.RoadKit.acmp (g := (mkF m 11 #[.val (.ref r0), .val (.ref r1)] [(.ref w_ANY), (.ref r1)])) X18 hx rfl rfl rfl (pc0 := 11) (pc' := 19) (same := true) rfl (hb hby d2_11) rfl (decide_eq_true (congrArg Value.ref hc19)) (by decide) (by decide) k) ?_
      refine own_go (A' := (T18.setTop (mkF m 24 #[.val (.ref r0), .val (.ref r1)] [(.int (1 : Int32))]))) (fun t k => ?_) ?_
      · show Steps p.tables e below (T18.setTop (mkF m 19 #[.val (.ref r0), .val (.ref r1)] [])) _
        refine XS.iconst X18.here hx rfl (hb hby d2_19) ?_
        show Steps p.tables e below (T18.setTop (mkF m 20 #[.val (.ref r0), .val (.ref r1)] [(.int (1 : Int32))])) _
        refine XS.goto X18.here hx rfl (pc0 := 20) (pc' := 24) rfl (hb hby d2_20) (by decide) (by decide) ?_
        exact k
      obtain ⟨fs, hr, hrun, hended, hW, hsame⟩ := X18.leave (v := some (.int (1 : Int32))) (fun h => by rw [Bd.returns] at h; cases h)
      refine ⟨_, _, ?_, hrun, hended, _, _, rfl, ?_, ⟨_, rfl⟩, hW, hsame.mono (by decide) (by decide)⟩
      · show Steps p.tables e below (T18.setTop (mkF m 24 #[.val (.ref r0), .val (.ref r1)] [(.int (1 : Int32))])) _
        exact retN X18 hx (t := .boolean) Bd.returns (by simp) (hb hby d2_24) hr
      · show Q2 Z r0 r1 w_ANY w_CHARACTER_DEVICE w_SYMBOLIC_LINK w_REGULAR_FILE w_BLOCK_DEVICE w_SOCKET w_PIPE w_DIRECTORY h0 n0 _ _ _
        exact ⟨(by rw [lab, if_neg hc17, if_pos hc19]), N0, e18⟩
    · -- hc19: no
      refine own_go (A' := (T18.setTop (mkF m 14 #[.val (.ref r0), .val (.ref r1)] []))) (fun t k => Jvm.RoadKit.acmp (g := (mkF m 11 #[.val (.ref r0), .val (.ref r1)] [(.ref w_ANY), (.ref r1)])) X18 hx rfl rfl rfl (pc0 := 11) (pc' := 14) (same := false) rfl (hb hby d2_11) rfl (decide_eq_false fun q => hc19 (Value.ref.inj q)) (by decide) (by decide) k) ?_
      refine own_go (A' := (T18.setTop (mkF m 16 #[.val (.ref r0), .val (.ref r1)] [(.ref r1), (.ref r0)]))) (fun t k => ?_) ?_
      · show Steps p.tables e below (T18.setTop (mkF m 14 #[.val (.ref r0), .val (.ref r1)] [])) _
        refine XS.aloadN X18.here hx rfl (hb hby d2_14) rfl rfl ?_
        show Steps p.tables e below (T18.setTop (mkF m 15 #[.val (.ref r0), .val (.ref r1)] [(.ref r0)])) _
        refine XS.aloadN X18.here hx rfl (hb hby d2_15) rfl rfl ?_
        exact k
      by_cases hc20 : r0 = r1
      · -- hc20: yes
        refine own_go (A' := (T18.setTop (mkF m 19 #[.val (.ref r0), .val (.ref r1)] []))) (fun t k => Jvm.RoadKit.acmp (g := (mkF m 16 #[.val (.ref r0), .val (.ref r1)] [(.ref r1), (.ref r0)])) X18 hx rfl rfl rfl (pc0 := 16) (pc' := 19) (same := true) rfl (hb hby d2_16) rfl (decide_eq_true (congrArg Value.ref hc20)) (by decide) (by decide) k) ?_
        refine own_go (A' := (T18.setTop (mkF m 24 #[.val (.ref r0), .val (.ref r1)] [(.int (1 : Int32))]))) (fun t k => ?_) ?_
        · show Steps p.tables e below (T18.setTop (mkF m 19 #[.val (.ref r0), .val (.ref r1)] [])) _
          refine XS.iconst X18.here hx rfl (hb hby d2_19) ?_
          show Steps p.tables e below (T18.setTop (mkF m 20 #[.val (.ref r0), .val (.ref r1)] [(.int (1 : Int32))])) _
          refine XS.goto X18.here hx rfl (pc0 := 20) (pc' := 24) rfl (hb hby d2_20) (by decide) (by decide) ?_
          exact k
        obtain ⟨fs, hr, hrun, hended, hW, hsame⟩ := X18.leave (v := some (.int (1 : Int32))) (fun h => by rw [Bd.returns] at h; cases h)
        refine ⟨_, _, ?_, hrun, hended, _, _, rfl, ?_, ⟨_, rfl⟩, hW, hsame.mono (by decide) (by decide)⟩
        · show Steps p.tables e below (T18.setTop (mkF m 24 #[.val (.ref r0), .val (.ref r1)] [(.int (1 : Int32))])) _
          exact retN X18 hx (t := .boolean) Bd.returns (by simp) (hb hby d2_24) hr
        · show Q2 Z r0 r1 w_ANY w_CHARACTER_DEVICE w_SYMBOLIC_LINK w_REGULAR_FILE w_BLOCK_DEVICE w_SOCKET w_PIPE w_DIRECTORY h0 n0 _ _ _
          exact ⟨(by rw [lab, if_neg hc17, if_neg hc19, if_pos hc20]), N0, e18⟩
      · -- hc20: no
        refine own_go (A' := (T18.setTop (mkF m 23 #[.val (.ref r0), .val (.ref r1)] []))) (fun t k => Jvm.RoadKit.acmp (g := (mkF m 16 #[.val (.ref r0), .val (.ref r1)] [(.ref r1), (.ref r0)])) X18 hx rfl rfl rfl (pc0 := 16) (pc' := 23) (same := false) rfl (hb hby d2_16) rfl (decide_eq_false fun q => hc20 (Value.ref.inj q)) (by decide) (by decide) k) ?_
        refine own_go (A' := (T18.setTop (mkF m 24 #[.val (.ref r0), .val (.ref r1)] [(.int (0 : Int32))]))) (fun t k => ?_) ?_
        · show Steps p.tables e below (T18.setTop (mkF m 23 #[.val (.ref r0), .val (.ref r1)] [])) _
          refine XS.iconst X18.here hx rfl (hb hby d2_23) ?_
          exact k
        obtain ⟨fs, hr, hrun, hended, hW, hsame⟩ := X18.leave (v := some (.int (0 : Int32))) (fun h => by rw [Bd.returns] at h; cases h)
        refine ⟨_, _, ?_, hrun, hended, _, _, rfl, ?_, ⟨_, rfl⟩, hW, hsame.mono (by decide) (by decide)⟩
        · show Steps p.tables e below (T18.setTop (mkF m 24 #[.val (.ref r0), .val (.ref r1)] [(.int (0 : Int32))])) _
          exact retN X18 hx (t := .boolean) Bd.returns (by simp) (hb hby d2_24) hr
        · show Q2 Z r0 r1 w_ANY w_CHARACTER_DEVICE w_SYMBOLIC_LINK w_REGULAR_FILE w_BLOCK_DEVICE w_SOCKET w_PIPE w_DIRECTORY h0 n0 _ _ _
          exact ⟨(by rw [lab, if_neg hc17, if_neg hc19, if_neg hc20]), N0, e18⟩
theorem pd_0 : parseMethodDescriptor "(I)Lcom/example/bounded_policy/boundedpolicy/model/FileType;" = some ⟨[.int], some (.object "com/example/bounded_policy/boundedpolicy/model/FileType")⟩ := by decide +kernel
theorem pd_1 : parseMethodDescriptor "(Lcom/example/bounded_policy/boundedpolicy/model/FileType;)Z" = some ⟨[(.object "com/example/bounded_policy/boundedpolicy/model/FileType")], some .boolean⟩ := by decide +kernel
theorem pn_0 : plainName "com/example/bounded_policy/boundedpolicy/model/FileTypeLabelsPinLaw" = true := by first | (simp [plainName, overriddenIn]; done) | decide +kernel
theorem ef_0 (m : MethodId) (p0 : Int32) (p1 : Int32) : entryFrame m #[(.int p0), (.int p1)] maxLocals = mkF m 0 #[.val (.int p0), .val (.int p1), .unset, .unset, .unset, .unset, .unset] [] := by first | (simp [entryFrame, mkF, argsToLocals, Value.category, maxLocals]; done) | rfl
def Q0 (Z : State) (p0 : Int32) (p1 : Int32) (w_ANY : Addr) (w_CHARACTER_DEVICE : Addr) (w_SYMBOLIC_LINK : Addr) (w_REGULAR_FILE : Addr) (w_BLOCK_DEVICE : Addr) (w_SOCKET : Addr) (w_PIPE : Addr) (w_DIRECTORY : Addr) (h0 : Heap) (n0 : Nat) (v : Option Value) (h : Heap) (L : List Loc) : Prop := v = some (.int (1 : Int32)) ∧ Fr n0 L
set_option maxRecDepth 65536 in
set_option maxHeartbeats 40000000 in
theorem rm0 (l : Launch) (Z : State) (a0 : Array Value) (hw : ∀ d ∈ tables_1, d.before a0 Z = true) (ws : List Jvm.Cond) (p0 : Int32) (p1 : Int32) (w_ANY : Addr) (w_CHARACTER_DEVICE : Addr) (w_SYMBOLIC_LINK : Addr) (w_REGULAR_FILE : Addr) (w_BLOCK_DEVICE : Addr) (w_SOCKET : Addr) (w_PIPE : Addr) (w_DIRECTORY : Addr) (h0 : Heap) (n0 : Nat) (Z0 : n0 ≤ h0.size) (S_ANY : Sta Z h0 "com/example/bounded_policy/boundedpolicy/model/FileType" "ANY" "Lcom/example/bounded_policy/boundedpolicy/model/FileType;" (.ref w_ANY)) (S_CHARACTER_DEVICE : Sta Z h0 "com/example/bounded_policy/boundedpolicy/model/FileType" "CHARACTER_DEVICE" "Lcom/example/bounded_policy/boundedpolicy/model/FileType;" (.ref w_CHARACTER_DEVICE)) (S_SYMBOLIC_LINK : Sta Z h0 "com/example/bounded_policy/boundedpolicy/model/FileType" "SYMBOLIC_LINK" "Lcom/example/bounded_policy/boundedpolicy/model/FileType;" (.ref w_SYMBOLIC_LINK)) (S_REGULAR_FILE : Sta Z h0 "com/example/bounded_policy/boundedpolicy/model/FileType" "REGULAR_FILE" "Lcom/example/bounded_policy/boundedpolicy/model/FileType;" (.ref w_REGULAR_FILE)) (S_BLOCK_DEVICE : Sta Z h0 "com/example/bounded_policy/boundedpolicy/model/FileType" "BLOCK_DEVICE" "Lcom/example/bounded_policy/boundedpolicy/model/FileType;" (.ref w_BLOCK_DEVICE)) (S_SOCKET : Sta Z h0 "com/example/bounded_policy/boundedpolicy/model/FileType" "SOCKET" "Lcom/example/bounded_policy/boundedpolicy/model/FileType;" (.ref w_SOCKET)) (S_PIPE : Sta Z h0 "com/example/bounded_policy/boundedpolicy/model/FileType" "PIPE" "Lcom/example/bounded_policy/boundedpolicy/model/FileType;" (.ref w_PIPE)) (S_DIRECTORY : Sta Z h0 "com/example/bounded_policy/boundedpolicy/model/FileType" "DIRECTORY" "Lcom/example/bounded_policy/boundedpolicy/model/FileType;" (.ref w_DIRECTORY)) (E_ANY : Exa Z h0 w_ANY "com/example/bounded_policy/boundedpolicy/model/FileType") (E_CHARACTER_DEVICE : Exa Z h0 w_CHARACTER_DEVICE "com/example/bounded_policy/boundedpolicy/model/FileType") (E_SYMBOLIC_LINK : Exa Z h0 w_SYMBOLIC_LINK "com/example/bounded_policy/boundedpolicy/model/FileType") (E_REGULAR_FILE : Exa Z h0 w_REGULAR_FILE "com/example/bounded_policy/boundedpolicy/model/FileType") (E_BLOCK_DEVICE : Exa Z h0 w_BLOCK_DEVICE "com/example/bounded_policy/boundedpolicy/model/FileType") (E_SOCKET : Exa Z h0 w_SOCKET "com/example/bounded_policy/boundedpolicy/model/FileType") (E_PIPE : Exa Z h0 w_PIPE "com/example/bounded_policy/boundedpolicy/model/FileType") (E_DIRECTORY : Exa Z h0 w_DIRECTORY "com/example/bounded_policy/boundedpolicy/model/FileType") (O_ANY_ordinal : Fld Z h0 w_ANY "java/lang/Enum" "ordinal" "I" (.int (0 : Int32))) (O_CHARACTER_DEVICE_ordinal : Fld Z h0 w_CHARACTER_DEVICE "java/lang/Enum" "ordinal" "I" (.int (3 : Int32))) (O_SYMBOLIC_LINK_ordinal : Fld Z h0 w_SYMBOLIC_LINK "java/lang/Enum" "ordinal" "I" (.int (6 : Int32))) (O_REGULAR_FILE_ordinal : Fld Z h0 w_REGULAR_FILE "java/lang/Enum" "ordinal" "I" (.int (1 : Int32))) (O_BLOCK_DEVICE_ordinal : Fld Z h0 w_BLOCK_DEVICE "java/lang/Enum" "ordinal" "I" (.int (4 : Int32))) (O_SOCKET_ordinal : Fld Z h0 w_SOCKET "java/lang/Enum" "ordinal" "I" (.int (5 : Int32))) (O_PIPE_ordinal : Fld Z h0 w_PIPE "java/lang/Enum" "ordinal" "I" (.int (7 : Int32))) (O_DIRECTORY_ordinal : Fld Z h0 w_DIRECTORY "java/lang/Enum" "ordinal" "I" (.int (2 : Int32))) :
    MetFree l x (head1 (Jvm.Cond.code x code maxLocals ret :: ws) room_1) (fun a U => a = #[(.int p0), (.int p1)] ∧ Z.Warmed39 U.vm ∧ U.heap = h0) (fun _ _ _ _ _ => True) (fun _ U o U' => ∃ v L, o = .returned v ∧ Q0 Z p0 p1 w_ANY w_CHARACTER_DEVICE w_SYMBOLIC_LINK w_REGULAR_FILE w_BLOCK_DEVICE w_SOCKET w_PIPE w_DIRECTORY h0 n0 v U'.heap L ∧ FrameEnd U o U' L room_1.cells room_1.slots) := by
  refine MetFree.of_bodySF (plainFor_of_name pn_0) hisR ?_
  intro p e s m args below meth c s₁ Bd hml0 hP hK
  obtain ⟨rfl, hZ, hh⟩ := hP
  have hx := Bd.exec
  have hby := Bd.bytes
  have hml : c.maxLocals = 7 := hml0
  have hown : s.vm.findClass "com/example/bounded_policy/boundedpolicy/model/FileTypeLabelsPinLaw" = some m.cls := findClass_of_methodNamed Bd.named
  have hnm := (name_of_methodNamed Bd.named Bd.method).1
  have X0 : Stand p l e room_1 s m #[(.int p0), (.int p1)] below meth c s₁ [] 0 0 := Stand.of_body Bd
  have e0 : s₁.heap = h0 := by rw [← hh, Bd.state]; rfl
  have N0 := Fr.nil n0
  refine own_go (A' := (s₁.setTop (mkF m 0 #[.val (.int p0), .val (.int p1), .unset, .unset, .unset, .unset, .unset] []))) (fun t k => castTop (ef_0 m p0 p1) k) ?_
  have hkey := own_key (own_fld_ne O_ANY_ordinal O_REGULAR_FILE_ordinal (by decide)) (own_fld_ne O_ANY_ordinal O_DIRECTORY_ordinal (by decide)) (own_fld_ne O_ANY_ordinal O_CHARACTER_DEVICE_ordinal (by decide)) (own_fld_ne O_ANY_ordinal O_BLOCK_DEVICE_ordinal (by decide)) (own_fld_ne O_ANY_ordinal O_SOCKET_ordinal (by decide)) (own_fld_ne O_ANY_ordinal O_SYMBOLIC_LINK_ordinal (by decide)) (own_fld_ne O_ANY_ordinal O_PIPE_ordinal (by decide)) (own_fld_ne O_REGULAR_FILE_ordinal O_ANY_ordinal (by decide)) (own_fld_ne O_REGULAR_FILE_ordinal O_DIRECTORY_ordinal (by decide)) (own_fld_ne O_REGULAR_FILE_ordinal O_CHARACTER_DEVICE_ordinal (by decide)) (own_fld_ne O_REGULAR_FILE_ordinal O_BLOCK_DEVICE_ordinal (by decide)) (own_fld_ne O_REGULAR_FILE_ordinal O_SOCKET_ordinal (by decide)) (own_fld_ne O_REGULAR_FILE_ordinal O_SYMBOLIC_LINK_ordinal (by decide)) (own_fld_ne O_REGULAR_FILE_ordinal O_PIPE_ordinal (by decide)) (own_fld_ne O_DIRECTORY_ordinal O_ANY_ordinal (by decide)) (own_fld_ne O_DIRECTORY_ordinal O_REGULAR_FILE_ordinal (by decide)) (own_fld_ne O_DIRECTORY_ordinal O_CHARACTER_DEVICE_ordinal (by decide)) (own_fld_ne O_DIRECTORY_ordinal O_BLOCK_DEVICE_ordinal (by decide)) (own_fld_ne O_DIRECTORY_ordinal O_SOCKET_ordinal (by decide)) (own_fld_ne O_DIRECTORY_ordinal O_SYMBOLIC_LINK_ordinal (by decide)) (own_fld_ne O_DIRECTORY_ordinal O_PIPE_ordinal (by decide)) (own_fld_ne O_CHARACTER_DEVICE_ordinal O_ANY_ordinal (by decide)) (own_fld_ne O_CHARACTER_DEVICE_ordinal O_REGULAR_FILE_ordinal (by decide)) (own_fld_ne O_CHARACTER_DEVICE_ordinal O_DIRECTORY_ordinal (by decide)) (own_fld_ne O_CHARACTER_DEVICE_ordinal O_BLOCK_DEVICE_ordinal (by decide)) (own_fld_ne O_CHARACTER_DEVICE_ordinal O_SOCKET_ordinal (by decide)) (own_fld_ne O_CHARACTER_DEVICE_ordinal O_SYMBOLIC_LINK_ordinal (by decide)) (own_fld_ne O_CHARACTER_DEVICE_ordinal O_PIPE_ordinal (by decide)) (own_fld_ne O_BLOCK_DEVICE_ordinal O_ANY_ordinal (by decide)) (own_fld_ne O_BLOCK_DEVICE_ordinal O_REGULAR_FILE_ordinal (by decide)) (own_fld_ne O_BLOCK_DEVICE_ordinal O_DIRECTORY_ordinal (by decide)) (own_fld_ne O_BLOCK_DEVICE_ordinal O_CHARACTER_DEVICE_ordinal (by decide)) (own_fld_ne O_BLOCK_DEVICE_ordinal O_SOCKET_ordinal (by decide)) (own_fld_ne O_BLOCK_DEVICE_ordinal O_SYMBOLIC_LINK_ordinal (by decide)) (own_fld_ne O_BLOCK_DEVICE_ordinal O_PIPE_ordinal (by decide)) (own_fld_ne O_SOCKET_ordinal O_ANY_ordinal (by decide)) (own_fld_ne O_SOCKET_ordinal O_REGULAR_FILE_ordinal (by decide)) (own_fld_ne O_SOCKET_ordinal O_DIRECTORY_ordinal (by decide)) (own_fld_ne O_SOCKET_ordinal O_CHARACTER_DEVICE_ordinal (by decide)) (own_fld_ne O_SOCKET_ordinal O_BLOCK_DEVICE_ordinal (by decide)) (own_fld_ne O_SOCKET_ordinal O_SYMBOLIC_LINK_ordinal (by decide)) (own_fld_ne O_SOCKET_ordinal O_PIPE_ordinal (by decide)) (own_fld_ne O_SYMBOLIC_LINK_ordinal O_ANY_ordinal (by decide)) (own_fld_ne O_SYMBOLIC_LINK_ordinal O_REGULAR_FILE_ordinal (by decide)) (own_fld_ne O_SYMBOLIC_LINK_ordinal O_DIRECTORY_ordinal (by decide)) (own_fld_ne O_SYMBOLIC_LINK_ordinal O_CHARACTER_DEVICE_ordinal (by decide)) (own_fld_ne O_SYMBOLIC_LINK_ordinal O_BLOCK_DEVICE_ordinal (by decide)) (own_fld_ne O_SYMBOLIC_LINK_ordinal O_SOCKET_ordinal (by decide)) (own_fld_ne O_SYMBOLIC_LINK_ordinal O_PIPE_ordinal (by decide)) (own_fld_ne O_PIPE_ordinal O_ANY_ordinal (by decide)) (own_fld_ne O_PIPE_ordinal O_REGULAR_FILE_ordinal (by decide)) (own_fld_ne O_PIPE_ordinal O_DIRECTORY_ordinal (by decide)) (own_fld_ne O_PIPE_ordinal O_CHARACTER_DEVICE_ordinal (by decide)) (own_fld_ne O_PIPE_ordinal O_BLOCK_DEVICE_ordinal (by decide)) (own_fld_ne O_PIPE_ordinal O_SOCKET_ordinal (by decide)) (own_fld_ne O_PIPE_ordinal O_SYMBOLIC_LINK_ordinal (by decide)) (own_mask p0) (own_mask p1)
  obtain ⟨_, _, ⟨T21, L21, k21, n21⟩, -, X21, ⟨Lc21, hQ21, l21, y21, z21⟩, st21⟩ := Jvm.LawKit.callS X0 hx (y := (⟨"com/example/bounded_policy/boundedpolicy/model/FileTypeLabelsPinLaw", "pick", "(I)Lcom/example/bounded_policy/boundedpolicy/model/FileType;"⟩ : MethodName)) hown (mvT hZ (hw _ (List.mem_of_getElem? (i := 0) rfl))) (mvT hZ (hw _ (List.mem_of_getElem? (i := 1) rfl))) (mvT hZ (hw _ (List.mem_of_getElem? (i := 2) rfl))) (mvT hZ (hw _ (List.mem_of_getElem? (i := 3) rfl))) (by decide) (backOf (W := 0) (rm1 l Z a0 hw [] (p0 &&& (7 : Int32)) w_ANY w_CHARACTER_DEVICE w_SYMBOLIC_LINK w_REGULAR_FILE w_BLOCK_DEVICE w_SOCKET w_PIPE w_DIRECTORY h0 n0 Z0 S_ANY S_CHARACTER_DEVICE S_SYMBOLIC_LINK S_REGULAR_FILE S_BLOCK_DEVICE S_SOCKET S_PIPE S_DIRECTORY E_ANY E_CHARACTER_DEVICE E_SYMBOLIC_LINK E_REGULAR_FILE E_BLOCK_DEVICE E_SOCKET E_PIPE E_DIRECTORY O_ANY_ordinal O_CHARACTER_DEVICE_ordinal O_SYMBOLIC_LINK_ordinal O_REGULAR_FILE_ordinal O_BLOCK_DEVICE_ordinal O_SOCKET_ordinal O_PIPE_ordinal O_DIRECTORY_ordinal) hZ (hw _ (List.mem_of_getElem? (i := 3) rfl)) (hw _ (List.mem_of_getElem? (i := 2) rfl)) (by decide) (by decide)) (g := (mkF m 11 #[.val (.int p0), .val (.int p1), .val (.int (p0 &&& (7 : Int32))), .val (.int (p1 &&& (7 : Int32))), .unset, .unset, .unset] [(.int (p0 &&& (7 : Int32)))])) rfl (by rw [hml]; rfl) (argsL := [(.int (p0 &&& (7 : Int32)))]) (rest := []) (lenOf pd_0 rfl) rfl (by show 2 * 0 + _ ≤ _; exact Nat.le_of_eq rfl) (hb hby at_11) (fun _ _ => ⟨rfl, e0, (by decide : 0 + 0 ≤ _), (by decide : 0 + 0 ≤ _)⟩)
  dsimp only [Pt.U, Pt.locs, Pt.cells, Pt.slots] at X21 l21 y21 z21 st21 hQ21
  subst l21 y21 z21
  obtain ⟨rfl, N21q, e21⟩ := hQ21
  have N21 := Fr.app N0 N21q
  obtain ⟨_, _, ⟨T22, L22, k22, n22⟩, -, X22, ⟨Lc22, hQ22, l22, y22, z22⟩, st22⟩ := Jvm.LawKit.callS X21 hx (y := (⟨"com/example/bounded_policy/boundedpolicy/model/FileTypeLabelsPinLaw", "pick", "(I)Lcom/example/bounded_policy/boundedpolicy/model/FileType;"⟩ : MethodName)) hown (mvT hZ (hw _ (List.mem_of_getElem? (i := 0) rfl))) (mvT hZ (hw _ (List.mem_of_getElem? (i := 1) rfl))) (mvT hZ (hw _ (List.mem_of_getElem? (i := 2) rfl))) (mvT hZ (hw _ (List.mem_of_getElem? (i := 3) rfl))) (by decide) (backOf (W := 0) (rm1 l Z a0 hw [] (p1 &&& (7 : Int32)) w_ANY w_CHARACTER_DEVICE w_SYMBOLIC_LINK w_REGULAR_FILE w_BLOCK_DEVICE w_SOCKET w_PIPE w_DIRECTORY h0 n0 Z0 S_ANY S_CHARACTER_DEVICE S_SYMBOLIC_LINK S_REGULAR_FILE S_BLOCK_DEVICE S_SOCKET S_PIPE S_DIRECTORY E_ANY E_CHARACTER_DEVICE E_SYMBOLIC_LINK E_REGULAR_FILE E_BLOCK_DEVICE E_SOCKET E_PIPE E_DIRECTORY O_ANY_ordinal O_CHARACTER_DEVICE_ordinal O_SYMBOLIC_LINK_ordinal O_REGULAR_FILE_ordinal O_BLOCK_DEVICE_ordinal O_SOCKET_ordinal O_PIPE_ordinal O_DIRECTORY_ordinal) hZ (hw _ (List.mem_of_getElem? (i := 3) rfl)) (hw _ (List.mem_of_getElem? (i := 2) rfl)) (by decide) (by decide)) (g := (mkF m 17 #[.val (.int p0), .val (.int p1), .val (.int (p0 &&& (7 : Int32))), .val (.int (p1 &&& (7 : Int32))), .val (.ref (pk w_ANY w_REGULAR_FILE w_DIRECTORY w_CHARACTER_DEVICE w_BLOCK_DEVICE w_SOCKET w_SYMBOLIC_LINK w_PIPE (p0 &&& (7 : Int32)))), .unset, .unset] [(.int (p1 &&& (7 : Int32)))])) rfl (by rw [hml]; rfl) (argsL := [(.int (p1 &&& (7 : Int32)))]) (rest := []) (lenOf pd_0 rfl) rfl (by show 2 * 0 + _ ≤ _; exact Nat.le_of_eq rfl) (hb hby at_17) (fun _ _ => ⟨rfl, e21, (by decide : 0 + 0 ≤ _), (by decide : 0 + 0 ≤ _)⟩)
  dsimp only [Pt.U, Pt.locs, Pt.cells, Pt.slots] at X22 l22 y22 z22 st22 hQ22
  subst l22 y22 z22
  obtain ⟨rfl, N22q, e22⟩ := hQ22
  have N22 := Fr.app N21 N22q
  refine own_go (A' := (T22.setTop (mkF m 23 #[.val (.int p0), .val (.int p1), .val (.int (p0 &&& (7 : Int32))), .val (.int (p1 &&& (7 : Int32))), .val (.ref (pk w_ANY w_REGULAR_FILE w_DIRECTORY w_CHARACTER_DEVICE w_BLOCK_DEVICE w_SOCKET w_SYMBOLIC_LINK w_PIPE (p0 &&& (7 : Int32)))), .val (.ref (pk w_ANY w_REGULAR_FILE w_DIRECTORY w_CHARACTER_DEVICE w_BLOCK_DEVICE w_SOCKET w_SYMBOLIC_LINK w_PIPE (p1 &&& (7 : Int32)))), .unset] [(.int (p0 &&& (7 : Int32)))]))) (fun t k => ?_) ?_
  · show Steps p.tables e below (s₁.setTop (mkF m 0 #[.val (.int p0), .val (.int p1), .unset, .unset, .unset, .unset, .unset] [])) _
    refine XS.iloadN X0.here hx rfl (hb hby at_0) rfl ?_
    show Steps p.tables e below (s₁.setTop (mkF m 1 #[.val (.int p0), .val (.int p1), .unset, .unset, .unset, .unset, .unset] [(.int p0)])) _
    refine XS.bipush X0.here hx rfl (hb hby at_1) ?_
    show Steps p.tables e below (s₁.setTop (mkF m 3 #[.val (.int p0), .val (.int p1), .unset, .unset, .unset, .unset, .unset] [(.int (7 : Int32)), (.int p0)])) _
    refine XS.iand X0.here hx rfl (hb hby at_3) rfl ?_
    show Steps p.tables e below (s₁.setTop (mkF m 4 #[.val (.int p0), .val (.int p1), .unset, .unset, .unset, .unset, .unset] [(.int (p0 &&& (7 : Int32)))])) _
    refine XS.istoreN X0.here hx rfl (hb hby at_4) rfl (l' := #[.val (.int p0), .val (.int p1), .val (.int (p0 &&& (7 : Int32))), .unset, .unset, .unset, .unset]) rfl ?_
    show Steps p.tables e below (s₁.setTop (mkF m 5 #[.val (.int p0), .val (.int p1), .val (.int (p0 &&& (7 : Int32))), .unset, .unset, .unset, .unset] [])) _
    refine XS.iloadN X0.here hx rfl (hb hby at_5) rfl ?_
    show Steps p.tables e below (s₁.setTop (mkF m 6 #[.val (.int p0), .val (.int p1), .val (.int (p0 &&& (7 : Int32))), .unset, .unset, .unset, .unset] [(.int p1)])) _
    refine XS.bipush X0.here hx rfl (hb hby at_6) ?_
    show Steps p.tables e below (s₁.setTop (mkF m 8 #[.val (.int p0), .val (.int p1), .val (.int (p0 &&& (7 : Int32))), .unset, .unset, .unset, .unset] [(.int (7 : Int32)), (.int p1)])) _
    refine XS.iand X0.here hx rfl (hb hby at_8) rfl ?_
    show Steps p.tables e below (s₁.setTop (mkF m 9 #[.val (.int p0), .val (.int p1), .val (.int (p0 &&& (7 : Int32))), .unset, .unset, .unset, .unset] [(.int (p1 &&& (7 : Int32)))])) _
    refine XS.istoreN X0.here hx rfl (hb hby at_9) rfl (l' := #[.val (.int p0), .val (.int p1), .val (.int (p0 &&& (7 : Int32))), .val (.int (p1 &&& (7 : Int32))), .unset, .unset, .unset]) rfl ?_
    show Steps p.tables e below (s₁.setTop (mkF m 10 #[.val (.int p0), .val (.int p1), .val (.int (p0 &&& (7 : Int32))), .val (.int (p1 &&& (7 : Int32))), .unset, .unset, .unset] [])) _
    refine XS.iloadN X0.here hx rfl (hb hby at_10) rfl ?_
    show Steps p.tables e below (s₁.setTop (mkF m 11 #[.val (.int p0), .val (.int p1), .val (.int (p0 &&& (7 : Int32))), .val (.int (p1 &&& (7 : Int32))), .unset, .unset, .unset] [(.int (p0 &&& (7 : Int32)))])) _
    refine st21 _ ?_
    show Steps p.tables e below (T21.setTop (mkF m 14 #[.val (.int p0), .val (.int p1), .val (.int (p0 &&& (7 : Int32))), .val (.int (p1 &&& (7 : Int32))), .unset, .unset, .unset] [(.ref (pk w_ANY w_REGULAR_FILE w_DIRECTORY w_CHARACTER_DEVICE w_BLOCK_DEVICE w_SOCKET w_SYMBOLIC_LINK w_PIPE (p0 &&& (7 : Int32))))])) _
    refine XS.astore X21.here hx rfl (hb hby at_14) rfl rfl (l' := #[.val (.int p0), .val (.int p1), .val (.int (p0 &&& (7 : Int32))), .val (.int (p1 &&& (7 : Int32))), .val (.ref (pk w_ANY w_REGULAR_FILE w_DIRECTORY w_CHARACTER_DEVICE w_BLOCK_DEVICE w_SOCKET w_SYMBOLIC_LINK w_PIPE (p0 &&& (7 : Int32)))), .unset, .unset]) rfl ?_
    show Steps p.tables e below (T21.setTop (mkF m 16 #[.val (.int p0), .val (.int p1), .val (.int (p0 &&& (7 : Int32))), .val (.int (p1 &&& (7 : Int32))), .val (.ref (pk w_ANY w_REGULAR_FILE w_DIRECTORY w_CHARACTER_DEVICE w_BLOCK_DEVICE w_SOCKET w_SYMBOLIC_LINK w_PIPE (p0 &&& (7 : Int32)))), .unset, .unset] [])) _
    refine XS.iloadN X21.here hx rfl (hb hby at_16) rfl ?_
    show Steps p.tables e below (T21.setTop (mkF m 17 #[.val (.int p0), .val (.int p1), .val (.int (p0 &&& (7 : Int32))), .val (.int (p1 &&& (7 : Int32))), .val (.ref (pk w_ANY w_REGULAR_FILE w_DIRECTORY w_CHARACTER_DEVICE w_BLOCK_DEVICE w_SOCKET w_SYMBOLIC_LINK w_PIPE (p0 &&& (7 : Int32)))), .unset, .unset] [(.int (p1 &&& (7 : Int32)))])) _
    refine st22 _ ?_
    show Steps p.tables e below (T22.setTop (mkF m 20 #[.val (.int p0), .val (.int p1), .val (.int (p0 &&& (7 : Int32))), .val (.int (p1 &&& (7 : Int32))), .val (.ref (pk w_ANY w_REGULAR_FILE w_DIRECTORY w_CHARACTER_DEVICE w_BLOCK_DEVICE w_SOCKET w_SYMBOLIC_LINK w_PIPE (p0 &&& (7 : Int32)))), .unset, .unset] [(.ref (pk w_ANY w_REGULAR_FILE w_DIRECTORY w_CHARACTER_DEVICE w_BLOCK_DEVICE w_SOCKET w_SYMBOLIC_LINK w_PIPE (p1 &&& (7 : Int32))))])) _
    refine XS.astore X22.here hx rfl (hb hby at_20) rfl rfl (l' := #[.val (.int p0), .val (.int p1), .val (.int (p0 &&& (7 : Int32))), .val (.int (p1 &&& (7 : Int32))), .val (.ref (pk w_ANY w_REGULAR_FILE w_DIRECTORY w_CHARACTER_DEVICE w_BLOCK_DEVICE w_SOCKET w_SYMBOLIC_LINK w_PIPE (p0 &&& (7 : Int32)))), .val (.ref (pk w_ANY w_REGULAR_FILE w_DIRECTORY w_CHARACTER_DEVICE w_BLOCK_DEVICE w_SOCKET w_SYMBOLIC_LINK w_PIPE (p1 &&& (7 : Int32)))), .unset]) rfl ?_
    show Steps p.tables e below (T22.setTop (mkF m 22 #[.val (.int p0), .val (.int p1), .val (.int (p0 &&& (7 : Int32))), .val (.int (p1 &&& (7 : Int32))), .val (.ref (pk w_ANY w_REGULAR_FILE w_DIRECTORY w_CHARACTER_DEVICE w_BLOCK_DEVICE w_SOCKET w_SYMBOLIC_LINK w_PIPE (p0 &&& (7 : Int32)))), .val (.ref (pk w_ANY w_REGULAR_FILE w_DIRECTORY w_CHARACTER_DEVICE w_BLOCK_DEVICE w_SOCKET w_SYMBOLIC_LINK w_PIPE (p1 &&& (7 : Int32)))), .unset] [])) _
    refine XS.iloadN X22.here hx rfl (hb hby at_22) rfl ?_
    exact k
  by_cases hc23 : (p0 &&& (7 : Int32)) = (0 : Int32)
  · -- hc23: yes
    refine own_go (A' := (T22.setTop (mkF m 35 #[.val (.int p0), .val (.int p1), .val (.int (p0 &&& (7 : Int32))), .val (.int (p1 &&& (7 : Int32))), .val (.ref (pk w_ANY w_REGULAR_FILE w_DIRECTORY w_CHARACTER_DEVICE w_BLOCK_DEVICE w_SOCKET w_SYMBOLIC_LINK w_PIPE (p0 &&& (7 : Int32)))), .val (.ref (pk w_ANY w_REGULAR_FILE w_DIRECTORY w_CHARACTER_DEVICE w_BLOCK_DEVICE w_SOCKET w_SYMBOLIC_LINK w_PIPE (p1 &&& (7 : Int32)))), .unset] []))) (fun t k => XS.ifYes X22.here hx rfl (pc0 := 23) (pc' := 35) rfl (hb hby at_23) rfl ((if0 _ _).trans (teq hc23).1) (by decide) (by decide) k) ?_
    obtain ⟨cq24, kq24, q24a, q24b, q24c⟩ := isOf hZ e22 (pk_exa _ E_ANY E_REGULAR_FILE E_DIRECTORY E_CHARACTER_DEVICE E_BLOCK_DEVICE E_SOCKET E_SYMBOLIC_LINK E_PIPE)
    obtain ⟨_, _, ⟨T24, L24, k24, n24⟩, -, X24, ⟨Lc24, hQ24, l24, y24, z24⟩, st24⟩ := X22.virtualBack hx (y := (⟨"com/example/bounded_policy/boundedpolicy/model/FileType", "labels", "(Lcom/example/bounded_policy/boundedpolicy/model/FileType;)Z"⟩ : MethodName)) (z := (⟨"com/example/bounded_policy/boundedpolicy/model/FileType", "labels", "(Lcom/example/bounded_policy/boundedpolicy/model/FileType;)Z"⟩ : MethodName)) hown (mvT hZ (hw _ (List.mem_of_getElem? (i := 9) rfl))) (mvT hZ (hw _ (List.mem_of_getElem? (i := 10) rfl))) (notFace_of_selects (args := #[]) (mvT hZ (hw _ (List.mem_of_getElem? (i := 12) rfl)))) (mvT hZ (hw _ (List.mem_of_getElem? (i := 12) rfl))) (mvT hZ (hw _ (List.mem_of_getElem? (i := 11) rfl))) (by decide) (backOf (W := 0) (rm2 l Z a0 hw [] (pk w_ANY w_REGULAR_FILE w_DIRECTORY w_CHARACTER_DEVICE w_BLOCK_DEVICE w_SOCKET w_SYMBOLIC_LINK w_PIPE (p0 &&& (7 : Int32))) (pk w_ANY w_REGULAR_FILE w_DIRECTORY w_CHARACTER_DEVICE w_BLOCK_DEVICE w_SOCKET w_SYMBOLIC_LINK w_PIPE (p1 &&& (7 : Int32))) w_ANY w_CHARACTER_DEVICE w_SYMBOLIC_LINK w_REGULAR_FILE w_BLOCK_DEVICE w_SOCKET w_PIPE w_DIRECTORY h0 n0 Z0 S_ANY S_CHARACTER_DEVICE S_SYMBOLIC_LINK S_REGULAR_FILE S_BLOCK_DEVICE S_SOCKET S_PIPE S_DIRECTORY E_ANY E_CHARACTER_DEVICE E_SYMBOLIC_LINK E_REGULAR_FILE E_BLOCK_DEVICE E_SOCKET E_PIPE E_DIRECTORY O_ANY_ordinal O_CHARACTER_DEVICE_ordinal O_SYMBOLIC_LINK_ordinal O_REGULAR_FILE_ordinal O_BLOCK_DEVICE_ordinal O_SOCKET_ordinal O_PIPE_ordinal O_DIRECTORY_ordinal) hZ (hw _ (List.mem_of_getElem? (i := 13) rfl)) (hw _ (List.mem_of_getElem? (i := 5) rfl)) (by decide) (by decide)) q24a q24c (g := (mkF m 46 #[.val (.int p0), .val (.int p1), .val (.int (p0 &&& (7 : Int32))), .val (.int (p1 &&& (7 : Int32))), .val (.ref (pk w_ANY w_REGULAR_FILE w_DIRECTORY w_CHARACTER_DEVICE w_BLOCK_DEVICE w_SOCKET w_SYMBOLIC_LINK w_PIPE (p0 &&& (7 : Int32)))), .val (.ref (pk w_ANY w_REGULAR_FILE w_DIRECTORY w_CHARACTER_DEVICE w_BLOCK_DEVICE w_SOCKET w_SYMBOLIC_LINK w_PIPE (p1 &&& (7 : Int32)))), .val (.int (1 : Int32))] [(.ref (pk w_ANY w_REGULAR_FILE w_DIRECTORY w_CHARACTER_DEVICE w_BLOCK_DEVICE w_SOCKET w_SYMBOLIC_LINK w_PIPE (p1 &&& (7 : Int32)))), (.ref (pk w_ANY w_REGULAR_FILE w_DIRECTORY w_CHARACTER_DEVICE w_BLOCK_DEVICE w_SOCKET w_SYMBOLIC_LINK w_PIPE (p0 &&& (7 : Int32))))])) rfl (by rw [hml]; rfl) (Steps.refl _) (argsL := [(.ref (pk w_ANY w_REGULAR_FILE w_DIRECTORY w_CHARACTER_DEVICE w_BLOCK_DEVICE w_SOCKET w_SYMBOLIC_LINK w_PIPE (p1 &&& (7 : Int32))))]) (rest := []) (lenOf pd_1 rfl) rfl (by show 2 * 0 + _ ≤ _; exact Nat.le_of_eq rfl) (hb hby at_46) (fun _ _ => ⟨rfl, e22, (by decide : 0 + 0 ≤ _), (by decide : 0 + 0 ≤ _)⟩)
    dsimp only [Pt.U, Pt.locs, Pt.cells, Pt.slots] at X24 l24 y24 z24 st24 hQ24
    subst l24 y24 z24
    obtain ⟨rfl, N24q, e24⟩ := hQ24
    have N24 := Fr.app N22 N24q
    refine own_go (A' := (T24.setTop (mkF m 51 #[.val (.int p0), .val (.int p1), .val (.int (p0 &&& (7 : Int32))), .val (.int (p1 &&& (7 : Int32))), .val (.ref (pk w_ANY w_REGULAR_FILE w_DIRECTORY w_CHARACTER_DEVICE w_BLOCK_DEVICE w_SOCKET w_SYMBOLIC_LINK w_PIPE (p0 &&& (7 : Int32)))), .val (.ref (pk w_ANY w_REGULAR_FILE w_DIRECTORY w_CHARACTER_DEVICE w_BLOCK_DEVICE w_SOCKET w_SYMBOLIC_LINK w_PIPE (p1 &&& (7 : Int32)))), .val (.int (1 : Int32))] [(.int (1 : Int32)), (.int (lab w_ANY (pk w_ANY w_REGULAR_FILE w_DIRECTORY w_CHARACTER_DEVICE w_BLOCK_DEVICE w_SOCKET w_SYMBOLIC_LINK w_PIPE (p0 &&& (7 : Int32))) (pk w_ANY w_REGULAR_FILE w_DIRECTORY w_CHARACTER_DEVICE w_BLOCK_DEVICE w_SOCKET w_SYMBOLIC_LINK w_PIPE (p1 &&& (7 : Int32)))))]))) (fun t k => ?_) ?_
    · show Steps p.tables e below (T22.setTop (mkF m 35 #[.val (.int p0), .val (.int p1), .val (.int (p0 &&& (7 : Int32))), .val (.int (p1 &&& (7 : Int32))), .val (.ref (pk w_ANY w_REGULAR_FILE w_DIRECTORY w_CHARACTER_DEVICE w_BLOCK_DEVICE w_SOCKET w_SYMBOLIC_LINK w_PIPE (p0 &&& (7 : Int32)))), .val (.ref (pk w_ANY w_REGULAR_FILE w_DIRECTORY w_CHARACTER_DEVICE w_BLOCK_DEVICE w_SOCKET w_SYMBOLIC_LINK w_PIPE (p1 &&& (7 : Int32)))), .unset] [])) _
      refine XS.iconst X22.here hx rfl (hb hby at_35) ?_
      show Steps p.tables e below (T22.setTop (mkF m 36 #[.val (.int p0), .val (.int p1), .val (.int (p0 &&& (7 : Int32))), .val (.int (p1 &&& (7 : Int32))), .val (.ref (pk w_ANY w_REGULAR_FILE w_DIRECTORY w_CHARACTER_DEVICE w_BLOCK_DEVICE w_SOCKET w_SYMBOLIC_LINK w_PIPE (p0 &&& (7 : Int32)))), .val (.ref (pk w_ANY w_REGULAR_FILE w_DIRECTORY w_CHARACTER_DEVICE w_BLOCK_DEVICE w_SOCKET w_SYMBOLIC_LINK w_PIPE (p1 &&& (7 : Int32)))), .unset] [(.int (1 : Int32))])) _
      refine XS.goto X22.here hx rfl (pc0 := 36) (pc' := 40) rfl (hb hby at_36) (by decide) (by decide) ?_
      show Steps p.tables e below (T22.setTop (mkF m 40 #[.val (.int p0), .val (.int p1), .val (.int (p0 &&& (7 : Int32))), .val (.int (p1 &&& (7 : Int32))), .val (.ref (pk w_ANY w_REGULAR_FILE w_DIRECTORY w_CHARACTER_DEVICE w_BLOCK_DEVICE w_SOCKET w_SYMBOLIC_LINK w_PIPE (p0 &&& (7 : Int32)))), .val (.ref (pk w_ANY w_REGULAR_FILE w_DIRECTORY w_CHARACTER_DEVICE w_BLOCK_DEVICE w_SOCKET w_SYMBOLIC_LINK w_PIPE (p1 &&& (7 : Int32)))), .unset] [(.int (1 : Int32))])) _
      refine XS.istore X22.here hx rfl (hb hby at_40) rfl (l' := #[.val (.int p0), .val (.int p1), .val (.int (p0 &&& (7 : Int32))), .val (.int (p1 &&& (7 : Int32))), .val (.ref (pk w_ANY w_REGULAR_FILE w_DIRECTORY w_CHARACTER_DEVICE w_BLOCK_DEVICE w_SOCKET w_SYMBOLIC_LINK w_PIPE (p0 &&& (7 : Int32)))), .val (.ref (pk w_ANY w_REGULAR_FILE w_DIRECTORY w_CHARACTER_DEVICE w_BLOCK_DEVICE w_SOCKET w_SYMBOLIC_LINK w_PIPE (p1 &&& (7 : Int32)))), .val (.int (1 : Int32))]) rfl ?_
      show Steps p.tables e below (T22.setTop (mkF m 42 #[.val (.int p0), .val (.int p1), .val (.int (p0 &&& (7 : Int32))), .val (.int (p1 &&& (7 : Int32))), .val (.ref (pk w_ANY w_REGULAR_FILE w_DIRECTORY w_CHARACTER_DEVICE w_BLOCK_DEVICE w_SOCKET w_SYMBOLIC_LINK w_PIPE (p0 &&& (7 : Int32)))), .val (.ref (pk w_ANY w_REGULAR_FILE w_DIRECTORY w_CHARACTER_DEVICE w_BLOCK_DEVICE w_SOCKET w_SYMBOLIC_LINK w_PIPE (p1 &&& (7 : Int32)))), .val (.int (1 : Int32))] [])) _
      refine XS.aload X22.here hx rfl (hb hby at_42) rfl rfl ?_
      show Steps p.tables e below (T22.setTop (mkF m 44 #[.val (.int p0), .val (.int p1), .val (.int (p0 &&& (7 : Int32))), .val (.int (p1 &&& (7 : Int32))), .val (.ref (pk w_ANY w_REGULAR_FILE w_DIRECTORY w_CHARACTER_DEVICE w_BLOCK_DEVICE w_SOCKET w_SYMBOLIC_LINK w_PIPE (p0 &&& (7 : Int32)))), .val (.ref (pk w_ANY w_REGULAR_FILE w_DIRECTORY w_CHARACTER_DEVICE w_BLOCK_DEVICE w_SOCKET w_SYMBOLIC_LINK w_PIPE (p1 &&& (7 : Int32)))), .val (.int (1 : Int32))] [(.ref (pk w_ANY w_REGULAR_FILE w_DIRECTORY w_CHARACTER_DEVICE w_BLOCK_DEVICE w_SOCKET w_SYMBOLIC_LINK w_PIPE (p0 &&& (7 : Int32))))])) _
      refine XS.aload X22.here hx rfl (hb hby at_44) rfl rfl ?_
      show Steps p.tables e below (T22.setTop (mkF m 46 #[.val (.int p0), .val (.int p1), .val (.int (p0 &&& (7 : Int32))), .val (.int (p1 &&& (7 : Int32))), .val (.ref (pk w_ANY w_REGULAR_FILE w_DIRECTORY w_CHARACTER_DEVICE w_BLOCK_DEVICE w_SOCKET w_SYMBOLIC_LINK w_PIPE (p0 &&& (7 : Int32)))), .val (.ref (pk w_ANY w_REGULAR_FILE w_DIRECTORY w_CHARACTER_DEVICE w_BLOCK_DEVICE w_SOCKET w_SYMBOLIC_LINK w_PIPE (p1 &&& (7 : Int32)))), .val (.int (1 : Int32))] [(.ref (pk w_ANY w_REGULAR_FILE w_DIRECTORY w_CHARACTER_DEVICE w_BLOCK_DEVICE w_SOCKET w_SYMBOLIC_LINK w_PIPE (p1 &&& (7 : Int32)))), (.ref (pk w_ANY w_REGULAR_FILE w_DIRECTORY w_CHARACTER_DEVICE w_BLOCK_DEVICE w_SOCKET w_SYMBOLIC_LINK w_PIPE (p0 &&& (7 : Int32))))])) _
      refine st24.trans ?_
      show Steps p.tables e below (T24.setTop (mkF m 49 #[.val (.int p0), .val (.int p1), .val (.int (p0 &&& (7 : Int32))), .val (.int (p1 &&& (7 : Int32))), .val (.ref (pk w_ANY w_REGULAR_FILE w_DIRECTORY w_CHARACTER_DEVICE w_BLOCK_DEVICE w_SOCKET w_SYMBOLIC_LINK w_PIPE (p0 &&& (7 : Int32)))), .val (.ref (pk w_ANY w_REGULAR_FILE w_DIRECTORY w_CHARACTER_DEVICE w_BLOCK_DEVICE w_SOCKET w_SYMBOLIC_LINK w_PIPE (p1 &&& (7 : Int32)))), .val (.int (1 : Int32))] [(.int (lab w_ANY (pk w_ANY w_REGULAR_FILE w_DIRECTORY w_CHARACTER_DEVICE w_BLOCK_DEVICE w_SOCKET w_SYMBOLIC_LINK w_PIPE (p0 &&& (7 : Int32))) (pk w_ANY w_REGULAR_FILE w_DIRECTORY w_CHARACTER_DEVICE w_BLOCK_DEVICE w_SOCKET w_SYMBOLIC_LINK w_PIPE (p1 &&& (7 : Int32)))))])) _
      refine XS.iload X24.here hx rfl (hb hby at_49) rfl ?_
      exact k
    refine own_go (A' := (T24.setTop (mkF m 54 #[.val (.int p0), .val (.int p1), .val (.int (p0 &&& (7 : Int32))), .val (.int (p1 &&& (7 : Int32))), .val (.ref (pk w_ANY w_REGULAR_FILE w_DIRECTORY w_CHARACTER_DEVICE w_BLOCK_DEVICE w_SOCKET w_SYMBOLIC_LINK w_PIPE (p0 &&& (7 : Int32)))), .val (.ref (pk w_ANY w_REGULAR_FILE w_DIRECTORY w_CHARACTER_DEVICE w_BLOCK_DEVICE w_SOCKET w_SYMBOLIC_LINK w_PIPE (p1 &&& (7 : Int32)))), .val (.int (1 : Int32))] []))) (fun t k => XS.icmpNo X24.here hx rfl (hb hby at_51) rfl (teq (hkey.trans (by rw [exF, if_pos hc23]))).2 k) ?_
    refine own_go (A' := (T24.setTop (mkF m 59 #[.val (.int p0), .val (.int p1), .val (.int (p0 &&& (7 : Int32))), .val (.int (p1 &&& (7 : Int32))), .val (.ref (pk w_ANY w_REGULAR_FILE w_DIRECTORY w_CHARACTER_DEVICE w_BLOCK_DEVICE w_SOCKET w_SYMBOLIC_LINK w_PIPE (p0 &&& (7 : Int32)))), .val (.ref (pk w_ANY w_REGULAR_FILE w_DIRECTORY w_CHARACTER_DEVICE w_BLOCK_DEVICE w_SOCKET w_SYMBOLIC_LINK w_PIPE (p1 &&& (7 : Int32)))), .val (.int (1 : Int32))] [(.int (1 : Int32))]))) (fun t k => ?_) ?_
    · show Steps p.tables e below (T24.setTop (mkF m 54 #[.val (.int p0), .val (.int p1), .val (.int (p0 &&& (7 : Int32))), .val (.int (p1 &&& (7 : Int32))), .val (.ref (pk w_ANY w_REGULAR_FILE w_DIRECTORY w_CHARACTER_DEVICE w_BLOCK_DEVICE w_SOCKET w_SYMBOLIC_LINK w_PIPE (p0 &&& (7 : Int32)))), .val (.ref (pk w_ANY w_REGULAR_FILE w_DIRECTORY w_CHARACTER_DEVICE w_BLOCK_DEVICE w_SOCKET w_SYMBOLIC_LINK w_PIPE (p1 &&& (7 : Int32)))), .val (.int (1 : Int32))] [])) _
      refine XS.iconst X24.here hx rfl (hb hby at_54) ?_
      show Steps p.tables e below (T24.setTop (mkF m 55 #[.val (.int p0), .val (.int p1), .val (.int (p0 &&& (7 : Int32))), .val (.int (p1 &&& (7 : Int32))), .val (.ref (pk w_ANY w_REGULAR_FILE w_DIRECTORY w_CHARACTER_DEVICE w_BLOCK_DEVICE w_SOCKET w_SYMBOLIC_LINK w_PIPE (p0 &&& (7 : Int32)))), .val (.ref (pk w_ANY w_REGULAR_FILE w_DIRECTORY w_CHARACTER_DEVICE w_BLOCK_DEVICE w_SOCKET w_SYMBOLIC_LINK w_PIPE (p1 &&& (7 : Int32)))), .val (.int (1 : Int32))] [(.int (1 : Int32))])) _
      refine XS.goto X24.here hx rfl (pc0 := 55) (pc' := 59) rfl (hb hby at_55) (by decide) (by decide) ?_
      exact k
    obtain ⟨fs, hr, hrun, hended, hW, hsame⟩ := X24.leave (v := some (.int (1 : Int32))) (fun h => by rw [Bd.returns] at h; cases h)
    refine ⟨_, _, ?_, hrun, hended, _, _, rfl, ?_, ⟨_, rfl⟩, hW, hsame.mono (by decide) (by decide)⟩
    · show Steps p.tables e below (T24.setTop (mkF m 59 #[.val (.int p0), .val (.int p1), .val (.int (p0 &&& (7 : Int32))), .val (.int (p1 &&& (7 : Int32))), .val (.ref (pk w_ANY w_REGULAR_FILE w_DIRECTORY w_CHARACTER_DEVICE w_BLOCK_DEVICE w_SOCKET w_SYMBOLIC_LINK w_PIPE (p0 &&& (7 : Int32)))), .val (.ref (pk w_ANY w_REGULAR_FILE w_DIRECTORY w_CHARACTER_DEVICE w_BLOCK_DEVICE w_SOCKET w_SYMBOLIC_LINK w_PIPE (p1 &&& (7 : Int32)))), .val (.int (1 : Int32))] [(.int (1 : Int32))])) _
      exact retN X24 hx (t := .boolean) Bd.returns (by simp) (hb hby at_59) hr
    · show Q0 Z p0 p1 w_ANY w_CHARACTER_DEVICE w_SYMBOLIC_LINK w_REGULAR_FILE w_BLOCK_DEVICE w_SOCKET w_PIPE w_DIRECTORY h0 n0 _ _ _
      exact ⟨rfl, N24⟩
  · -- hc23: no
    refine own_go (A' := (T22.setTop (mkF m 26 #[.val (.int p0), .val (.int p1), .val (.int (p0 &&& (7 : Int32))), .val (.int (p1 &&& (7 : Int32))), .val (.ref (pk w_ANY w_REGULAR_FILE w_DIRECTORY w_CHARACTER_DEVICE w_BLOCK_DEVICE w_SOCKET w_SYMBOLIC_LINK w_PIPE (p0 &&& (7 : Int32)))), .val (.ref (pk w_ANY w_REGULAR_FILE w_DIRECTORY w_CHARACTER_DEVICE w_BLOCK_DEVICE w_SOCKET w_SYMBOLIC_LINK w_PIPE (p1 &&& (7 : Int32)))), .unset] []))) (fun t k => XS.ifNo X22.here hx rfl (hb hby at_23) rfl ((if0 _ _).trans (feq hc23).1) k) ?_
    refine own_go (A' := (T22.setTop (mkF m 27 #[.val (.int p0), .val (.int p1), .val (.int (p0 &&& (7 : Int32))), .val (.int (p1 &&& (7 : Int32))), .val (.ref (pk w_ANY w_REGULAR_FILE w_DIRECTORY w_CHARACTER_DEVICE w_BLOCK_DEVICE w_SOCKET w_SYMBOLIC_LINK w_PIPE (p0 &&& (7 : Int32)))), .val (.ref (pk w_ANY w_REGULAR_FILE w_DIRECTORY w_CHARACTER_DEVICE w_BLOCK_DEVICE w_SOCKET w_SYMBOLIC_LINK w_PIPE (p1 &&& (7 : Int32)))), .unset] [(.int (p1 &&& (7 : Int32)))]))) (fun t k => ?_) ?_
    · show Steps p.tables e below (T22.setTop (mkF m 26 #[.val (.int p0), .val (.int p1), .val (.int (p0 &&& (7 : Int32))), .val (.int (p1 &&& (7 : Int32))), .val (.ref (pk w_ANY w_REGULAR_FILE w_DIRECTORY w_CHARACTER_DEVICE w_BLOCK_DEVICE w_SOCKET w_SYMBOLIC_LINK w_PIPE (p0 &&& (7 : Int32)))), .val (.ref (pk w_ANY w_REGULAR_FILE w_DIRECTORY w_CHARACTER_DEVICE w_BLOCK_DEVICE w_SOCKET w_SYMBOLIC_LINK w_PIPE (p1 &&& (7 : Int32)))), .unset] [])) _
      refine XS.iloadN X22.here hx rfl (hb hby at_26) rfl ?_
      exact k
    by_cases hc25 : (p1 &&& (7 : Int32)) = (0 : Int32)
    · -- hc25: yes
      refine own_go (A' := (T22.setTop (mkF m 35 #[.val (.int p0), .val (.int p1), .val (.int (p0 &&& (7 : Int32))), .val (.int (p1 &&& (7 : Int32))), .val (.ref (pk w_ANY w_REGULAR_FILE w_DIRECTORY w_CHARACTER_DEVICE w_BLOCK_DEVICE w_SOCKET w_SYMBOLIC_LINK w_PIPE (p0 &&& (7 : Int32)))), .val (.ref (pk w_ANY w_REGULAR_FILE w_DIRECTORY w_CHARACTER_DEVICE w_BLOCK_DEVICE w_SOCKET w_SYMBOLIC_LINK w_PIPE (p1 &&& (7 : Int32)))), .unset] []))) (fun t k => XS.ifYes X22.here hx rfl (pc0 := 27) (pc' := 35) rfl (hb hby at_27) rfl ((if0 _ _).trans (teq hc25).1) (by decide) (by decide) k) ?_
      obtain ⟨cq26, kq26, q26a, q26b, q26c⟩ := isOf hZ e22 (pk_exa _ E_ANY E_REGULAR_FILE E_DIRECTORY E_CHARACTER_DEVICE E_BLOCK_DEVICE E_SOCKET E_SYMBOLIC_LINK E_PIPE)
      obtain ⟨_, _, ⟨T26, L26, k26, n26⟩, -, X26, ⟨Lc26, hQ26, l26, y26, z26⟩, st26⟩ := X22.virtualBack hx (y := (⟨"com/example/bounded_policy/boundedpolicy/model/FileType", "labels", "(Lcom/example/bounded_policy/boundedpolicy/model/FileType;)Z"⟩ : MethodName)) (z := (⟨"com/example/bounded_policy/boundedpolicy/model/FileType", "labels", "(Lcom/example/bounded_policy/boundedpolicy/model/FileType;)Z"⟩ : MethodName)) hown (mvT hZ (hw _ (List.mem_of_getElem? (i := 9) rfl))) (mvT hZ (hw _ (List.mem_of_getElem? (i := 10) rfl))) (notFace_of_selects (args := #[]) (mvT hZ (hw _ (List.mem_of_getElem? (i := 12) rfl)))) (mvT hZ (hw _ (List.mem_of_getElem? (i := 12) rfl))) (mvT hZ (hw _ (List.mem_of_getElem? (i := 11) rfl))) (by decide) (backOf (W := 0) (rm2 l Z a0 hw [] (pk w_ANY w_REGULAR_FILE w_DIRECTORY w_CHARACTER_DEVICE w_BLOCK_DEVICE w_SOCKET w_SYMBOLIC_LINK w_PIPE (p0 &&& (7 : Int32))) (pk w_ANY w_REGULAR_FILE w_DIRECTORY w_CHARACTER_DEVICE w_BLOCK_DEVICE w_SOCKET w_SYMBOLIC_LINK w_PIPE (p1 &&& (7 : Int32))) w_ANY w_CHARACTER_DEVICE w_SYMBOLIC_LINK w_REGULAR_FILE w_BLOCK_DEVICE w_SOCKET w_PIPE w_DIRECTORY h0 n0 Z0 S_ANY S_CHARACTER_DEVICE S_SYMBOLIC_LINK S_REGULAR_FILE S_BLOCK_DEVICE S_SOCKET S_PIPE S_DIRECTORY E_ANY E_CHARACTER_DEVICE E_SYMBOLIC_LINK E_REGULAR_FILE E_BLOCK_DEVICE E_SOCKET E_PIPE E_DIRECTORY O_ANY_ordinal O_CHARACTER_DEVICE_ordinal O_SYMBOLIC_LINK_ordinal O_REGULAR_FILE_ordinal O_BLOCK_DEVICE_ordinal O_SOCKET_ordinal O_PIPE_ordinal O_DIRECTORY_ordinal) hZ (hw _ (List.mem_of_getElem? (i := 13) rfl)) (hw _ (List.mem_of_getElem? (i := 5) rfl)) (by decide) (by decide)) q26a q26c (g := (mkF m 46 #[.val (.int p0), .val (.int p1), .val (.int (p0 &&& (7 : Int32))), .val (.int (p1 &&& (7 : Int32))), .val (.ref (pk w_ANY w_REGULAR_FILE w_DIRECTORY w_CHARACTER_DEVICE w_BLOCK_DEVICE w_SOCKET w_SYMBOLIC_LINK w_PIPE (p0 &&& (7 : Int32)))), .val (.ref (pk w_ANY w_REGULAR_FILE w_DIRECTORY w_CHARACTER_DEVICE w_BLOCK_DEVICE w_SOCKET w_SYMBOLIC_LINK w_PIPE (p1 &&& (7 : Int32)))), .val (.int (1 : Int32))] [(.ref (pk w_ANY w_REGULAR_FILE w_DIRECTORY w_CHARACTER_DEVICE w_BLOCK_DEVICE w_SOCKET w_SYMBOLIC_LINK w_PIPE (p1 &&& (7 : Int32)))), (.ref (pk w_ANY w_REGULAR_FILE w_DIRECTORY w_CHARACTER_DEVICE w_BLOCK_DEVICE w_SOCKET w_SYMBOLIC_LINK w_PIPE (p0 &&& (7 : Int32))))])) rfl (by rw [hml]; rfl) (Steps.refl _) (argsL := [(.ref (pk w_ANY w_REGULAR_FILE w_DIRECTORY w_CHARACTER_DEVICE w_BLOCK_DEVICE w_SOCKET w_SYMBOLIC_LINK w_PIPE (p1 &&& (7 : Int32))))]) (rest := []) (lenOf pd_1 rfl) rfl (by show 2 * 0 + _ ≤ _; exact Nat.le_of_eq rfl) (hb hby at_46) (fun _ _ => ⟨rfl, e22, (by decide : 0 + 0 ≤ _), (by decide : 0 + 0 ≤ _)⟩)
      dsimp only [Pt.U, Pt.locs, Pt.cells, Pt.slots] at X26 l26 y26 z26 st26 hQ26
      subst l26 y26 z26
      obtain ⟨rfl, N26q, e26⟩ := hQ26
      have N26 := Fr.app N22 N26q
      refine own_go (A' := (T26.setTop (mkF m 51 #[.val (.int p0), .val (.int p1), .val (.int (p0 &&& (7 : Int32))), .val (.int (p1 &&& (7 : Int32))), .val (.ref (pk w_ANY w_REGULAR_FILE w_DIRECTORY w_CHARACTER_DEVICE w_BLOCK_DEVICE w_SOCKET w_SYMBOLIC_LINK w_PIPE (p0 &&& (7 : Int32)))), .val (.ref (pk w_ANY w_REGULAR_FILE w_DIRECTORY w_CHARACTER_DEVICE w_BLOCK_DEVICE w_SOCKET w_SYMBOLIC_LINK w_PIPE (p1 &&& (7 : Int32)))), .val (.int (1 : Int32))] [(.int (1 : Int32)), (.int (lab w_ANY (pk w_ANY w_REGULAR_FILE w_DIRECTORY w_CHARACTER_DEVICE w_BLOCK_DEVICE w_SOCKET w_SYMBOLIC_LINK w_PIPE (p0 &&& (7 : Int32))) (pk w_ANY w_REGULAR_FILE w_DIRECTORY w_CHARACTER_DEVICE w_BLOCK_DEVICE w_SOCKET w_SYMBOLIC_LINK w_PIPE (p1 &&& (7 : Int32)))))]))) (fun t k => ?_) ?_
      · show Steps p.tables e below (T22.setTop (mkF m 35 #[.val (.int p0), .val (.int p1), .val (.int (p0 &&& (7 : Int32))), .val (.int (p1 &&& (7 : Int32))), .val (.ref (pk w_ANY w_REGULAR_FILE w_DIRECTORY w_CHARACTER_DEVICE w_BLOCK_DEVICE w_SOCKET w_SYMBOLIC_LINK w_PIPE (p0 &&& (7 : Int32)))), .val (.ref (pk w_ANY w_REGULAR_FILE w_DIRECTORY w_CHARACTER_DEVICE w_BLOCK_DEVICE w_SOCKET w_SYMBOLIC_LINK w_PIPE (p1 &&& (7 : Int32)))), .unset] [])) _
        refine XS.iconst X22.here hx rfl (hb hby at_35) ?_
        show Steps p.tables e below (T22.setTop (mkF m 36 #[.val (.int p0), .val (.int p1), .val (.int (p0 &&& (7 : Int32))), .val (.int (p1 &&& (7 : Int32))), .val (.ref (pk w_ANY w_REGULAR_FILE w_DIRECTORY w_CHARACTER_DEVICE w_BLOCK_DEVICE w_SOCKET w_SYMBOLIC_LINK w_PIPE (p0 &&& (7 : Int32)))), .val (.ref (pk w_ANY w_REGULAR_FILE w_DIRECTORY w_CHARACTER_DEVICE w_BLOCK_DEVICE w_SOCKET w_SYMBOLIC_LINK w_PIPE (p1 &&& (7 : Int32)))), .unset] [(.int (1 : Int32))])) _
        refine XS.goto X22.here hx rfl (pc0 := 36) (pc' := 40) rfl (hb hby at_36) (by decide) (by decide) ?_
        show Steps p.tables e below (T22.setTop (mkF m 40 #[.val (.int p0), .val (.int p1), .val (.int (p0 &&& (7 : Int32))), .val (.int (p1 &&& (7 : Int32))), .val (.ref (pk w_ANY w_REGULAR_FILE w_DIRECTORY w_CHARACTER_DEVICE w_BLOCK_DEVICE w_SOCKET w_SYMBOLIC_LINK w_PIPE (p0 &&& (7 : Int32)))), .val (.ref (pk w_ANY w_REGULAR_FILE w_DIRECTORY w_CHARACTER_DEVICE w_BLOCK_DEVICE w_SOCKET w_SYMBOLIC_LINK w_PIPE (p1 &&& (7 : Int32)))), .unset] [(.int (1 : Int32))])) _
        refine XS.istore X22.here hx rfl (hb hby at_40) rfl (l' := #[.val (.int p0), .val (.int p1), .val (.int (p0 &&& (7 : Int32))), .val (.int (p1 &&& (7 : Int32))), .val (.ref (pk w_ANY w_REGULAR_FILE w_DIRECTORY w_CHARACTER_DEVICE w_BLOCK_DEVICE w_SOCKET w_SYMBOLIC_LINK w_PIPE (p0 &&& (7 : Int32)))), .val (.ref (pk w_ANY w_REGULAR_FILE w_DIRECTORY w_CHARACTER_DEVICE w_BLOCK_DEVICE w_SOCKET w_SYMBOLIC_LINK w_PIPE (p1 &&& (7 : Int32)))), .val (.int (1 : Int32))]) rfl ?_
        show Steps p.tables e below (T22.setTop (mkF m 42 #[.val (.int p0), .val (.int p1), .val (.int (p0 &&& (7 : Int32))), .val (.int (p1 &&& (7 : Int32))), .val (.ref (pk w_ANY w_REGULAR_FILE w_DIRECTORY w_CHARACTER_DEVICE w_BLOCK_DEVICE w_SOCKET w_SYMBOLIC_LINK w_PIPE (p0 &&& (7 : Int32)))), .val (.ref (pk w_ANY w_REGULAR_FILE w_DIRECTORY w_CHARACTER_DEVICE w_BLOCK_DEVICE w_SOCKET w_SYMBOLIC_LINK w_PIPE (p1 &&& (7 : Int32)))), .val (.int (1 : Int32))] [])) _
        refine XS.aload X22.here hx rfl (hb hby at_42) rfl rfl ?_
        show Steps p.tables e below (T22.setTop (mkF m 44 #[.val (.int p0), .val (.int p1), .val (.int (p0 &&& (7 : Int32))), .val (.int (p1 &&& (7 : Int32))), .val (.ref (pk w_ANY w_REGULAR_FILE w_DIRECTORY w_CHARACTER_DEVICE w_BLOCK_DEVICE w_SOCKET w_SYMBOLIC_LINK w_PIPE (p0 &&& (7 : Int32)))), .val (.ref (pk w_ANY w_REGULAR_FILE w_DIRECTORY w_CHARACTER_DEVICE w_BLOCK_DEVICE w_SOCKET w_SYMBOLIC_LINK w_PIPE (p1 &&& (7 : Int32)))), .val (.int (1 : Int32))] [(.ref (pk w_ANY w_REGULAR_FILE w_DIRECTORY w_CHARACTER_DEVICE w_BLOCK_DEVICE w_SOCKET w_SYMBOLIC_LINK w_PIPE (p0 &&& (7 : Int32))))])) _
        refine XS.aload X22.here hx rfl (hb hby at_44) rfl rfl ?_
        show Steps p.tables e below (T22.setTop (mkF m 46 #[.val (.int p0), .val (.int p1), .val (.int (p0 &&& (7 : Int32))), .val (.int (p1 &&& (7 : Int32))), .val (.ref (pk w_ANY w_REGULAR_FILE w_DIRECTORY w_CHARACTER_DEVICE w_BLOCK_DEVICE w_SOCKET w_SYMBOLIC_LINK w_PIPE (p0 &&& (7 : Int32)))), .val (.ref (pk w_ANY w_REGULAR_FILE w_DIRECTORY w_CHARACTER_DEVICE w_BLOCK_DEVICE w_SOCKET w_SYMBOLIC_LINK w_PIPE (p1 &&& (7 : Int32)))), .val (.int (1 : Int32))] [(.ref (pk w_ANY w_REGULAR_FILE w_DIRECTORY w_CHARACTER_DEVICE w_BLOCK_DEVICE w_SOCKET w_SYMBOLIC_LINK w_PIPE (p1 &&& (7 : Int32)))), (.ref (pk w_ANY w_REGULAR_FILE w_DIRECTORY w_CHARACTER_DEVICE w_BLOCK_DEVICE w_SOCKET w_SYMBOLIC_LINK w_PIPE (p0 &&& (7 : Int32))))])) _
        refine st26.trans ?_
        show Steps p.tables e below (T26.setTop (mkF m 49 #[.val (.int p0), .val (.int p1), .val (.int (p0 &&& (7 : Int32))), .val (.int (p1 &&& (7 : Int32))), .val (.ref (pk w_ANY w_REGULAR_FILE w_DIRECTORY w_CHARACTER_DEVICE w_BLOCK_DEVICE w_SOCKET w_SYMBOLIC_LINK w_PIPE (p0 &&& (7 : Int32)))), .val (.ref (pk w_ANY w_REGULAR_FILE w_DIRECTORY w_CHARACTER_DEVICE w_BLOCK_DEVICE w_SOCKET w_SYMBOLIC_LINK w_PIPE (p1 &&& (7 : Int32)))), .val (.int (1 : Int32))] [(.int (lab w_ANY (pk w_ANY w_REGULAR_FILE w_DIRECTORY w_CHARACTER_DEVICE w_BLOCK_DEVICE w_SOCKET w_SYMBOLIC_LINK w_PIPE (p0 &&& (7 : Int32))) (pk w_ANY w_REGULAR_FILE w_DIRECTORY w_CHARACTER_DEVICE w_BLOCK_DEVICE w_SOCKET w_SYMBOLIC_LINK w_PIPE (p1 &&& (7 : Int32)))))])) _
        refine XS.iload X26.here hx rfl (hb hby at_49) rfl ?_
        exact k
      refine own_go (A' := (T26.setTop (mkF m 54 #[.val (.int p0), .val (.int p1), .val (.int (p0 &&& (7 : Int32))), .val (.int (p1 &&& (7 : Int32))), .val (.ref (pk w_ANY w_REGULAR_FILE w_DIRECTORY w_CHARACTER_DEVICE w_BLOCK_DEVICE w_SOCKET w_SYMBOLIC_LINK w_PIPE (p0 &&& (7 : Int32)))), .val (.ref (pk w_ANY w_REGULAR_FILE w_DIRECTORY w_CHARACTER_DEVICE w_BLOCK_DEVICE w_SOCKET w_SYMBOLIC_LINK w_PIPE (p1 &&& (7 : Int32)))), .val (.int (1 : Int32))] []))) (fun t k => XS.icmpNo X26.here hx rfl (hb hby at_51) rfl (teq (hkey.trans (by rw [exF, if_neg hc23, if_pos hc25]))).2 k) ?_
      refine own_go (A' := (T26.setTop (mkF m 59 #[.val (.int p0), .val (.int p1), .val (.int (p0 &&& (7 : Int32))), .val (.int (p1 &&& (7 : Int32))), .val (.ref (pk w_ANY w_REGULAR_FILE w_DIRECTORY w_CHARACTER_DEVICE w_BLOCK_DEVICE w_SOCKET w_SYMBOLIC_LINK w_PIPE (p0 &&& (7 : Int32)))), .val (.ref (pk w_ANY w_REGULAR_FILE w_DIRECTORY w_CHARACTER_DEVICE w_BLOCK_DEVICE w_SOCKET w_SYMBOLIC_LINK w_PIPE (p1 &&& (7 : Int32)))), .val (.int (1 : Int32))] [(.int (1 : Int32))]))) (fun t k => ?_) ?_
      · show Steps p.tables e below (T26.setTop (mkF m 54 #[.val (.int p0), .val (.int p1), .val (.int (p0 &&& (7 : Int32))), .val (.int (p1 &&& (7 : Int32))), .val (.ref (pk w_ANY w_REGULAR_FILE w_DIRECTORY w_CHARACTER_DEVICE w_BLOCK_DEVICE w_SOCKET w_SYMBOLIC_LINK w_PIPE (p0 &&& (7 : Int32)))), .val (.ref (pk w_ANY w_REGULAR_FILE w_DIRECTORY w_CHARACTER_DEVICE w_BLOCK_DEVICE w_SOCKET w_SYMBOLIC_LINK w_PIPE (p1 &&& (7 : Int32)))), .val (.int (1 : Int32))] [])) _
        refine XS.iconst X26.here hx rfl (hb hby at_54) ?_
        show Steps p.tables e below (T26.setTop (mkF m 55 #[.val (.int p0), .val (.int p1), .val (.int (p0 &&& (7 : Int32))), .val (.int (p1 &&& (7 : Int32))), .val (.ref (pk w_ANY w_REGULAR_FILE w_DIRECTORY w_CHARACTER_DEVICE w_BLOCK_DEVICE w_SOCKET w_SYMBOLIC_LINK w_PIPE (p0 &&& (7 : Int32)))), .val (.ref (pk w_ANY w_REGULAR_FILE w_DIRECTORY w_CHARACTER_DEVICE w_BLOCK_DEVICE w_SOCKET w_SYMBOLIC_LINK w_PIPE (p1 &&& (7 : Int32)))), .val (.int (1 : Int32))] [(.int (1 : Int32))])) _
        refine XS.goto X26.here hx rfl (pc0 := 55) (pc' := 59) rfl (hb hby at_55) (by decide) (by decide) ?_
        exact k
      obtain ⟨fs, hr, hrun, hended, hW, hsame⟩ := X26.leave (v := some (.int (1 : Int32))) (fun h => by rw [Bd.returns] at h; cases h)
      refine ⟨_, _, ?_, hrun, hended, _, _, rfl, ?_, ⟨_, rfl⟩, hW, hsame.mono (by decide) (by decide)⟩
      · show Steps p.tables e below (T26.setTop (mkF m 59 #[.val (.int p0), .val (.int p1), .val (.int (p0 &&& (7 : Int32))), .val (.int (p1 &&& (7 : Int32))), .val (.ref (pk w_ANY w_REGULAR_FILE w_DIRECTORY w_CHARACTER_DEVICE w_BLOCK_DEVICE w_SOCKET w_SYMBOLIC_LINK w_PIPE (p0 &&& (7 : Int32)))), .val (.ref (pk w_ANY w_REGULAR_FILE w_DIRECTORY w_CHARACTER_DEVICE w_BLOCK_DEVICE w_SOCKET w_SYMBOLIC_LINK w_PIPE (p1 &&& (7 : Int32)))), .val (.int (1 : Int32))] [(.int (1 : Int32))])) _
        exact retN X26 hx (t := .boolean) Bd.returns (by simp) (hb hby at_59) hr
      · show Q0 Z p0 p1 w_ANY w_CHARACTER_DEVICE w_SYMBOLIC_LINK w_REGULAR_FILE w_BLOCK_DEVICE w_SOCKET w_PIPE w_DIRECTORY h0 n0 _ _ _
        exact ⟨rfl, N26⟩
    · -- hc25: no
      refine own_go (A' := (T22.setTop (mkF m 30 #[.val (.int p0), .val (.int p1), .val (.int (p0 &&& (7 : Int32))), .val (.int (p1 &&& (7 : Int32))), .val (.ref (pk w_ANY w_REGULAR_FILE w_DIRECTORY w_CHARACTER_DEVICE w_BLOCK_DEVICE w_SOCKET w_SYMBOLIC_LINK w_PIPE (p0 &&& (7 : Int32)))), .val (.ref (pk w_ANY w_REGULAR_FILE w_DIRECTORY w_CHARACTER_DEVICE w_BLOCK_DEVICE w_SOCKET w_SYMBOLIC_LINK w_PIPE (p1 &&& (7 : Int32)))), .unset] []))) (fun t k => XS.ifNo X22.here hx rfl (hb hby at_27) rfl ((if0 _ _).trans (feq hc25).1) k) ?_
      refine own_go (A' := (T22.setTop (mkF m 32 #[.val (.int p0), .val (.int p1), .val (.int (p0 &&& (7 : Int32))), .val (.int (p1 &&& (7 : Int32))), .val (.ref (pk w_ANY w_REGULAR_FILE w_DIRECTORY w_CHARACTER_DEVICE w_BLOCK_DEVICE w_SOCKET w_SYMBOLIC_LINK w_PIPE (p0 &&& (7 : Int32)))), .val (.ref (pk w_ANY w_REGULAR_FILE w_DIRECTORY w_CHARACTER_DEVICE w_BLOCK_DEVICE w_SOCKET w_SYMBOLIC_LINK w_PIPE (p1 &&& (7 : Int32)))), .unset] [(.int (p1 &&& (7 : Int32))), (.int (p0 &&& (7 : Int32)))]))) (fun t k => ?_) ?_
      · show Steps p.tables e below (T22.setTop (mkF m 30 #[.val (.int p0), .val (.int p1), .val (.int (p0 &&& (7 : Int32))), .val (.int (p1 &&& (7 : Int32))), .val (.ref (pk w_ANY w_REGULAR_FILE w_DIRECTORY w_CHARACTER_DEVICE w_BLOCK_DEVICE w_SOCKET w_SYMBOLIC_LINK w_PIPE (p0 &&& (7 : Int32)))), .val (.ref (pk w_ANY w_REGULAR_FILE w_DIRECTORY w_CHARACTER_DEVICE w_BLOCK_DEVICE w_SOCKET w_SYMBOLIC_LINK w_PIPE (p1 &&& (7 : Int32)))), .unset] [])) _
        refine XS.iloadN X22.here hx rfl (hb hby at_30) rfl ?_
        show Steps p.tables e below (T22.setTop (mkF m 31 #[.val (.int p0), .val (.int p1), .val (.int (p0 &&& (7 : Int32))), .val (.int (p1 &&& (7 : Int32))), .val (.ref (pk w_ANY w_REGULAR_FILE w_DIRECTORY w_CHARACTER_DEVICE w_BLOCK_DEVICE w_SOCKET w_SYMBOLIC_LINK w_PIPE (p0 &&& (7 : Int32)))), .val (.ref (pk w_ANY w_REGULAR_FILE w_DIRECTORY w_CHARACTER_DEVICE w_BLOCK_DEVICE w_SOCKET w_SYMBOLIC_LINK w_PIPE (p1 &&& (7 : Int32)))), .unset] [(.int (p0 &&& (7 : Int32)))])) _
        refine XS.iloadN X22.here hx rfl (hb hby at_31) rfl ?_
        exact k
      by_cases hc27 : (p0 &&& (7 : Int32)) = (p1 &&& (7 : Int32))
      · -- hc27: yes
        refine own_go (A' := (T22.setTop (mkF m 35 #[.val (.int p0), .val (.int p1), .val (.int (p0 &&& (7 : Int32))), .val (.int (p1 &&& (7 : Int32))), .val (.ref (pk w_ANY w_REGULAR_FILE w_DIRECTORY w_CHARACTER_DEVICE w_BLOCK_DEVICE w_SOCKET w_SYMBOLIC_LINK w_PIPE (p0 &&& (7 : Int32)))), .val (.ref (pk w_ANY w_REGULAR_FILE w_DIRECTORY w_CHARACTER_DEVICE w_BLOCK_DEVICE w_SOCKET w_SYMBOLIC_LINK w_PIPE (p1 &&& (7 : Int32)))), .unset] []))) (fun t k => XS.icmpNo X22.here hx rfl (hb hby at_32) rfl (teq hc27).2 k) ?_
        obtain ⟨cq28, kq28, q28a, q28b, q28c⟩ := isOf hZ e22 (pk_exa _ E_ANY E_REGULAR_FILE E_DIRECTORY E_CHARACTER_DEVICE E_BLOCK_DEVICE E_SOCKET E_SYMBOLIC_LINK E_PIPE)
        obtain ⟨_, _, ⟨T28, L28, k28, n28⟩, -, X28, ⟨Lc28, hQ28, l28, y28, z28⟩, st28⟩ := X22.virtualBack hx (y := (⟨"com/example/bounded_policy/boundedpolicy/model/FileType", "labels", "(Lcom/example/bounded_policy/boundedpolicy/model/FileType;)Z"⟩ : MethodName)) (z := (⟨"com/example/bounded_policy/boundedpolicy/model/FileType", "labels", "(Lcom/example/bounded_policy/boundedpolicy/model/FileType;)Z"⟩ : MethodName)) hown (mvT hZ (hw _ (List.mem_of_getElem? (i := 9) rfl))) (mvT hZ (hw _ (List.mem_of_getElem? (i := 10) rfl))) (notFace_of_selects (args := #[]) (mvT hZ (hw _ (List.mem_of_getElem? (i := 12) rfl)))) (mvT hZ (hw _ (List.mem_of_getElem? (i := 12) rfl))) (mvT hZ (hw _ (List.mem_of_getElem? (i := 11) rfl))) (by decide) (backOf (W := 0) (rm2 l Z a0 hw [] (pk w_ANY w_REGULAR_FILE w_DIRECTORY w_CHARACTER_DEVICE w_BLOCK_DEVICE w_SOCKET w_SYMBOLIC_LINK w_PIPE (p0 &&& (7 : Int32))) (pk w_ANY w_REGULAR_FILE w_DIRECTORY w_CHARACTER_DEVICE w_BLOCK_DEVICE w_SOCKET w_SYMBOLIC_LINK w_PIPE (p1 &&& (7 : Int32))) w_ANY w_CHARACTER_DEVICE w_SYMBOLIC_LINK w_REGULAR_FILE w_BLOCK_DEVICE w_SOCKET w_PIPE w_DIRECTORY h0 n0 Z0 S_ANY S_CHARACTER_DEVICE S_SYMBOLIC_LINK S_REGULAR_FILE S_BLOCK_DEVICE S_SOCKET S_PIPE S_DIRECTORY E_ANY E_CHARACTER_DEVICE E_SYMBOLIC_LINK E_REGULAR_FILE E_BLOCK_DEVICE E_SOCKET E_PIPE E_DIRECTORY O_ANY_ordinal O_CHARACTER_DEVICE_ordinal O_SYMBOLIC_LINK_ordinal O_REGULAR_FILE_ordinal O_BLOCK_DEVICE_ordinal O_SOCKET_ordinal O_PIPE_ordinal O_DIRECTORY_ordinal) hZ (hw _ (List.mem_of_getElem? (i := 13) rfl)) (hw _ (List.mem_of_getElem? (i := 5) rfl)) (by decide) (by decide)) q28a q28c (g := (mkF m 46 #[.val (.int p0), .val (.int p1), .val (.int (p0 &&& (7 : Int32))), .val (.int (p1 &&& (7 : Int32))), .val (.ref (pk w_ANY w_REGULAR_FILE w_DIRECTORY w_CHARACTER_DEVICE w_BLOCK_DEVICE w_SOCKET w_SYMBOLIC_LINK w_PIPE (p0 &&& (7 : Int32)))), .val (.ref (pk w_ANY w_REGULAR_FILE w_DIRECTORY w_CHARACTER_DEVICE w_BLOCK_DEVICE w_SOCKET w_SYMBOLIC_LINK w_PIPE (p1 &&& (7 : Int32)))), .val (.int (1 : Int32))] [(.ref (pk w_ANY w_REGULAR_FILE w_DIRECTORY w_CHARACTER_DEVICE w_BLOCK_DEVICE w_SOCKET w_SYMBOLIC_LINK w_PIPE (p1 &&& (7 : Int32)))), (.ref (pk w_ANY w_REGULAR_FILE w_DIRECTORY w_CHARACTER_DEVICE w_BLOCK_DEVICE w_SOCKET w_SYMBOLIC_LINK w_PIPE (p0 &&& (7 : Int32))))])) rfl (by rw [hml]; rfl) (Steps.refl _) (argsL := [(.ref (pk w_ANY w_REGULAR_FILE w_DIRECTORY w_CHARACTER_DEVICE w_BLOCK_DEVICE w_SOCKET w_SYMBOLIC_LINK w_PIPE (p1 &&& (7 : Int32))))]) (rest := []) (lenOf pd_1 rfl) rfl (by show 2 * 0 + _ ≤ _; exact Nat.le_of_eq rfl) (hb hby at_46) (fun _ _ => ⟨rfl, e22, (by decide : 0 + 0 ≤ _), (by decide : 0 + 0 ≤ _)⟩)
        dsimp only [Pt.U, Pt.locs, Pt.cells, Pt.slots] at X28 l28 y28 z28 st28 hQ28
        subst l28 y28 z28
        obtain ⟨rfl, N28q, e28⟩ := hQ28
        have N28 := Fr.app N22 N28q
        refine own_go (A' := (T28.setTop (mkF m 51 #[.val (.int p0), .val (.int p1), .val (.int (p0 &&& (7 : Int32))), .val (.int (p1 &&& (7 : Int32))), .val (.ref (pk w_ANY w_REGULAR_FILE w_DIRECTORY w_CHARACTER_DEVICE w_BLOCK_DEVICE w_SOCKET w_SYMBOLIC_LINK w_PIPE (p0 &&& (7 : Int32)))), .val (.ref (pk w_ANY w_REGULAR_FILE w_DIRECTORY w_CHARACTER_DEVICE w_BLOCK_DEVICE w_SOCKET w_SYMBOLIC_LINK w_PIPE (p1 &&& (7 : Int32)))), .val (.int (1 : Int32))] [(.int (1 : Int32)), (.int (lab w_ANY (pk w_ANY w_REGULAR_FILE w_DIRECTORY w_CHARACTER_DEVICE w_BLOCK_DEVICE w_SOCKET w_SYMBOLIC_LINK w_PIPE (p0 &&& (7 : Int32))) (pk w_ANY w_REGULAR_FILE w_DIRECTORY w_CHARACTER_DEVICE w_BLOCK_DEVICE w_SOCKET w_SYMBOLIC_LINK w_PIPE (p1 &&& (7 : Int32)))))]))) (fun t k => ?_) ?_
        · show Steps p.tables e below (T22.setTop (mkF m 35 #[.val (.int p0), .val (.int p1), .val (.int (p0 &&& (7 : Int32))), .val (.int (p1 &&& (7 : Int32))), .val (.ref (pk w_ANY w_REGULAR_FILE w_DIRECTORY w_CHARACTER_DEVICE w_BLOCK_DEVICE w_SOCKET w_SYMBOLIC_LINK w_PIPE (p0 &&& (7 : Int32)))), .val (.ref (pk w_ANY w_REGULAR_FILE w_DIRECTORY w_CHARACTER_DEVICE w_BLOCK_DEVICE w_SOCKET w_SYMBOLIC_LINK w_PIPE (p1 &&& (7 : Int32)))), .unset] [])) _
          refine XS.iconst X22.here hx rfl (hb hby at_35) ?_
          show Steps p.tables e below (T22.setTop (mkF m 36 #[.val (.int p0), .val (.int p1), .val (.int (p0 &&& (7 : Int32))), .val (.int (p1 &&& (7 : Int32))), .val (.ref (pk w_ANY w_REGULAR_FILE w_DIRECTORY w_CHARACTER_DEVICE w_BLOCK_DEVICE w_SOCKET w_SYMBOLIC_LINK w_PIPE (p0 &&& (7 : Int32)))), .val (.ref (pk w_ANY w_REGULAR_FILE w_DIRECTORY w_CHARACTER_DEVICE w_BLOCK_DEVICE w_SOCKET w_SYMBOLIC_LINK w_PIPE (p1 &&& (7 : Int32)))), .unset] [(.int (1 : Int32))])) _
          refine XS.goto X22.here hx rfl (pc0 := 36) (pc' := 40) rfl (hb hby at_36) (by decide) (by decide) ?_
          show Steps p.tables e below (T22.setTop (mkF m 40 #[.val (.int p0), .val (.int p1), .val (.int (p0 &&& (7 : Int32))), .val (.int (p1 &&& (7 : Int32))), .val (.ref (pk w_ANY w_REGULAR_FILE w_DIRECTORY w_CHARACTER_DEVICE w_BLOCK_DEVICE w_SOCKET w_SYMBOLIC_LINK w_PIPE (p0 &&& (7 : Int32)))), .val (.ref (pk w_ANY w_REGULAR_FILE w_DIRECTORY w_CHARACTER_DEVICE w_BLOCK_DEVICE w_SOCKET w_SYMBOLIC_LINK w_PIPE (p1 &&& (7 : Int32)))), .unset] [(.int (1 : Int32))])) _
          refine XS.istore X22.here hx rfl (hb hby at_40) rfl (l' := #[.val (.int p0), .val (.int p1), .val (.int (p0 &&& (7 : Int32))), .val (.int (p1 &&& (7 : Int32))), .val (.ref (pk w_ANY w_REGULAR_FILE w_DIRECTORY w_CHARACTER_DEVICE w_BLOCK_DEVICE w_SOCKET w_SYMBOLIC_LINK w_PIPE (p0 &&& (7 : Int32)))), .val (.ref (pk w_ANY w_REGULAR_FILE w_DIRECTORY w_CHARACTER_DEVICE w_BLOCK_DEVICE w_SOCKET w_SYMBOLIC_LINK w_PIPE (p1 &&& (7 : Int32)))), .val (.int (1 : Int32))]) rfl ?_
          show Steps p.tables e below (T22.setTop (mkF m 42 #[.val (.int p0), .val (.int p1), .val (.int (p0 &&& (7 : Int32))), .val (.int (p1 &&& (7 : Int32))), .val (.ref (pk w_ANY w_REGULAR_FILE w_DIRECTORY w_CHARACTER_DEVICE w_BLOCK_DEVICE w_SOCKET w_SYMBOLIC_LINK w_PIPE (p0 &&& (7 : Int32)))), .val (.ref (pk w_ANY w_REGULAR_FILE w_DIRECTORY w_CHARACTER_DEVICE w_BLOCK_DEVICE w_SOCKET w_SYMBOLIC_LINK w_PIPE (p1 &&& (7 : Int32)))), .val (.int (1 : Int32))] [])) _
          refine XS.aload X22.here hx rfl (hb hby at_42) rfl rfl ?_
          show Steps p.tables e below (T22.setTop (mkF m 44 #[.val (.int p0), .val (.int p1), .val (.int (p0 &&& (7 : Int32))), .val (.int (p1 &&& (7 : Int32))), .val (.ref (pk w_ANY w_REGULAR_FILE w_DIRECTORY w_CHARACTER_DEVICE w_BLOCK_DEVICE w_SOCKET w_SYMBOLIC_LINK w_PIPE (p0 &&& (7 : Int32)))), .val (.ref (pk w_ANY w_REGULAR_FILE w_DIRECTORY w_CHARACTER_DEVICE w_BLOCK_DEVICE w_SOCKET w_SYMBOLIC_LINK w_PIPE (p1 &&& (7 : Int32)))), .val (.int (1 : Int32))] [(.ref (pk w_ANY w_REGULAR_FILE w_DIRECTORY w_CHARACTER_DEVICE w_BLOCK_DEVICE w_SOCKET w_SYMBOLIC_LINK w_PIPE (p0 &&& (7 : Int32))))])) _
          refine XS.aload X22.here hx rfl (hb hby at_44) rfl rfl ?_
          show Steps p.tables e below (T22.setTop (mkF m 46 #[.val (.int p0), .val (.int p1), .val (.int (p0 &&& (7 : Int32))), .val (.int (p1 &&& (7 : Int32))), .val (.ref (pk w_ANY w_REGULAR_FILE w_DIRECTORY w_CHARACTER_DEVICE w_BLOCK_DEVICE w_SOCKET w_SYMBOLIC_LINK w_PIPE (p0 &&& (7 : Int32)))), .val (.ref (pk w_ANY w_REGULAR_FILE w_DIRECTORY w_CHARACTER_DEVICE w_BLOCK_DEVICE w_SOCKET w_SYMBOLIC_LINK w_PIPE (p1 &&& (7 : Int32)))), .val (.int (1 : Int32))] [(.ref (pk w_ANY w_REGULAR_FILE w_DIRECTORY w_CHARACTER_DEVICE w_BLOCK_DEVICE w_SOCKET w_SYMBOLIC_LINK w_PIPE (p1 &&& (7 : Int32)))), (.ref (pk w_ANY w_REGULAR_FILE w_DIRECTORY w_CHARACTER_DEVICE w_BLOCK_DEVICE w_SOCKET w_SYMBOLIC_LINK w_PIPE (p0 &&& (7 : Int32))))])) _
          refine st28.trans ?_
          show Steps p.tables e below (T28.setTop (mkF m 49 #[.val (.int p0), .val (.int p1), .val (.int (p0 &&& (7 : Int32))), .val (.int (p1 &&& (7 : Int32))), .val (.ref (pk w_ANY w_REGULAR_FILE w_DIRECTORY w_CHARACTER_DEVICE w_BLOCK_DEVICE w_SOCKET w_SYMBOLIC_LINK w_PIPE (p0 &&& (7 : Int32)))), .val (.ref (pk w_ANY w_REGULAR_FILE w_DIRECTORY w_CHARACTER_DEVICE w_BLOCK_DEVICE w_SOCKET w_SYMBOLIC_LINK w_PIPE (p1 &&& (7 : Int32)))), .val (.int (1 : Int32))] [(.int (lab w_ANY (pk w_ANY w_REGULAR_FILE w_DIRECTORY w_CHARACTER_DEVICE w_BLOCK_DEVICE w_SOCKET w_SYMBOLIC_LINK w_PIPE (p0 &&& (7 : Int32))) (pk w_ANY w_REGULAR_FILE w_DIRECTORY w_CHARACTER_DEVICE w_BLOCK_DEVICE w_SOCKET w_SYMBOLIC_LINK w_PIPE (p1 &&& (7 : Int32)))))])) _
          refine XS.iload X28.here hx rfl (hb hby at_49) rfl ?_
          exact k
        refine own_go (A' := (T28.setTop (mkF m 54 #[.val (.int p0), .val (.int p1), .val (.int (p0 &&& (7 : Int32))), .val (.int (p1 &&& (7 : Int32))), .val (.ref (pk w_ANY w_REGULAR_FILE w_DIRECTORY w_CHARACTER_DEVICE w_BLOCK_DEVICE w_SOCKET w_SYMBOLIC_LINK w_PIPE (p0 &&& (7 : Int32)))), .val (.ref (pk w_ANY w_REGULAR_FILE w_DIRECTORY w_CHARACTER_DEVICE w_BLOCK_DEVICE w_SOCKET w_SYMBOLIC_LINK w_PIPE (p1 &&& (7 : Int32)))), .val (.int (1 : Int32))] []))) (fun t k => XS.icmpNo X28.here hx rfl (hb hby at_51) rfl (teq (hkey.trans (by rw [exF, if_neg hc23, if_neg hc25, if_pos hc27]))).2 k) ?_
        refine own_go (A' := (T28.setTop (mkF m 59 #[.val (.int p0), .val (.int p1), .val (.int (p0 &&& (7 : Int32))), .val (.int (p1 &&& (7 : Int32))), .val (.ref (pk w_ANY w_REGULAR_FILE w_DIRECTORY w_CHARACTER_DEVICE w_BLOCK_DEVICE w_SOCKET w_SYMBOLIC_LINK w_PIPE (p0 &&& (7 : Int32)))), .val (.ref (pk w_ANY w_REGULAR_FILE w_DIRECTORY w_CHARACTER_DEVICE w_BLOCK_DEVICE w_SOCKET w_SYMBOLIC_LINK w_PIPE (p1 &&& (7 : Int32)))), .val (.int (1 : Int32))] [(.int (1 : Int32))]))) (fun t k => ?_) ?_
        · show Steps p.tables e below (T28.setTop (mkF m 54 #[.val (.int p0), .val (.int p1), .val (.int (p0 &&& (7 : Int32))), .val (.int (p1 &&& (7 : Int32))), .val (.ref (pk w_ANY w_REGULAR_FILE w_DIRECTORY w_CHARACTER_DEVICE w_BLOCK_DEVICE w_SOCKET w_SYMBOLIC_LINK w_PIPE (p0 &&& (7 : Int32)))), .val (.ref (pk w_ANY w_REGULAR_FILE w_DIRECTORY w_CHARACTER_DEVICE w_BLOCK_DEVICE w_SOCKET w_SYMBOLIC_LINK w_PIPE (p1 &&& (7 : Int32)))), .val (.int (1 : Int32))] [])) _
          refine XS.iconst X28.here hx rfl (hb hby at_54) ?_
          show Steps p.tables e below (T28.setTop (mkF m 55 #[.val (.int p0), .val (.int p1), .val (.int (p0 &&& (7 : Int32))), .val (.int (p1 &&& (7 : Int32))), .val (.ref (pk w_ANY w_REGULAR_FILE w_DIRECTORY w_CHARACTER_DEVICE w_BLOCK_DEVICE w_SOCKET w_SYMBOLIC_LINK w_PIPE (p0 &&& (7 : Int32)))), .val (.ref (pk w_ANY w_REGULAR_FILE w_DIRECTORY w_CHARACTER_DEVICE w_BLOCK_DEVICE w_SOCKET w_SYMBOLIC_LINK w_PIPE (p1 &&& (7 : Int32)))), .val (.int (1 : Int32))] [(.int (1 : Int32))])) _
          refine XS.goto X28.here hx rfl (pc0 := 55) (pc' := 59) rfl (hb hby at_55) (by decide) (by decide) ?_
          exact k
        obtain ⟨fs, hr, hrun, hended, hW, hsame⟩ := X28.leave (v := some (.int (1 : Int32))) (fun h => by rw [Bd.returns] at h; cases h)
        refine ⟨_, _, ?_, hrun, hended, _, _, rfl, ?_, ⟨_, rfl⟩, hW, hsame.mono (by decide) (by decide)⟩
        · show Steps p.tables e below (T28.setTop (mkF m 59 #[.val (.int p0), .val (.int p1), .val (.int (p0 &&& (7 : Int32))), .val (.int (p1 &&& (7 : Int32))), .val (.ref (pk w_ANY w_REGULAR_FILE w_DIRECTORY w_CHARACTER_DEVICE w_BLOCK_DEVICE w_SOCKET w_SYMBOLIC_LINK w_PIPE (p0 &&& (7 : Int32)))), .val (.ref (pk w_ANY w_REGULAR_FILE w_DIRECTORY w_CHARACTER_DEVICE w_BLOCK_DEVICE w_SOCKET w_SYMBOLIC_LINK w_PIPE (p1 &&& (7 : Int32)))), .val (.int (1 : Int32))] [(.int (1 : Int32))])) _
          exact retN X28 hx (t := .boolean) Bd.returns (by simp) (hb hby at_59) hr
        · show Q0 Z p0 p1 w_ANY w_CHARACTER_DEVICE w_SYMBOLIC_LINK w_REGULAR_FILE w_BLOCK_DEVICE w_SOCKET w_PIPE w_DIRECTORY h0 n0 _ _ _
          exact ⟨rfl, N28⟩
      · -- hc27: no
        refine own_go (A' := (T22.setTop (mkF m 39 #[.val (.int p0), .val (.int p1), .val (.int (p0 &&& (7 : Int32))), .val (.int (p1 &&& (7 : Int32))), .val (.ref (pk w_ANY w_REGULAR_FILE w_DIRECTORY w_CHARACTER_DEVICE w_BLOCK_DEVICE w_SOCKET w_SYMBOLIC_LINK w_PIPE (p0 &&& (7 : Int32)))), .val (.ref (pk w_ANY w_REGULAR_FILE w_DIRECTORY w_CHARACTER_DEVICE w_BLOCK_DEVICE w_SOCKET w_SYMBOLIC_LINK w_PIPE (p1 &&& (7 : Int32)))), .unset] []))) (fun t k => XS.icmpYes X22.here hx rfl (pc0 := 32) (pc' := 39) rfl (hb hby at_32) rfl (feq hc27).2 (by decide) (by decide) k) ?_
        obtain ⟨cq29, kq29, q29a, q29b, q29c⟩ := isOf hZ e22 (pk_exa _ E_ANY E_REGULAR_FILE E_DIRECTORY E_CHARACTER_DEVICE E_BLOCK_DEVICE E_SOCKET E_SYMBOLIC_LINK E_PIPE)
        obtain ⟨_, _, ⟨T29, L29, k29, n29⟩, -, X29, ⟨Lc29, hQ29, l29, y29, z29⟩, st29⟩ := X22.virtualBack hx (y := (⟨"com/example/bounded_policy/boundedpolicy/model/FileType", "labels", "(Lcom/example/bounded_policy/boundedpolicy/model/FileType;)Z"⟩ : MethodName)) (z := (⟨"com/example/bounded_policy/boundedpolicy/model/FileType", "labels", "(Lcom/example/bounded_policy/boundedpolicy/model/FileType;)Z"⟩ : MethodName)) hown (mvT hZ (hw _ (List.mem_of_getElem? (i := 9) rfl))) (mvT hZ (hw _ (List.mem_of_getElem? (i := 10) rfl))) (notFace_of_selects (args := #[]) (mvT hZ (hw _ (List.mem_of_getElem? (i := 12) rfl)))) (mvT hZ (hw _ (List.mem_of_getElem? (i := 12) rfl))) (mvT hZ (hw _ (List.mem_of_getElem? (i := 11) rfl))) (by decide) (backOf (W := 0) (rm2 l Z a0 hw [] (pk w_ANY w_REGULAR_FILE w_DIRECTORY w_CHARACTER_DEVICE w_BLOCK_DEVICE w_SOCKET w_SYMBOLIC_LINK w_PIPE (p0 &&& (7 : Int32))) (pk w_ANY w_REGULAR_FILE w_DIRECTORY w_CHARACTER_DEVICE w_BLOCK_DEVICE w_SOCKET w_SYMBOLIC_LINK w_PIPE (p1 &&& (7 : Int32))) w_ANY w_CHARACTER_DEVICE w_SYMBOLIC_LINK w_REGULAR_FILE w_BLOCK_DEVICE w_SOCKET w_PIPE w_DIRECTORY h0 n0 Z0 S_ANY S_CHARACTER_DEVICE S_SYMBOLIC_LINK S_REGULAR_FILE S_BLOCK_DEVICE S_SOCKET S_PIPE S_DIRECTORY E_ANY E_CHARACTER_DEVICE E_SYMBOLIC_LINK E_REGULAR_FILE E_BLOCK_DEVICE E_SOCKET E_PIPE E_DIRECTORY O_ANY_ordinal O_CHARACTER_DEVICE_ordinal O_SYMBOLIC_LINK_ordinal O_REGULAR_FILE_ordinal O_BLOCK_DEVICE_ordinal O_SOCKET_ordinal O_PIPE_ordinal O_DIRECTORY_ordinal) hZ (hw _ (List.mem_of_getElem? (i := 13) rfl)) (hw _ (List.mem_of_getElem? (i := 5) rfl)) (by decide) (by decide)) q29a q29c (g := (mkF m 46 #[.val (.int p0), .val (.int p1), .val (.int (p0 &&& (7 : Int32))), .val (.int (p1 &&& (7 : Int32))), .val (.ref (pk w_ANY w_REGULAR_FILE w_DIRECTORY w_CHARACTER_DEVICE w_BLOCK_DEVICE w_SOCKET w_SYMBOLIC_LINK w_PIPE (p0 &&& (7 : Int32)))), .val (.ref (pk w_ANY w_REGULAR_FILE w_DIRECTORY w_CHARACTER_DEVICE w_BLOCK_DEVICE w_SOCKET w_SYMBOLIC_LINK w_PIPE (p1 &&& (7 : Int32)))), .val (.int (0 : Int32))] [(.ref (pk w_ANY w_REGULAR_FILE w_DIRECTORY w_CHARACTER_DEVICE w_BLOCK_DEVICE w_SOCKET w_SYMBOLIC_LINK w_PIPE (p1 &&& (7 : Int32)))), (.ref (pk w_ANY w_REGULAR_FILE w_DIRECTORY w_CHARACTER_DEVICE w_BLOCK_DEVICE w_SOCKET w_SYMBOLIC_LINK w_PIPE (p0 &&& (7 : Int32))))])) rfl (by rw [hml]; rfl) (Steps.refl _) (argsL := [(.ref (pk w_ANY w_REGULAR_FILE w_DIRECTORY w_CHARACTER_DEVICE w_BLOCK_DEVICE w_SOCKET w_SYMBOLIC_LINK w_PIPE (p1 &&& (7 : Int32))))]) (rest := []) (lenOf pd_1 rfl) rfl (by show 2 * 0 + _ ≤ _; exact Nat.le_of_eq rfl) (hb hby at_46) (fun _ _ => ⟨rfl, e22, (by decide : 0 + 0 ≤ _), (by decide : 0 + 0 ≤ _)⟩)
        dsimp only [Pt.U, Pt.locs, Pt.cells, Pt.slots] at X29 l29 y29 z29 st29 hQ29
        subst l29 y29 z29
        obtain ⟨rfl, N29q, e29⟩ := hQ29
        have N29 := Fr.app N22 N29q
        refine own_go (A' := (T29.setTop (mkF m 51 #[.val (.int p0), .val (.int p1), .val (.int (p0 &&& (7 : Int32))), .val (.int (p1 &&& (7 : Int32))), .val (.ref (pk w_ANY w_REGULAR_FILE w_DIRECTORY w_CHARACTER_DEVICE w_BLOCK_DEVICE w_SOCKET w_SYMBOLIC_LINK w_PIPE (p0 &&& (7 : Int32)))), .val (.ref (pk w_ANY w_REGULAR_FILE w_DIRECTORY w_CHARACTER_DEVICE w_BLOCK_DEVICE w_SOCKET w_SYMBOLIC_LINK w_PIPE (p1 &&& (7 : Int32)))), .val (.int (0 : Int32))] [(.int (0 : Int32)), (.int (lab w_ANY (pk w_ANY w_REGULAR_FILE w_DIRECTORY w_CHARACTER_DEVICE w_BLOCK_DEVICE w_SOCKET w_SYMBOLIC_LINK w_PIPE (p0 &&& (7 : Int32))) (pk w_ANY w_REGULAR_FILE w_DIRECTORY w_CHARACTER_DEVICE w_BLOCK_DEVICE w_SOCKET w_SYMBOLIC_LINK w_PIPE (p1 &&& (7 : Int32)))))]))) (fun t k => ?_) ?_
        · show Steps p.tables e below (T22.setTop (mkF m 39 #[.val (.int p0), .val (.int p1), .val (.int (p0 &&& (7 : Int32))), .val (.int (p1 &&& (7 : Int32))), .val (.ref (pk w_ANY w_REGULAR_FILE w_DIRECTORY w_CHARACTER_DEVICE w_BLOCK_DEVICE w_SOCKET w_SYMBOLIC_LINK w_PIPE (p0 &&& (7 : Int32)))), .val (.ref (pk w_ANY w_REGULAR_FILE w_DIRECTORY w_CHARACTER_DEVICE w_BLOCK_DEVICE w_SOCKET w_SYMBOLIC_LINK w_PIPE (p1 &&& (7 : Int32)))), .unset] [])) _
          refine XS.iconst X22.here hx rfl (hb hby at_39) ?_
          show Steps p.tables e below (T22.setTop (mkF m 40 #[.val (.int p0), .val (.int p1), .val (.int (p0 &&& (7 : Int32))), .val (.int (p1 &&& (7 : Int32))), .val (.ref (pk w_ANY w_REGULAR_FILE w_DIRECTORY w_CHARACTER_DEVICE w_BLOCK_DEVICE w_SOCKET w_SYMBOLIC_LINK w_PIPE (p0 &&& (7 : Int32)))), .val (.ref (pk w_ANY w_REGULAR_FILE w_DIRECTORY w_CHARACTER_DEVICE w_BLOCK_DEVICE w_SOCKET w_SYMBOLIC_LINK w_PIPE (p1 &&& (7 : Int32)))), .unset] [(.int (0 : Int32))])) _
          refine XS.istore X22.here hx rfl (hb hby at_40) rfl (l' := #[.val (.int p0), .val (.int p1), .val (.int (p0 &&& (7 : Int32))), .val (.int (p1 &&& (7 : Int32))), .val (.ref (pk w_ANY w_REGULAR_FILE w_DIRECTORY w_CHARACTER_DEVICE w_BLOCK_DEVICE w_SOCKET w_SYMBOLIC_LINK w_PIPE (p0 &&& (7 : Int32)))), .val (.ref (pk w_ANY w_REGULAR_FILE w_DIRECTORY w_CHARACTER_DEVICE w_BLOCK_DEVICE w_SOCKET w_SYMBOLIC_LINK w_PIPE (p1 &&& (7 : Int32)))), .val (.int (0 : Int32))]) rfl ?_
          show Steps p.tables e below (T22.setTop (mkF m 42 #[.val (.int p0), .val (.int p1), .val (.int (p0 &&& (7 : Int32))), .val (.int (p1 &&& (7 : Int32))), .val (.ref (pk w_ANY w_REGULAR_FILE w_DIRECTORY w_CHARACTER_DEVICE w_BLOCK_DEVICE w_SOCKET w_SYMBOLIC_LINK w_PIPE (p0 &&& (7 : Int32)))), .val (.ref (pk w_ANY w_REGULAR_FILE w_DIRECTORY w_CHARACTER_DEVICE w_BLOCK_DEVICE w_SOCKET w_SYMBOLIC_LINK w_PIPE (p1 &&& (7 : Int32)))), .val (.int (0 : Int32))] [])) _
          refine XS.aload X22.here hx rfl (hb hby at_42) rfl rfl ?_
          show Steps p.tables e below (T22.setTop (mkF m 44 #[.val (.int p0), .val (.int p1), .val (.int (p0 &&& (7 : Int32))), .val (.int (p1 &&& (7 : Int32))), .val (.ref (pk w_ANY w_REGULAR_FILE w_DIRECTORY w_CHARACTER_DEVICE w_BLOCK_DEVICE w_SOCKET w_SYMBOLIC_LINK w_PIPE (p0 &&& (7 : Int32)))), .val (.ref (pk w_ANY w_REGULAR_FILE w_DIRECTORY w_CHARACTER_DEVICE w_BLOCK_DEVICE w_SOCKET w_SYMBOLIC_LINK w_PIPE (p1 &&& (7 : Int32)))), .val (.int (0 : Int32))] [(.ref (pk w_ANY w_REGULAR_FILE w_DIRECTORY w_CHARACTER_DEVICE w_BLOCK_DEVICE w_SOCKET w_SYMBOLIC_LINK w_PIPE (p0 &&& (7 : Int32))))])) _
          refine XS.aload X22.here hx rfl (hb hby at_44) rfl rfl ?_
          show Steps p.tables e below (T22.setTop (mkF m 46 #[.val (.int p0), .val (.int p1), .val (.int (p0 &&& (7 : Int32))), .val (.int (p1 &&& (7 : Int32))), .val (.ref (pk w_ANY w_REGULAR_FILE w_DIRECTORY w_CHARACTER_DEVICE w_BLOCK_DEVICE w_SOCKET w_SYMBOLIC_LINK w_PIPE (p0 &&& (7 : Int32)))), .val (.ref (pk w_ANY w_REGULAR_FILE w_DIRECTORY w_CHARACTER_DEVICE w_BLOCK_DEVICE w_SOCKET w_SYMBOLIC_LINK w_PIPE (p1 &&& (7 : Int32)))), .val (.int (0 : Int32))] [(.ref (pk w_ANY w_REGULAR_FILE w_DIRECTORY w_CHARACTER_DEVICE w_BLOCK_DEVICE w_SOCKET w_SYMBOLIC_LINK w_PIPE (p1 &&& (7 : Int32)))), (.ref (pk w_ANY w_REGULAR_FILE w_DIRECTORY w_CHARACTER_DEVICE w_BLOCK_DEVICE w_SOCKET w_SYMBOLIC_LINK w_PIPE (p0 &&& (7 : Int32))))])) _
          refine st29.trans ?_
          show Steps p.tables e below (T29.setTop (mkF m 49 #[.val (.int p0), .val (.int p1), .val (.int (p0 &&& (7 : Int32))), .val (.int (p1 &&& (7 : Int32))), .val (.ref (pk w_ANY w_REGULAR_FILE w_DIRECTORY w_CHARACTER_DEVICE w_BLOCK_DEVICE w_SOCKET w_SYMBOLIC_LINK w_PIPE (p0 &&& (7 : Int32)))), .val (.ref (pk w_ANY w_REGULAR_FILE w_DIRECTORY w_CHARACTER_DEVICE w_BLOCK_DEVICE w_SOCKET w_SYMBOLIC_LINK w_PIPE (p1 &&& (7 : Int32)))), .val (.int (0 : Int32))] [(.int (lab w_ANY (pk w_ANY w_REGULAR_FILE w_DIRECTORY w_CHARACTER_DEVICE w_BLOCK_DEVICE w_SOCKET w_SYMBOLIC_LINK w_PIPE (p0 &&& (7 : Int32))) (pk w_ANY w_REGULAR_FILE w_DIRECTORY w_CHARACTER_DEVICE w_BLOCK_DEVICE w_SOCKET w_SYMBOLIC_LINK w_PIPE (p1 &&& (7 : Int32)))))])) _
          refine XS.iload X29.here hx rfl (hb hby at_49) rfl ?_
          exact k
        refine own_go (A' := (T29.setTop (mkF m 54 #[.val (.int p0), .val (.int p1), .val (.int (p0 &&& (7 : Int32))), .val (.int (p1 &&& (7 : Int32))), .val (.ref (pk w_ANY w_REGULAR_FILE w_DIRECTORY w_CHARACTER_DEVICE w_BLOCK_DEVICE w_SOCKET w_SYMBOLIC_LINK w_PIPE (p0 &&& (7 : Int32)))), .val (.ref (pk w_ANY w_REGULAR_FILE w_DIRECTORY w_CHARACTER_DEVICE w_BLOCK_DEVICE w_SOCKET w_SYMBOLIC_LINK w_PIPE (p1 &&& (7 : Int32)))), .val (.int (0 : Int32))] []))) (fun t k => XS.icmpNo X29.here hx rfl (hb hby at_51) rfl (teq (hkey.trans (by rw [exF, if_neg hc23, if_neg hc25, if_neg hc27]))).2 k) ?_
        refine own_go (A' := (T29.setTop (mkF m 59 #[.val (.int p0), .val (.int p1), .val (.int (p0 &&& (7 : Int32))), .val (.int (p1 &&& (7 : Int32))), .val (.ref (pk w_ANY w_REGULAR_FILE w_DIRECTORY w_CHARACTER_DEVICE w_BLOCK_DEVICE w_SOCKET w_SYMBOLIC_LINK w_PIPE (p0 &&& (7 : Int32)))), .val (.ref (pk w_ANY w_REGULAR_FILE w_DIRECTORY w_CHARACTER_DEVICE w_BLOCK_DEVICE w_SOCKET w_SYMBOLIC_LINK w_PIPE (p1 &&& (7 : Int32)))), .val (.int (0 : Int32))] [(.int (1 : Int32))]))) (fun t k => ?_) ?_
        · show Steps p.tables e below (T29.setTop (mkF m 54 #[.val (.int p0), .val (.int p1), .val (.int (p0 &&& (7 : Int32))), .val (.int (p1 &&& (7 : Int32))), .val (.ref (pk w_ANY w_REGULAR_FILE w_DIRECTORY w_CHARACTER_DEVICE w_BLOCK_DEVICE w_SOCKET w_SYMBOLIC_LINK w_PIPE (p0 &&& (7 : Int32)))), .val (.ref (pk w_ANY w_REGULAR_FILE w_DIRECTORY w_CHARACTER_DEVICE w_BLOCK_DEVICE w_SOCKET w_SYMBOLIC_LINK w_PIPE (p1 &&& (7 : Int32)))), .val (.int (0 : Int32))] [])) _
          refine XS.iconst X29.here hx rfl (hb hby at_54) ?_
          show Steps p.tables e below (T29.setTop (mkF m 55 #[.val (.int p0), .val (.int p1), .val (.int (p0 &&& (7 : Int32))), .val (.int (p1 &&& (7 : Int32))), .val (.ref (pk w_ANY w_REGULAR_FILE w_DIRECTORY w_CHARACTER_DEVICE w_BLOCK_DEVICE w_SOCKET w_SYMBOLIC_LINK w_PIPE (p0 &&& (7 : Int32)))), .val (.ref (pk w_ANY w_REGULAR_FILE w_DIRECTORY w_CHARACTER_DEVICE w_BLOCK_DEVICE w_SOCKET w_SYMBOLIC_LINK w_PIPE (p1 &&& (7 : Int32)))), .val (.int (0 : Int32))] [(.int (1 : Int32))])) _
          refine XS.goto X29.here hx rfl (pc0 := 55) (pc' := 59) rfl (hb hby at_55) (by decide) (by decide) ?_
          exact k
        obtain ⟨fs, hr, hrun, hended, hW, hsame⟩ := X29.leave (v := some (.int (1 : Int32))) (fun h => by rw [Bd.returns] at h; cases h)
        refine ⟨_, _, ?_, hrun, hended, _, _, rfl, ?_, ⟨_, rfl⟩, hW, hsame.mono (by decide) (by decide)⟩
        · show Steps p.tables e below (T29.setTop (mkF m 59 #[.val (.int p0), .val (.int p1), .val (.int (p0 &&& (7 : Int32))), .val (.int (p1 &&& (7 : Int32))), .val (.ref (pk w_ANY w_REGULAR_FILE w_DIRECTORY w_CHARACTER_DEVICE w_BLOCK_DEVICE w_SOCKET w_SYMBOLIC_LINK w_PIPE (p0 &&& (7 : Int32)))), .val (.ref (pk w_ANY w_REGULAR_FILE w_DIRECTORY w_CHARACTER_DEVICE w_BLOCK_DEVICE w_SOCKET w_SYMBOLIC_LINK w_PIPE (p1 &&& (7 : Int32)))), .val (.int (0 : Int32))] [(.int (1 : Int32))])) _
          exact retN X29 hx (t := .boolean) Bd.returns (by simp) (hb hby at_59) hr
        · show Q0 Z p0 p1 w_ANY w_CHARACTER_DEVICE w_SYMBOLIC_LINK w_REGULAR_FILE w_BLOCK_DEVICE w_SOCKET w_PIPE w_DIRECTORY h0 n0 _ _ _
          exact ⟨rfl, N29⟩
theorem own_eqint {t : Term} {k : Int32} {args : Array Value} {first s : State} {o : Option Outcome} {idx : List Nat} (h : (Jvm.Cond.eq t (.int k)).value args first o s idx = some true) : t.eval args first o idx s = some (.int k) := by
  cases ht : t.eval args first o idx s with
  | none => simp [Cond.value, Term.eval, ht] at h
  | some x => cases x <;> simp [Cond.value, Term.eval, ht] at h; subst h; rfl
set_option maxRecDepth 65536 in
set_option maxHeartbeats 40000000 in
theorem comes_1 {Post : Tables → Env → Array Value → State → Outcome → State → Prop} (hpost : ∀ tb e args s v u, (limb_1_1.after args s (.returned v) u = true ∧ limb_1_2.after args s (.returned v) u = true ∧ True) → FrameEnd s (.returned v) u (Jvm.fieldLocs frame_1_writes args s ++ Jvm.arrayLocs frame_1_arrays args s ++ Jvm.staticLocs frame_1_statics s) 0 0 → Post tb e args s (.returned v) u) :
    ArmFor flags0 classFile x code maxLocals ret World_1 tables_1 room_1 Calls_1 rest_1 Pre_1 Post := by
  intro l hfl _ _ p e ha hc hk s m args below hf hA hF happ hP
  obtain ⟨hcalls, hrest, hpre⟩ := hP
  obtain ⟨-, -, -, hnamed, -, -, -, hat⟩ := (Spec.applies_iff hf).mp happ
  obtain ⟨hg, hn⟩ := and_e (Cond.before_iff.mp (show (Jvm.Cond.and given_1 narrow_1).before args s = true from hpre))
  have hv0 := (and_e (and_e hg).2).1
  have hv1 := (and_e (and_e hg).2).2
  obtain ⟨w0, w1, rfl⟩ : ∃ w0 w1 : Value, args = #[w0, w1] := by
    have hs : args.size = 2 := by simpa [Cond.value, given_1] using (and_e hg).1
    obtain ⟨L⟩ := args
    match L, hs with
    | [w0, w1], _ => exact ⟨w0, w1, rfl⟩
  have hw := fun d (hd : d ∈ tables_1) => atoms_spec (ws := Jvm.Cond.code x code maxLocals ret :: tables_1) hat d (List.mem_cons_of_mem _ hd)
  have hfit : Fit s := fun {y c} hc i hi => by
    obtain ⟨ha, rfl⟩ := Array.getElem?_eq_some_iff.mp hc
    have q := List.all_eq_true.mp ((Array.all_eq_true_iff_forall_mem.mp hF) _ (Array.getElem_mem ha)) i (List.mem_range.mpr hi)
    simpa [Array.getElem?_eq_getElem hi] using q
  obtain ⟨i0, ei0⟩ := is_v hv0
  obtain rfl : w0 = (.int i0) := Option.some.inj ei0
  obtain ⟨i1, ei1⟩ := is_v hv1
  obtain rfl : w1 = (.int i1) := Option.some.inj ei1
  have hx_ANY := (and_e hn).1
  obtain ⟨w_ANY, ev_ANY⟩ := exa_v hx_ANY
  have S_ANY : Sta s s.heap "com/example/bounded_policy/boundedpolicy/model/FileType" "ANY" "Lcom/example/bounded_policy/boundedpolicy/model/FileType;" (.ref w_ANY) := Sta.start ev_ANY (Or.inr ⟨(hw _ (List.mem_of_getElem? (i := 5) rfl)), (hw _ (List.mem_of_getElem? (i := 6) rfl))⟩)
  have E_ANY : Exa s s.heap w_ANY "com/example/bounded_policy/boundedpolicy/model/FileType" := Exa.start ev_ANY hx_ANY
  have O_ANY_ordinal : Fld s s.heap w_ANY "java/lang/Enum" "ordinal" "I" (.int (0 : Int32)) := Fld.start ((fld_at ev_ANY).symm.trans (own_eqint (and_e (and_e (and_e (and_e (and_e (and_e hn).2).2).2).2).2).1))
  have hx_CHARACTER_DEVICE := (and_e (and_e hn).2).1
  obtain ⟨w_CHARACTER_DEVICE, ev_CHARACTER_DEVICE⟩ := exa_v hx_CHARACTER_DEVICE
  have S_CHARACTER_DEVICE : Sta s s.heap "com/example/bounded_policy/boundedpolicy/model/FileType" "CHARACTER_DEVICE" "Lcom/example/bounded_policy/boundedpolicy/model/FileType;" (.ref w_CHARACTER_DEVICE) := Sta.start ev_CHARACTER_DEVICE (Or.inr ⟨(hw _ (List.mem_of_getElem? (i := 5) rfl)), (hw _ (List.mem_of_getElem? (i := 8) rfl))⟩)
  have E_CHARACTER_DEVICE : Exa s s.heap w_CHARACTER_DEVICE "com/example/bounded_policy/boundedpolicy/model/FileType" := Exa.start ev_CHARACTER_DEVICE hx_CHARACTER_DEVICE
  have O_CHARACTER_DEVICE_ordinal : Fld s s.heap w_CHARACTER_DEVICE "java/lang/Enum" "ordinal" "I" (.int (3 : Int32)) := Fld.start ((fld_at ev_CHARACTER_DEVICE).symm.trans (own_eqint (and_e (and_e (and_e (and_e (and_e (and_e (and_e (and_e (and_e (and_e hn).2).2).2).2).2).2).2).2).2).1))
  have hx_SYMBOLIC_LINK := (and_e (and_e (and_e hn).2).2).1
  obtain ⟨w_SYMBOLIC_LINK, ev_SYMBOLIC_LINK⟩ := exa_v hx_SYMBOLIC_LINK
  have S_SYMBOLIC_LINK : Sta s s.heap "com/example/bounded_policy/boundedpolicy/model/FileType" "SYMBOLIC_LINK" "Lcom/example/bounded_policy/boundedpolicy/model/FileType;" (.ref w_SYMBOLIC_LINK) := Sta.start ev_SYMBOLIC_LINK (Or.inr ⟨(hw _ (List.mem_of_getElem? (i := 5) rfl)), (hw _ (List.mem_of_getElem? (i := 16) rfl))⟩)
  have E_SYMBOLIC_LINK : Exa s s.heap w_SYMBOLIC_LINK "com/example/bounded_policy/boundedpolicy/model/FileType" := Exa.start ev_SYMBOLIC_LINK hx_SYMBOLIC_LINK
  have O_SYMBOLIC_LINK_ordinal : Fld s s.heap w_SYMBOLIC_LINK "java/lang/Enum" "ordinal" "I" (.int (6 : Int32)) := Fld.start ((fld_at ev_SYMBOLIC_LINK).symm.trans (own_eqint (and_e (and_e (and_e (and_e (and_e hn).2).2).2).2).1))
  have hx_REGULAR_FILE := (and_e (and_e (and_e (and_e hn).2).2).2).1
  obtain ⟨w_REGULAR_FILE, ev_REGULAR_FILE⟩ := exa_v hx_REGULAR_FILE
  have S_REGULAR_FILE : Sta s s.heap "com/example/bounded_policy/boundedpolicy/model/FileType" "REGULAR_FILE" "Lcom/example/bounded_policy/boundedpolicy/model/FileType;" (.ref w_REGULAR_FILE) := Sta.start ev_REGULAR_FILE (Or.inr ⟨(hw _ (List.mem_of_getElem? (i := 5) rfl)), (hw _ (List.mem_of_getElem? (i := 18) rfl))⟩)
  have E_REGULAR_FILE : Exa s s.heap w_REGULAR_FILE "com/example/bounded_policy/boundedpolicy/model/FileType" := Exa.start ev_REGULAR_FILE hx_REGULAR_FILE
  have O_REGULAR_FILE_ordinal : Fld s s.heap w_REGULAR_FILE "java/lang/Enum" "ordinal" "I" (.int (1 : Int32)) := Fld.start ((fld_at ev_REGULAR_FILE).symm.trans (own_eqint (and_e (and_e (and_e (and_e (and_e (and_e (and_e hn).2).2).2).2).2).2).1))
  have hx_BLOCK_DEVICE := (and_e (and_e (and_e (and_e (and_e (and_e (and_e (and_e hn).2).2).2).2).2).2).2).1
  obtain ⟨w_BLOCK_DEVICE, ev_BLOCK_DEVICE⟩ := exa_v hx_BLOCK_DEVICE
  have S_BLOCK_DEVICE : Sta s s.heap "com/example/bounded_policy/boundedpolicy/model/FileType" "BLOCK_DEVICE" "Lcom/example/bounded_policy/boundedpolicy/model/FileType;" (.ref w_BLOCK_DEVICE) := Sta.start ev_BLOCK_DEVICE (Or.inr ⟨(hw _ (List.mem_of_getElem? (i := 5) rfl)), (hw _ (List.mem_of_getElem? (i := 20) rfl))⟩)
  have E_BLOCK_DEVICE : Exa s s.heap w_BLOCK_DEVICE "com/example/bounded_policy/boundedpolicy/model/FileType" := Exa.start ev_BLOCK_DEVICE hx_BLOCK_DEVICE
  have O_BLOCK_DEVICE_ordinal : Fld s s.heap w_BLOCK_DEVICE "java/lang/Enum" "ordinal" "I" (.int (4 : Int32)) := Fld.start ((fld_at ev_BLOCK_DEVICE).symm.trans (own_eqint (and_e (and_e (and_e (and_e (and_e (and_e (and_e (and_e (and_e hn).2).2).2).2).2).2).2).2).1))
  have hx_SOCKET := (and_e (and_e (and_e (and_e (and_e (and_e (and_e (and_e (and_e (and_e (and_e hn).2).2).2).2).2).2).2).2).2).2).1
  obtain ⟨w_SOCKET, ev_SOCKET⟩ := exa_v hx_SOCKET
  have S_SOCKET : Sta s s.heap "com/example/bounded_policy/boundedpolicy/model/FileType" "SOCKET" "Lcom/example/bounded_policy/boundedpolicy/model/FileType;" (.ref w_SOCKET) := Sta.start ev_SOCKET (Or.inr ⟨(hw _ (List.mem_of_getElem? (i := 5) rfl)), (hw _ (List.mem_of_getElem? (i := 22) rfl))⟩)
  have E_SOCKET : Exa s s.heap w_SOCKET "com/example/bounded_policy/boundedpolicy/model/FileType" := Exa.start ev_SOCKET hx_SOCKET
  have O_SOCKET_ordinal : Fld s s.heap w_SOCKET "java/lang/Enum" "ordinal" "I" (.int (5 : Int32)) := Fld.start ((fld_at ev_SOCKET).symm.trans (own_eqint (and_e (and_e (and_e (and_e (and_e (and_e (and_e (and_e (and_e (and_e (and_e (and_e hn).2).2).2).2).2).2).2).2).2).2).2).1))
  have hx_PIPE := (and_e (and_e (and_e (and_e (and_e (and_e (and_e (and_e (and_e (and_e (and_e (and_e (and_e hn).2).2).2).2).2).2).2).2).2).2).2).2).1
  obtain ⟨w_PIPE, ev_PIPE⟩ := exa_v hx_PIPE
  have S_PIPE : Sta s s.heap "com/example/bounded_policy/boundedpolicy/model/FileType" "PIPE" "Lcom/example/bounded_policy/boundedpolicy/model/FileType;" (.ref w_PIPE) := Sta.start ev_PIPE (Or.inr ⟨(hw _ (List.mem_of_getElem? (i := 5) rfl)), (hw _ (List.mem_of_getElem? (i := 24) rfl))⟩)
  have E_PIPE : Exa s s.heap w_PIPE "com/example/bounded_policy/boundedpolicy/model/FileType" := Exa.start ev_PIPE hx_PIPE
  have O_PIPE_ordinal : Fld s s.heap w_PIPE "java/lang/Enum" "ordinal" "I" (.int (7 : Int32)) := Fld.start ((fld_at ev_PIPE).symm.trans (own_eqint (and_e (and_e (and_e (and_e (and_e (and_e (and_e (and_e (and_e (and_e (and_e (and_e (and_e (and_e hn).2).2).2).2).2).2).2).2).2).2).2).2).2).1))
  have hx_DIRECTORY := (and_e (and_e (and_e (and_e (and_e (and_e (and_e (and_e (and_e (and_e (and_e (and_e (and_e (and_e (and_e hn).2).2).2).2).2).2).2).2).2).2).2).2).2).2).1
  obtain ⟨w_DIRECTORY, ev_DIRECTORY⟩ := exa_v hx_DIRECTORY
  have S_DIRECTORY : Sta s s.heap "com/example/bounded_policy/boundedpolicy/model/FileType" "DIRECTORY" "Lcom/example/bounded_policy/boundedpolicy/model/FileType;" (.ref w_DIRECTORY) := Sta.start ev_DIRECTORY (Or.inr ⟨(hw _ (List.mem_of_getElem? (i := 5) rfl)), (hw _ (List.mem_of_getElem? (i := 26) rfl))⟩)
  have E_DIRECTORY : Exa s s.heap w_DIRECTORY "com/example/bounded_policy/boundedpolicy/model/FileType" := Exa.start ev_DIRECTORY hx_DIRECTORY
  have O_DIRECTORY_ordinal : Fld s s.heap w_DIRECTORY "java/lang/Enum" "ordinal" "I" (.int (2 : Int32)) := Fld.start ((fld_at ev_DIRECTORY).symm.trans (own_eqint (and_e (and_e (and_e (and_e (and_e (and_e (and_e (and_e (and_e (and_e (and_e (and_e (and_e (and_e (and_e hn).2).2).2).2).2).2).2).2).2).2).2).2).2).2).2))
  obtain ⟨n, o, h1, h2, h3, _, L, rfl, ⟨rfl, N⟩, hq⟩ := rm0 l s _ hw tables_1 i0 i1 w_ANY w_CHARACTER_DEVICE w_SYMBOLIC_LINK w_REGULAR_FILE w_BLOCK_DEVICE w_SOCKET w_PIPE w_DIRECTORY s.heap s.heap.size (Nat.le_refl _) S_ANY S_CHARACTER_DEVICE S_SYMBOLIC_LINK S_REGULAR_FILE S_BLOCK_DEVICE S_SOCKET S_PIPE S_DIRECTORY E_ANY E_CHARACTER_DEVICE E_SYMBOLIC_LINK E_REGULAR_FILE E_BLOCK_DEVICE E_SOCKET E_PIPE E_DIRECTORY O_ANY_ordinal O_CHARACTER_DEVICE_ordinal O_SYMBOLIC_LINK_ordinal O_REGULAR_FILE_ordinal O_BLOCK_DEVICE_ordinal O_SOCKET_ordinal O_PIPE_ordinal O_DIRECTORY_ordinal p e ha hc hk s m _ below hf ((Spec.applies_iff_loose hf).mp happ).1 ⟨rfl, State.Warmed39.refl s, rfl⟩ trivial
  refine ⟨n, _, h1, h2, h3, hpost _ _ _ _ _ _ ⟨Cond.after_iff.mpr rfl, Cond.after_iff.mpr (eq_i res_at (Term.int_eval (1)) rfl), trivial⟩ ⟨hq.1, hq.2.1, (hq.2.2.sift fun y hy => Or.inr (N y hy)).mono (by decide) (by decide)⟩⟩
theorem main_1_1 : Claimed_1_1 := comes_1 fun _ _ _ _ _ _ h hF => ⟨h.1, hF⟩
theorem main_1_2 : Claimed_1_2 := comes_1 fun _ _ _ _ _ _ h hF => ⟨h.2.1, hF⟩
end Jvm.Pilot.@@N@@
namespace Jvm.Pilot.@@N@@
open Jvm Jvm.ClassFile Sem Op Lib Jvm.Free Jvm.Stand Jvm.Pilot.@@N@@.Jvm.D
/-! MADE BY PROGRAM (witnessworld.py) out of the Statement's table words and the real class files: 12 classes; the members and pool entries that the words name. The judged class is class 1, her method 2. -/
namespace start1
open Jvm.ClassFile
def u (s : String) : CpInfo := .utf8 (stringToUtf16 s)
/-- a pool by its gaps: so many unusable entries, then the entry; so many at the end -/
def gap : Nat → List CpInfo → List CpInfo
  | 0, r => r
  | n + 1, r => .unusable :: gap n r
def poolList (es : List (Nat × CpInfo)) (last : Nat) : List CpInfo := es.foldr (fun e r => gap e.1 (e.2 :: r)) (gap last [])
def pool (es : List (Nat × CpInfo)) (last : Nat) : Array CpInfo := ⟨poolList es last⟩
def fileOf (pool : Array CpInfo) (this : Nat) (attrs : Array Attribute := #[]) (ms : Array MethodInfo := #[]) (fl : Nat := 33) (sup : Nat := 0) (ifs : Array Nat := #[]) (fds : Array FieldInfo := #[]) : ClassFile where
  minorVersion := 0
  majorVersion := 65
  constantPool := pool
  accessFlags := fl
  thisClass := this
  superClass := sup
  interfaces := ifs
  fields := fds
  methods := ms
  attributes := attrs
def plain (name : String) (sup : Option ClassId) : Class where
  name := name
  kind := .ordinary
  loader := none
  accessFlags := 33
  super := sup
  interfaces := #[]
  cf := none
  fields := #[]
  methods := #[]
  instanceTypes := #[]
  staticTypes := #[]
  resolved := #[]
  callSites := []
  init := .initialized
  statics := none
  mirror := none

def pool0 : Array CpInfo := pool [(5, u "<init>"), (0, u "()V"), (1, .class_ 10), (1, u "java/lang/Object")] 113

def k0m0 : Method := { name := "<init>", desc := "()V", sig := { parameters := [], returnType := none }, accessFlags := 1, code := none }
/-- java/lang/Object -/
def k0 : Class := { plain "java/lang/Object" none with
  accessFlags := 33
  interfaces := #[]
  cf := some (fileOf pool0 8 #[] #[{ accessFlags := 1, nameIndex := 5, descriptorIndex := 6, attributes := #[] }] 33 0 #[] #[])
  fields := #[]
  methods := #[k0m0]
  instanceTypes := #[]
  staticTypes := #[]
  resolved := Array.replicate 124 none
  statics := none }

def pool1 : Array CpInfo := pool [(2, .class_ 4), (1, u "java/lang/Object"), (0, u "<init>"), (0, u "()V"), (0, .fieldref 8 9), (0, .class_ 10), (0, .nameAndType 11 12), (0, u "com/example/bounded_policy/boundedpolicy/model/FileType"), (0, u "ANY"), (0, u "Lcom/example/bounded_policy/boundedpolicy/model/FileType;"), (0, .fieldref 8 14), (0, .nameAndType 15 12), (0, u "REGULAR_FILE"), (0, .fieldref 8 17), (0, .nameAndType 18 12), (0, u "DIRECTORY"), (0, .fieldref 8 20), (0, .nameAndType 21 12), (0, u "CHARACTER_DEVICE"), (0, .fieldref 8 23), (0, .nameAndType 24 12), (0, u "BLOCK_DEVICE"), (0, .fieldref 8 26), (0, .nameAndType 27 12), (0, u "SOCKET"), (0, .fieldref 8 29), (0, .nameAndType 30 12), (0, u "SYMBOLIC_LINK"), (0, .fieldref 8 32), (0, .nameAndType 33 12), (0, u "PIPE"), (0, .methodref 35 36), (0, .class_ 37), (0, .nameAndType 38 39), (0, u "com/example/bounded_policy/boundedpolicy/model/FileTypeLabelsPinLaw"), (0, u "pick"), (0, u "(I)Lcom/example/bounded_policy/boundedpolicy/model/FileType;"), (0, .methodref 8 41), (0, .nameAndType 42 43), (0, u "labels"), (0, u "(Lcom/example/bounded_policy/boundedpolicy/model/FileType;)Z"), (3, u "law"), (0, u "(II)Z")] 2

def k1m0 : Method := { name := "<init>", desc := "()V", sig := { parameters := [], returnType := none }, accessFlags := 1, code := none }
def k1c1 : Code := { maxStack := 2, maxLocals := 1, code := method_2_code, exceptionTable := #[], attributes := #[] }
def k1m1 : Method := { name := "pick", desc := "(I)Lcom/example/bounded_policy/boundedpolicy/model/FileType;", sig := { parameters := [.int], returnType := some (.object "com/example/bounded_policy/boundedpolicy/model/FileType") }, accessFlags := 10, code := some k1c1 }
def k1c2 : Code := { maxStack := 2, maxLocals := 7, code := code, exceptionTable := #[], attributes := #[] }
def k1m2 : Method := { name := "law", desc := "(II)Z", sig := { parameters := [.int, .int], returnType := some .boolean }, accessFlags := 9, code := some k1c2 }
/-- com/example/bounded_policy/boundedpolicy/model/FileTypeLabelsPinLaw -/
def k1 : Class := { plain "com/example/bounded_policy/boundedpolicy/model/FileTypeLabelsPinLaw" (some 0) with
  accessFlags := 49
  interfaces := #[]
  cf := some (fileOf pool1 35 #[] #[{ accessFlags := 1, nameIndex := 5, descriptorIndex := 6, attributes := #[] }, { accessFlags := 10, nameIndex := 38, descriptorIndex := 39, attributes := #[] }, { accessFlags := 9, nameIndex := 47, descriptorIndex := 48, attributes := #[] }] 49 2 #[] #[])
  fields := #[]
  methods := #[k1m0, k1m1, k1m2]
  instanceTypes := #[]
  staticTypes := #[]
  resolved := Array.replicate 51 none
  statics := none }

def pool2 : Array CpInfo := pool [(1, .class_ 2), (0, u "java/lang/constant/Constable"), (0, .class_ 4), (0, u "java/lang/Object")] 6

/-- java/lang/constant/Constable -/
def k2 : Class := { plain "java/lang/constant/Constable" (some 0) with
  accessFlags := 1537
  interfaces := #[]
  cf := some (fileOf pool2 1 #[] #[] 1537 3 #[] #[])
  fields := #[]
  methods := #[]
  instanceTypes := #[]
  staticTypes := #[]
  resolved := Array.replicate 11 none
  statics := none }

def pool3 : Array CpInfo := pool [(1, .class_ 2), (0, u "java/lang/Comparable"), (0, .class_ 4), (0, u "java/lang/Object")] 7

/-- java/lang/Comparable -/
def k3 : Class := { plain "java/lang/Comparable" (some 0) with
  accessFlags := 1537
  interfaces := #[]
  cf := some (fileOf pool3 1 #[] #[] 1537 3 #[] #[])
  fields := #[]
  methods := #[]
  instanceTypes := #[]
  staticTypes := #[]
  resolved := Array.replicate 12 none
  statics := none }

def pool4 : Array CpInfo := pool [(1, .class_ 2), (0, u "java/io/Serializable"), (0, .class_ 4), (0, u "java/lang/Object")] 2

/-- java/io/Serializable -/
def k4 : Class := { plain "java/io/Serializable" (some 0) with
  accessFlags := 1537
  interfaces := #[]
  cf := some (fileOf pool4 1 #[] #[] 1537 3 #[] #[])
  fields := #[]
  methods := #[]
  instanceTypes := #[]
  staticTypes := #[]
  resolved := Array.replicate 7 none
  statics := none }

def pool5 : Array CpInfo := pool [(2, .class_ 4), (1, u "java/lang/Enum"), (0, u "name"), (0, u "Ljava/lang/String;"), (2, u "ordinal"), (0, u "I"), (1, .class_ 14), (1, u "java/lang/Object"), (4, u "hash"), (86, .class_ 108), (1, u "java/lang/Enum$EnumDesc"), (2, .class_ 112), (0, u "java/lang/constant/Constable"), (0, .class_ 114), (0, u "java/lang/Comparable"), (0, .class_ 116), (0, u "java/io/Serializable")] 87

/-- java/lang/Enum -/
def k5 : Class := { plain "java/lang/Enum" (some 0) with
  accessFlags := 1057
  interfaces := #[2, 3, 4]
  cf := some (fileOf pool5 2 #[.nestMembers #[106]] #[] 1057 12 #[111, 113, 115] #[{ accessFlags := 18, nameIndex := 5, descriptorIndex := 6, attributes := #[] }, { accessFlags := 18, nameIndex := 9, descriptorIndex := 10, attributes := #[] }, { accessFlags := 2, nameIndex := 19, descriptorIndex := 10, attributes := #[] }])
  fields := #[{ name := "name", type := (.object "java/lang/String"), accessFlags := 18, slot := 0, constantValue := 0 }, { name := "ordinal", type := .int, accessFlags := 18, slot := 1, constantValue := 0 }, { name := "hash", type := .int, accessFlags := 2, slot := 2, constantValue := 0 }]
  methods := #[]
  instanceTypes := #[(.object "java/lang/String"), .int, .int]
  staticTypes := #[]
  resolved := Array.replicate 204 none
  statics := none }

def pool6 : Array CpInfo := pool [(1, .class_ 2), (0, u "com/example/bounded_policy/boundedpolicy/model/FileType"), (0, .fieldref 1 4), (0, .nameAndType 5 6), (0, u "ANY"), (0, u "Lcom/example/bounded_policy/boundedpolicy/model/FileType;"), (2, u "REGULAR_FILE"), (2, u "DIRECTORY"), (2, u "CHARACTER_DEVICE"), (2, u "BLOCK_DEVICE"), (2, u "SOCKET"), (2, u "SYMBOLIC_LINK"), (2, u "PIPE"), (2, u "$VALUES"), (0, u "[Lcom/example/bounded_policy/boundedpolicy/model/FileType;"), (6, .class_ 40), (1, u "java/lang/Enum"), (62, u "labels"), (0, u "(Lcom/example/bounded_policy/boundedpolicy/model/FileType;)Z")] 4

def k6c0 : Code := { maxStack := 2, maxLocals := 2, code := prog_31_method_5_code, exceptionTable := #[], attributes := #[] }
def k6m0 : Method := { name := "labels", desc := "(Lcom/example/bounded_policy/boundedpolicy/model/FileType;)Z", sig := { parameters := [(.object "com/example/bounded_policy/boundedpolicy/model/FileType")], returnType := some .boolean }, accessFlags := 1, code := some k6c0 }
/-- com/example/bounded_policy/boundedpolicy/model/FileType -/
def k6 : Class := { plain "com/example/bounded_policy/boundedpolicy/model/FileType" (some 5) with
  accessFlags := 16433
  interfaces := #[]
  cf := some (fileOf pool6 1 #[] #[{ accessFlags := 1, nameIndex := 103, descriptorIndex := 104, attributes := #[] }] 16433 38 #[] #[{ accessFlags := 16409, nameIndex := 5, descriptorIndex := 6, attributes := #[] }, { accessFlags := 16409, nameIndex := 9, descriptorIndex := 6, attributes := #[] }, { accessFlags := 16409, nameIndex := 12, descriptorIndex := 6, attributes := #[] }, { accessFlags := 16409, nameIndex := 15, descriptorIndex := 6, attributes := #[] }, { accessFlags := 16409, nameIndex := 18, descriptorIndex := 6, attributes := #[] }, { accessFlags := 16409, nameIndex := 21, descriptorIndex := 6, attributes := #[] }, { accessFlags := 16409, nameIndex := 24, descriptorIndex := 6, attributes := #[] }, { accessFlags := 16409, nameIndex := 27, descriptorIndex := 6, attributes := #[] }, { accessFlags := 4122, nameIndex := 30, descriptorIndex := 31, attributes := #[] }])
  fields := #[{ name := "ANY", type := (.object "com/example/bounded_policy/boundedpolicy/model/FileType"), accessFlags := 16409, slot := 0, constantValue := 0 }, { name := "REGULAR_FILE", type := (.object "com/example/bounded_policy/boundedpolicy/model/FileType"), accessFlags := 16409, slot := 1, constantValue := 0 }, { name := "DIRECTORY", type := (.object "com/example/bounded_policy/boundedpolicy/model/FileType"), accessFlags := 16409, slot := 2, constantValue := 0 }, { name := "CHARACTER_DEVICE", type := (.object "com/example/bounded_policy/boundedpolicy/model/FileType"), accessFlags := 16409, slot := 3, constantValue := 0 }, { name := "BLOCK_DEVICE", type := (.object "com/example/bounded_policy/boundedpolicy/model/FileType"), accessFlags := 16409, slot := 4, constantValue := 0 }, { name := "SOCKET", type := (.object "com/example/bounded_policy/boundedpolicy/model/FileType"), accessFlags := 16409, slot := 5, constantValue := 0 }, { name := "SYMBOLIC_LINK", type := (.object "com/example/bounded_policy/boundedpolicy/model/FileType"), accessFlags := 16409, slot := 6, constantValue := 0 }, { name := "PIPE", type := (.object "com/example/bounded_policy/boundedpolicy/model/FileType"), accessFlags := 16409, slot := 7, constantValue := 0 }, { name := "$VALUES", type := (.array (.object "com/example/bounded_policy/boundedpolicy/model/FileType")), accessFlags := 4122, slot := 8, constantValue := 0 }]
  methods := #[k6m0]
  instanceTypes := #[(.object "java/lang/String"), .int, .int]
  staticTypes := #[(.object "com/example/bounded_policy/boundedpolicy/model/FileType"), (.object "com/example/bounded_policy/boundedpolicy/model/FileType"), (.object "com/example/bounded_policy/boundedpolicy/model/FileType"), (.object "com/example/bounded_policy/boundedpolicy/model/FileType"), (.object "com/example/bounded_policy/boundedpolicy/model/FileType"), (.object "com/example/bounded_policy/boundedpolicy/model/FileType"), (.object "com/example/bounded_policy/boundedpolicy/model/FileType"), (.object "com/example/bounded_policy/boundedpolicy/model/FileType"), (.array (.object "com/example/bounded_policy/boundedpolicy/model/FileType"))]
  resolved := Array.replicate 109 none
  statics := some 0 }

def pool7 : Array CpInfo := pool [(1, u "java/lang/Cloneable"), (0, .class_ 1), (0, u "java/lang/Object"), (0, .class_ 3)] 3

/-- java/lang/Cloneable -/
def k7 : Class := { plain "java/lang/Cloneable" (some 0) with
  accessFlags := 1537
  interfaces := #[]
  cf := some (fileOf pool7 2 #[] #[] 1537 4 #[] #[])
  fields := #[]
  methods := #[]
  instanceTypes := #[]
  staticTypes := #[]
  resolved := Array.replicate 8 none
  statics := none }

/-- the primitive byte -/
def k8 : Class := { plain "byte" none with kind := .primitive 'B', accessFlags := 0x411 }
/-- [B -/
def k9 : Class := { plain "[B" (some 0) with kind := .array 8 .byte, interfaces := #[7, 4], accessFlags := 1041 }

/-- the primitive int -/
def k10 : Class := { plain "int" none with kind := .primitive 'I', accessFlags := 0x411 }
/-- [I -/
def k11 : Class := { plain "[I" (some 0) with kind := .array 10 .int, interfaces := #[7, 4], accessFlags := 1041 }

def heap : Heap := #[{ cls := 6, slots := #[.ref 1, .ref 4, .ref 8, .ref 2, .ref 5, .ref 6, .ref 3, .ref 7, .null], vm := .statics 6 },
  { cls := 6, slots := #[.null, .int 0, .int 0], vm := .none },
  { cls := 6, slots := #[.null, .int 3, .int 0], vm := .none },
  { cls := 6, slots := #[.null, .int 6, .int 0], vm := .none },
  { cls := 6, slots := #[.null, .int 1, .int 0], vm := .none },
  { cls := 6, slots := #[.null, .int 4, .int 0], vm := .none },
  { cls := 6, slots := #[.null, .int 5, .int 0], vm := .none },
  { cls := 6, slots := #[.null, .int 7, .int 0], vm := .none },
  { cls := 6, slots := #[.null, .int 2, .int 0], vm := .none }]
def classes : Array Class := #[k0, k1, k2, k3, k4, k5, k6, k7, k8, k9, k10, k11]
def interned : List (Array UInt16 × Addr) := []
def slotsUsed : Nat := 33
def theMethod : MethodId := ⟨1, 2⟩
def args0 : Array Value := #[.int 5, .int 8]
def aboutOver (below : List Frame) : State where
  vm := { classes := classes, interned := interned.toArray }
  heap := heap
  slotsUsed := slotsUsed
  threads := #[{ frames := .invoking theMethod args0 :: below }]
def below0 : List Frame := [.native { method := ⟨0, 0⟩, args := #[] }]
def about1 : State := aboutOver below0
def p0 : Program := .bare "" "" ""
def e0 : Env := launch0.env 0 0 0
theorem w_frames : about1.frames = Frame.invoking theMethod args0 :: below0 := rfl
set_option maxRecDepth 65536 in
theorem w_args : argsFit about1.vm theMethod args0 = true := by decide +kernel
set_option maxRecDepth 65536 in
theorem w_heap : heapFits about1 = true := by decide +kernel
set_option maxRecDepth 65536 in
theorem w_runnable : about1.curStatus? = some .runnable := by decide +kernel
set_option maxRecDepth 65536 in
theorem w_alone : about1.alone = true := by decide +kernel
set_option maxRecDepth 65536 in
theorem w_named : about1.methodNamed? x = some theMethod := by decide +kernel
set_option maxRecDepth 65536 in
theorem w_hears : about1.hears theMethod below0 = true := by decide +kernel
set_option maxRecDepth 65536 in
theorem w_ripe : about1.ripe theMethod args0 below0 = true := by decide +kernel
theorem w_running : about1.status = .running := rfl
set_option maxRecDepth 65536 in
theorem w_room : about1.hasRoom e0.platform room_1 = true :=
  launch0.hasRoom_least _ room_1 (by decide +kernel) (by decide +kernel) (by decide +kernel) (by decide +kernel) (by decide +kernel) (by decide +kernel)
theorem allAtoms_all (ts : List Jvm.Cond) (a : Array Jvm.Value) (st : Jvm.State) : (allAtoms ts).before a st = ts.all (fun c => c.before a st) := by
  induction ts with
  | nil => rfl
  | cons c t ih =>
    show (Jvm.Cond.and c (allAtoms t)).before a st = _
    rw [Jvm.Cond.before_and, ih, List.all_cons]
def words1 : List Jvm.Cond := Jvm.Cond.code x code maxLocals ret :: tables_1
/-- a 'code' word, met by the world's own term for the bytes: nothing is compared byte by byte -/
theorem code_word {y : MethodName} {bytes : ByteArray} {mx : Nat} {rt : Option FieldType} {a : Array Value} {s : State} {m : MethodId} {meth : Method} {c : Code} (h1 : s.methodNamed? y = some m) (h2 : s.vm.method? m = some meth) (h3 : meth.code = some c) (h4 : c.code = bytes)
    (h5 : (c.maxLocals == mx && c.exceptionTable.isEmpty && decide (c.maxStack ≤ mostOperands) && decide (meth.sig.returnType = rt) && !meth.locks && decide (parseMethodDescriptor y.desc = some meth.sig)) = true) : (Jvm.Cond.code y bytes mx rt).before a s = true := by
  simp only [Bool.and_eq_true, beq_iff_eq, Bool.not_eq_true', decide_eq_true_eq] at h5
  obtain ⟨⟨⟨⟨⟨g1, g2⟩, g3⟩, g4⟩, g5⟩, g6⟩ := h5
  simp [Cond.before, Cond.holds, Cond.value, h1, h2, h3, h4, g1, g2, g3, g4, g5, g6]
def isCode : Jvm.Cond → Bool
  | .code _ _ _ _ => true
  | _ => false
theorem all_split {L : List Jvm.Cond} {P : Jvm.Cond → Bool} (h1 : L.all (fun c => isCode c || P c) = true) (h2 : ∀ c ∈ L.filter isCode, P c = true) : L.all P = true := by
  refine List.all_eq_true.mpr fun c hc => ?_
  have h := List.all_eq_true.mp h1 c hc
  rcases Bool.eq_false_or_eq_true (isCode c) with hi | hi
  · exact h2 c (List.mem_filter.mpr ⟨hc, hi⟩)
  · simpa [hi] using h
set_option maxRecDepth 65536 in
theorem w_c0 : (Jvm.Cond.code x code maxLocals ret).before args0 about1 = true := code_word (m := ⟨1, 2⟩) (meth := k1m2) (c := k1c2) (by decide +kernel) rfl rfl rfl (by decide +kernel)
set_option maxRecDepth 65536 in
theorem w_c1 : (Jvm.Cond.code ({ cls := "com/example/bounded_policy/boundedpolicy/model/FileTypeLabelsPinLaw", name := "pick", desc := "(I)Lcom/example/bounded_policy/boundedpolicy/model/FileType;" } : Jvm.MethodName) method_2_code (1 : Nat) (Option.some (Jvm.ClassFile.FieldType.object "com/example/bounded_policy/boundedpolicy/model/FileType"))).before args0 about1 = true := code_word (m := ⟨1, 1⟩) (meth := k1m1) (c := k1c1) (by decide +kernel) rfl rfl rfl (by decide +kernel)
set_option maxRecDepth 65536 in
theorem w_c2 : (Jvm.Cond.code ({ cls := "com/example/bounded_policy/boundedpolicy/model/FileType", name := "labels", desc := "(Lcom/example/bounded_policy/boundedpolicy/model/FileType;)Z" } : Jvm.MethodName) prog_31_method_5_code (2 : Nat) (Option.some Jvm.ClassFile.FieldType.boolean)).before args0 about1 = true := code_word (m := ⟨6, 0⟩) (meth := k6m0) (c := k6c0) (by decide +kernel) rfl rfl rfl (by decide +kernel)
def codes1 : List Jvm.Cond := [Jvm.Cond.code x code maxLocals ret, Jvm.Cond.code ({ cls := "com/example/bounded_policy/boundedpolicy/model/FileTypeLabelsPinLaw", name := "pick", desc := "(I)Lcom/example/bounded_policy/boundedpolicy/model/FileType;" } : Jvm.MethodName) method_2_code (1 : Nat) (Option.some (Jvm.ClassFile.FieldType.object "com/example/bounded_policy/boundedpolicy/model/FileType")), Jvm.Cond.code ({ cls := "com/example/bounded_policy/boundedpolicy/model/FileType", name := "labels", desc := "(Lcom/example/bounded_policy/boundedpolicy/model/FileType;)Z" } : Jvm.MethodName) prog_31_method_5_code (2 : Nat) (Option.some Jvm.ClassFile.FieldType.boolean)]
set_option maxRecDepth 65536 in
theorem codes_eq : words1.filter isCode = codes1 := rfl
theorem w_codes : ∀ c ∈ words1.filter isCode, c.before args0 about1 = true := by
  rw [codes_eq]
  intro c hc
  simp only [codes1, List.mem_cons, List.not_mem_nil, or_false] at hc
  rcases hc with rfl | rfl | rfl
  · exact w_c0
  · exact w_c1
  · exact w_c2
set_option maxRecDepth 65536 in
theorem w_t1 : (words1.take 24).all (fun c => isCode c || c.before args0 about1) = true := by decide +kernel
set_option maxRecDepth 65536 in
theorem w_t2 : (words1.drop 24).all (fun c => isCode c || c.before args0 about1) = true := by decide +kernel
theorem w_tables : (allAtoms (Jvm.Cond.code x code maxLocals ret :: tables_1)).before args0 about1 = true := by
  rw [allAtoms_all]
  show words1.all (fun c => c.before args0 about1) = true
  refine all_split ?_ w_codes
  rw [← List.take_append_drop 24 words1, List.all_append, w_t1, w_t2]
  rfl
set_option maxRecDepth 65536 in
theorem w_case : (Jvm.Cond.and given_1 narrow_1).before args0 about1 = true := by decide +kernel
theorem w_applies : (headSpec (Jvm.Cond.code x code maxLocals ret :: tables_1) room_1).applies x e0.platform about1 = true :=
  (Spec.applies_iff w_frames).mpr ⟨w_running, w_runnable, w_alone, w_named, w_hears, w_ripe, w_room, w_tables⟩
theorem atStart : AtStart classFile x code maxLocals ret World_1 tables_1 room_1 Calls_1 rest_1 Pre_1 launch0 p0 e0 about1 theMethod args0 below0 :=
  ⟨lists_1, trivial, launch0.admits_env _ _ _, launch0.least_env, fairChoices_fair.cas, fairChoices_fair.clock, w_frames, w_args, w_heap, w_applies, trivial, trivial, w_case⟩
end start1
theorem witness_1 : WitnessClaimed_1 := ⟨start1.p0, start1.e0, start1.about1, start1.theMethod, start1.args0, start1.below0, start1.atStart⟩
end Jvm.Pilot.@@N@@
