import JvmDerived
import JvmDerived.Pilot.@@N@@Statement
import JvmDerived.Pilot.@@N@@Code
set_option linter.unusedVariables false
set_option linter.unusedSimpArgs false
namespace Jvm.RoadKit
open Sem ClassFile Op Lib Jvm.Stand Jvm.Free Jvm.LawKit
section New
variable {p : Program} {l : Launch} {e : Env} {R : Room} {s : State} {m : MethodId} {args : Array Value} {below : List Frame} {meth : Method} {c : Code} {T : State} {locs : List Loc} {cells slots : Nat}
theorem own_retV (X : Stand p l e R s m args below meth c T locs cells slots) (hx : p.tables.exec = Jvm.exec) {pc : Nat} {Ls : Array Slot} {w : Value} {rest : List Value} {t : FieldType} (hret : meth.sig.returnType = some t) (ht : t.isReference = true) (hw : w.isRef = true)
    (hd : decode c.code pc = .ok (.areturn, 1)) {fs : List Frame} (hl : ∀ (f : JFrame) (acts : List Action), f.method = m → f.locked = none → f.entered = [] → (doReturn e (T.setTop f) acts (some w)).1 = T.setFrames fs) :
    Steps p.tables e below (T.setTop (mkF m pc Ls (w :: rest))) (T.setFrames fs) :=
  retOut X hx hret (by cases t <;> first | rfl | cases ht) (Or.inr (Or.inr (Or.inr (Or.inr ⟨rfl, ht, hw⟩)))) hd hl
theorem own_retI (X : Stand p l e R s m args below meth c T locs cells slots) (hx : p.tables.exec = Jvm.exec) {pc : Nat} {Ls : Array Slot} {z : Int32} {rest : List Value} (hret : meth.sig.returnType = some .int)
    (hd : decode c.code pc = .ok (.ireturn, 1)) {fs : List Frame} (hl : ∀ (f : JFrame) (acts : List Action), f.method = m → f.locked = none → f.entered = [] → (doReturn e (T.setTop f) acts (some (.int z))).1 = T.setFrames fs) :
    Steps p.tables e below (T.setTop (mkF m pc Ls (.int z :: rest))) (T.setFrames fs) :=
  retOut X hx hret rfl (Or.inl ⟨rfl, Or.inl rfl, z, rfl⟩) hd hl
theorem own_retL (X : Stand p l e R s m args below meth c T locs cells slots) (hx : p.tables.exec = Jvm.exec) {pc : Nat} {Ls : Array Slot} {z : Int64} {rest : List Value} (hret : meth.sig.returnType = some .long)
    (hd : decode c.code pc = .ok (.lreturn, 1)) {fs : List Frame} (hl : ∀ (f : JFrame) (acts : List Action), f.method = m → f.locked = none → f.entered = [] → (doReturn e (T.setTop f) acts (some (.long z))).1 = T.setFrames fs) :
    Steps p.tables e below (T.setTop (mkF m pc Ls (.long z :: rest))) (T.setFrames fs) :=
  retOut X hx hret rfl (Or.inr (Or.inl ⟨rfl, rfl, z, rfl⟩)) hd hl
theorem own_go {tb : Tables} {e : Env} {below : List Frame} {A A' : State} {P : State → Outcome → Prop} (st : ∀ t, Steps tb e below A' t → Steps tb e below A t) (h : ∃ s₂ o, Steps tb e below A' s₂ ∧ P s₂ o) : ∃ s₂ o, Steps tb e below A s₂ ∧ P s₂ o :=
  let ⟨s₂, o, h1, h2⟩ := h
  ⟨s₂, o, st _ h1, h2⟩
theorem own_fld_inj {Z : State} {h : Heap} {a : Addr} {C n d : String} {v w : Value} (F : Fld Z h a C n d v) (G : Fld Z h a C n d w) : v = w := by
  obtain ⟨c1, cf1, k1, i1, f1, p1, p2, -, -, -, -, p5⟩ := F
  obtain ⟨c2, cf2, k2, i2, f2, q1, q2, -, -, -, -, q5⟩ := G
  rw [p1] at q1; cases q1
  rw [p2] at q2; cases q2
  have := p5.symm.trans q5
  simpa using this
theorem own_fld_ne {Z : State} {h : Heap} {a b : Addr} {C n d : String} {i j : Int32} (F : Fld Z h a C n d (.int i)) (G : Fld Z h b C n d (.int j)) (hij : ¬ i = j) : ¬ a = b := fun q => by
  subst q
  exact hij (Value.int.inj (own_fld_inj F G))
theorem own_keep_ext {h h' : Heap} (K : Keep h h' []) : Ext h h' := ⟨K.1, fun a c q => K.2.1 a c q nin0⟩
theorem own_sta_keep {Z : State} {h h' : Heap} {C n d K : String} {v : Value} {a : Addr} (F : Sta Z h C n d v) (k : Keep h h' [a]) (E : Exa Z h a K) : Sta Z h' C n d v := by
  obtain ⟨cf, i, kk, f, st, cell, h1, h2, h3, h4, h5, h6, h7⟩ := F
  refine ⟨cf, i, kk, f, st, cell, h1, h2, h3, h4, k.2.1 _ _ h5 (ninS (fun q => ?_) nin0), h6, h7⟩
  obtain ⟨cell', k', g1, -, -, g4, -⟩ := E
  subst q
  cases h5.symm.trans g1
  rw [h6] at g4; cases g4
theorem own_ext_trans {h h' h'' : Heap} (E : Ext h h') (F : Ext h' h'') : Ext h h'' := ⟨Nat.le_trans E.1 F.1, fun a c q => F.2 a c (E.2 a c q)⟩
theorem own_ext_keep {h h' h'' : Heap} {ws : List Addr} (E : Ext h h') (K : Keep h' h'' ws) (q : ∀ x ∈ ws, h.size ≤ x) : Ext h h'' :=
  ⟨Nat.le_trans E.1 K.1, fun a c r => K.2.1 a c (E.2 a c r) fun z => absurd (Array.getElem?_eq_some_iff.mp r).1 (Nat.not_lt.mpr (q a z))⟩
theorem own_ext_wr {h h' h'' : Heap} {b : Addr} {sl : Nat} {v : Value} (E : Ext h h') (W : Wr h' h'' b sl v) (q : h.size ≤ b) : Ext h h'' :=
  own_ext_keep E (Keep.of_wr W) fun x hx => by cases List.mem_singleton.mp hx; exact q
end New
end Jvm.RoadKit
namespace Jvm.Pilot.@@N@@
open Jvm Jvm.ClassFile Sem Op Lib Jvm.Free Jvm.Stand Jvm.LawKit Jvm.RoadKit Bundle Jvm.Pilot.@@N@@.Jvm.D
open Jvm.FP.Core in
theorem own_v4 : val64 (4616189618054758400 : UInt64) = .fin false (2 ^ 52) (-50) := by decide +kernel
open Jvm.FP.Core in
theorem own_v6 : val64 (4618441417868443648 : UInt64) = .fin false (3 * 2 ^ 51) (-50) := by decide +kernel
open Jvm.FP.Core in
theorem own_v1 : val64 (4609434218613702656 : UInt64) = .fin false (3 * 2 ^ 51) (-52) := by decide +kernel
open Jvm.FP.Core in
theorem own_fit {s : Bool} {n k : Nat} {q : Int} (h1 : 2 ^ k ≤ n) (h2 : n < 2 ^ (k + 1)) (hk : k ≤ 31) (hq1 : -60 ≤ q) (hq2 : q ≤ 60) : Jvm.FP.Core.fits b64 (.fin s (n * 2 ^ (52 - k)) q) := by
  refine ⟨?_, ?_, ?_, Or.inr ?_⟩
  · show n * 2 ^ (52 - k) < 2 ^ 53
    calc n * 2 ^ (52 - k) < 2 ^ (k + 1) * 2 ^ (52 - k) := Nat.mul_lt_mul_of_pos_right h2 (Nat.two_pow_pos _)
      _ = 2 ^ 53 := by rw [← Nat.pow_add]; congr 1; omega
  · show b64.qmin ≤ q
    have : b64.qmin = -1074 := by decide
    omega
  · show q ≤ b64.qmax
    have : b64.qmax = 971 := by decide
    omega
  · show 2 ^ 52 ≤ n * 2 ^ (52 - k)
    calc 2 ^ 52 = 2 ^ k * 2 ^ (52 - k) := by rw [← Nat.pow_add]; congr 1; omega
      _ ≤ n * 2 ^ (52 - k) := Nat.mul_le_mul_right _ h1
open Jvm.FP.Core in
theorem own_quotient (f : Fmt) (s t : Bool) (c d : Nat) (q r : Int) : quotient f (.fin s c q) (.fin t d r) = (if d = 0 then (if c = 0 then .nan else .inf (s != t)) else roundRatio f (s != t) c d (q - r)) := rfl
open Jvm.FP.Core in
theorem own_quot (a : Int32) (h : a.toInt ≠ 0) : val64 (ddiv (i2d a) (4616189618054758400 : UInt64)) = .fin (decide (a.toInt < 0)) (a.toInt.natAbs * 2 ^ (52 - a.toInt.natAbs.log2)) ((a.toInt.natAbs.log2 : Int) - 54) := by
  have hn : a.toInt.natAbs ≠ 0 := by omega
  have r := rng32 a
  have h1 : 2 ^ a.toInt.natAbs.log2 ≤ a.toInt.natAbs := Nat.log2_self_le hn
  have h2 : a.toInt.natAbs < 2 ^ (a.toInt.natAbs.log2 + 1) := Nat.lt_log2_self
  have hk : a.toInt.natAbs.log2 ≤ 31 := by
    have : a.toInt.natAbs < 2 ^ 32 := by omega
    have := (Nat.log2_lt hn).mpr this
    omega
  rw [val64_ddiv, val64_i2d, own_v4]
  generalize a.toInt.natAbs.log2 = k at *
  have e1 : round b64 (ofInt a.toInt) = .fin (decide (a.toInt < 0)) (a.toInt.natAbs * 2 ^ (52 - k)) ((k : Int) - 52) := by
    show roundRatio b64 (decide (a.toInt < 0)) a.toInt.natAbs 1 0 = _
    refine roundRatio_exact good_b64 (by decide) (own_fit h1 h2 hk (by omega) (by omega)) ?_
    have q1 : ((0 : Int) - ((k : Int) - 52)).toNat = 52 - k := by omega
    have q2 : ((k : Int) - 52 - 0).toNat = 0 := by omega
    rw [q1, q2]; simp
  rw [e1]
  rw [own_quotient, if_neg (by decide), show (decide (a.toInt < 0) != false) = decide (a.toInt < 0) from by simp]
  refine roundRatio_exact good_b64 (by decide) (own_fit h1 h2 hk (by omega) (by omega)) ?_
  have q1 : ((k : Int) - 52 - (-50) - ((k : Int) - 54)).toNat = 52 := by omega
  have q2 : ((k : Int) - 54 - ((k : Int) - 52 - (-50))).toNat = 0 := by omega
  rw [q1, q2]; simp
open Jvm.FP.Core in
theorem own_quot0 (a : Int32) (h : a.toInt = 0) : val64 (ddiv (i2d a) (4616189618054758400 : UInt64)) = .fin false 0 b64.qmin := by
  rw [val64_ddiv, val64_i2d, own_v4, h]
  decide +kernel
open Jvm.FP.Core in
theorem own_pows (k : Nat) (hk : k ≤ 31) (x m : Int) (j : Nat) (h1 : m ≤ x) (h2 : m ≤ (k : Int) - 54) (hj : (51 : Int) + x = (j : Int) + (52 - k) + ((k : Int) - 54)) : (2 ^ 51 * 2 ^ (x - m).toNat : Nat) = 2 ^ j * (2 ^ (52 - k) * 2 ^ ((k : Int) - 54 - m).toNat) := by
  rw [← Nat.pow_add, ← Nat.pow_add, ← Nat.pow_add]
  congr 1
  omega
theorem own_cmp (A B K : Int) (hK : 0 < K) : compare (A * K) (B * K) = compare A B := by
  rcases Int.lt_trichotomy A B with h | h | h
  · rw [Int.compare_eq_lt.mpr h, Int.compare_eq_lt.mpr (Int.mul_lt_mul_of_pos_right h hK)]
  · rw [h, Int.compare_eq_eq.mpr rfl, Int.compare_eq_eq.mpr rfl]
  · rw [Int.compare_eq_gt.mpr h, Int.compare_eq_gt.mpr (Int.mul_lt_mul_of_pos_right h hK)]
theorem own_signed (z : Int) : Jvm.FP.Core.signed (decide (z < 0)) z.natAbs = z := by
  by_cases h : z < 0
  · rw [decide_eq_true h]; show -(z.natAbs : Int) = z; omega
  · rw [decide_eq_false h]; show (z.natAbs : Int) = z; omega
/-- a / 4.0 against 3 * 2 ^ 51 * 2 ^ x, which is 3 * 2 ^ j quarters -/
theorem own_ord (a : Int32) (y : UInt64) (x : Int) (j : Nat) (hy : Jvm.FP.Core.val64 y = .fin false (3 * 2 ^ 51) x) (hj : (51 : Int) + x = (j : Int) - 2) :
    Jvm.FP.dcmp (Jvm.FP.ddiv (Jvm.FP.i2d a) (4616189618054758400 : UInt64)) y = some (compare a.toInt ((3 * 2 ^ j : Nat) : Int)) := by
  show Jvm.FP.Core.order (Jvm.FP.Core.val64 _) (Jvm.FP.Core.val64 y) = _
  rw [hy]
  by_cases h : a.toInt = 0
  · rw [own_quot0 a h, h]
    have e : Jvm.FP.Core.b64.qmin = -1074 := by decide
    show some (compare (Jvm.FP.Core.signed false (0 * 2 ^ (Jvm.FP.Core.b64.qmin - min Jvm.FP.Core.b64.qmin x).toNat)) (Jvm.FP.Core.signed false (3 * 2 ^ 51 * 2 ^ (x - min Jvm.FP.Core.b64.qmin x).toNat))) = _
    rw [Nat.zero_mul]
    have p1 : (0 : Int) < ((3 * 2 ^ j : Nat) : Int) := Int.natCast_pos.mpr (Nat.mul_pos (by decide) (Nat.two_pow_pos _))
    have p2 : 0 < 3 * 2 ^ 51 * 2 ^ (x - min Jvm.FP.Core.b64.qmin x).toNat := Nat.mul_pos (by decide) (Nat.two_pow_pos _)
    generalize 3 * 2 ^ 51 * 2 ^ (x - min Jvm.FP.Core.b64.qmin x).toNat = w at p2
    congr 1
    rw [show Jvm.FP.Core.signed false 0 = 0 from rfl, show Jvm.FP.Core.signed false w = (w : Int) from rfl, Int.compare_eq_lt.mpr p1, Int.compare_eq_lt.mpr (by omega)]
  · rw [own_quot a h]
    have hk : a.toInt.natAbs.log2 ≤ 31 := by
      have r := rng32 a
      have := (Nat.log2_lt (n := a.toInt.natAbs) (k := 32) (by omega)).mpr (by omega)
      omega
    generalize a.toInt.natAbs.log2 = k at hk
    show some (compare (Jvm.FP.Core.signed (decide (a.toInt < 0)) (a.toInt.natAbs * 2 ^ (52 - k) * 2 ^ ((k : Int) - 54 - min ((k : Int) - 54) x).toNat)) (Jvm.FP.Core.signed false (3 * 2 ^ 51 * 2 ^ (x - min ((k : Int) - 54) x).toNat))) = _
    rw [Nat.mul_assoc 3, own_pows k hk x (min ((k : Int) - 54) x) j (by omega) (by omega) (by omega), Nat.mul_assoc, ← Nat.mul_assoc 3, Jvm.FP.Core.signed_mul, own_signed]
    have hK : 0 < 2 ^ (52 - k) * 2 ^ ((k : Int) - 54 - min ((k : Int) - 54) x).toNat := Nat.mul_pos (Nat.two_pow_pos _) (Nat.two_pow_pos _)
    generalize 2 ^ (52 - k) * 2 ^ ((k : Int) - 54 - min ((k : Int) - 54) x).toNat = K at hK
    rw [show Jvm.FP.Core.signed false (3 * 2 ^ j * K) = ((3 * 2 ^ j : Nat) : Int) * (K : Int) from Int.natCast_mul _ _, own_cmp _ _ _ (by omega)]
def cr (x y : UInt64) : Int32 := if (cmpValue (FP.dcmp x y) .g) < (0 : Int32) then 1 else 0
theorem own_cr {a : Int32} {x y : UInt64} {n : Int} (h : FP.dcmp x y = some (compare a.toInt n)) : cr x y = (if a.toInt < n then 1 else 0) := by
  rw [cr, h]
  rcases Int.lt_trichotomy a.toInt n with q | q | q
  · rw [Int.compare_eq_lt.mpr q, if_pos q]; rfl
  · rw [Int.compare_eq_eq.mpr q, if_neg (show ¬ a.toInt < n by omega)]; rfl
  · rw [Int.compare_eq_gt.mpr q, if_neg (show ¬ a.toInt < n by omega)]; rfl
theorem own_cr6 (a : Int32) : cr (FP.ddiv (FP.i2d a) (4616189618054758400 : UInt64)) (4618441417868443648 : UInt64) = (if a < (24 : Int32) then 1 else 0) := by
  rw [own_cr (own_ord a _ (-50) 3 own_v6 (by decide))]
  have e : (24 : Int32).toInt = 24 := by decide
  by_cases q : a < (24 : Int32)
  · rw [if_pos q, if_pos (by rw [Int32.lt_iff_toInt_lt, e] at q; exact q)]
  · rw [if_neg q, if_neg (by rw [Int32.lt_iff_toInt_lt, e] at q; exact q)]
theorem own_cr1 (a : Int32) : cr (FP.ddiv (FP.i2d a) (4616189618054758400 : UInt64)) (4609434218613702656 : UInt64) = (if a < (6 : Int32) then 1 else 0) := by
  rw [own_cr (own_ord a _ (-52) 1 own_v1 (by decide))]
  have e : (6 : Int32).toInt = 6 := by decide
  by_cases q : a < (6 : Int32)
  · rw [if_pos q, if_pos (by rw [Int32.lt_iff_toInt_lt, e] at q; exact q)]
  · rw [if_neg q, if_neg (by rw [Int32.lt_iff_toInt_lt, e] at q; exact q)]
theorem own_nonan (a : Int32) : Jvm.Free.Fl.NoNaN64 (FP.ddiv (FP.i2d a) (4616189618054758400 : UInt64)) := (Jvm.Free.Fl.dcmp_some (own_ord a _ (-50) 3 own_v6 (by decide))).1
theorem own_eqdbl {t : Term} {k : Int64} {args : Array Value} {first s : State} {o : Option Outcome} {idx : List Nat} (h : (Jvm.Cond.eq t (.op1 .bitsD (.long k))).value args first o s idx = some true) : t.eval args first o idx s = some (.double k.toUInt64) := by
  have eu : (Term.op1 .bitsD (.long k)).eval args first o idx s = some (.double k.toUInt64) := rfl
  generalize Term.op1 .bitsD (.long k) = u at h eu
  cases ht : t.eval args first o idx s with
  | none => simp [Cond.value, eu, ht] at h
  | some x => cases x <;> simp [Cond.value, eu, ht] at h; subst h; rfl
theorem d3_0 : decode jdk_22_method_1_code 0 = .ok (.aload_n 0, 1) := by decide +kernel
theorem d3_1 : decode jdk_22_method_1_code 1 = .ok (.invokespecial 1, 3) := by decide +kernel
theorem d3_4 : decode jdk_22_method_1_code 4 = .ok (.return_, 1) := by decide +kernel
theorem pn_3 : plainName "java/util/AbstractCollection" = true := by first | (simp [plainName, overriddenIn]; done) | decide +kernel
theorem ef_3 (m : MethodId) (r0 : Addr) : entryFrame m #[(.ref r0)] 1 = mkF m 0 #[.val (.ref r0)] [] := by first | (simp [entryFrame, mkF, argsToLocals, Value.category]; done) | rfl
def Q3 (Z : State) (r0 : Addr)  (h0 : Heap) (n0 : Nat) (v : Option Value) (h : Heap) (L : List Loc) : Prop := v = none ∧ Fr n0 L ∧ h = h0
set_option maxRecDepth 65536 in
set_option maxHeartbeats 40000000 in
theorem rm3 (l : Launch) (Z : State) (a0 : Array Value) (hw : ∀ d ∈ tables_1, d.before a0 Z = true) (ws : List Jvm.Cond) (r0 : Addr)  (h0 : Heap) (n0 : Nat) (Z0 : n0 ≤ h0.size)  :
    MetFree l (⟨"java/util/AbstractCollection", "<init>", "()V"⟩ : MethodName) (head1 (Jvm.Cond.code (⟨"java/util/AbstractCollection", "<init>", "()V"⟩ : MethodName) jdk_22_method_1_code 1 none :: ws) ({ frames := 1, cells := 0, slots := 0, locals := 12 } : Room)) (fun a U => a = #[(.ref r0)] ∧ Z.Warmed39 U.vm ∧ U.heap = h0) (fun _ _ _ _ _ => True) (fun _ U o U' => ∃ v L, o = .returned v ∧ Q3 Z r0 h0 n0 v U'.heap L ∧ FrameEnd U o U' L ({ frames := 1, cells := 0, slots := 0, locals := 12 } : Room).cells ({ frames := 1, cells := 0, slots := 0, locals := 12 } : Room).slots) := by
  refine MetFree.of_bodySF (plainFor_of_name pn_3) hisR ?_
  intro p e s m args below meth c s₁ Bd hml0 hP hK
  obtain ⟨rfl, hZ, hh⟩ := hP
  have hx := Bd.exec
  have hlk : meth.locks = false := BodyLoose.notSynchronized Bd
  have hby := Bd.bytes
  have hml : c.maxLocals = 1 := hml0
  have hown : s.vm.findClass "java/util/AbstractCollection" = some m.cls := findClass_of_methodNamed Bd.named
  have hnm := (name_of_methodNamed Bd.named Bd.method).1
  have X0 : Stand p l e ({ frames := 1, cells := 0, slots := 0, locals := 12 } : Room) s m #[(.ref r0)] below meth c s₁ [] 0 0 := Stand.of_body Bd
  have e0 : s₁.heap = h0 := by rw [← hh, Bd.state]; rfl
  have N0 := Fr.nil n0
  refine own_go (A' := (s₁.setTop (mkF m 0 #[.val (.ref r0)] []))) (fun t k => castTop (ef_3 m r0) k) ?_
  obtain ⟨T1, X1, e1, st1⟩ := initO X0 hx hZ hown (hw _ (List.mem_of_getElem? (i := 22) rfl)) (hw _ (List.mem_of_getElem? (i := 23) rfl)) (hw _ (List.mem_of_getElem? (i := 24) rfl)) e0 (g := (mkF m 1 #[.val (.ref r0)] [(.ref r0)])) rfl (by rw [hml]; rfl) rfl (hb hby d3_1) (by decide) (W := 0) (by show 2 * 0 + _ ≤ _; exact Nat.le_of_eq rfl) (by decide)
  refine own_go (A' := (T1.setTop (mkF m 4 #[.val (.ref r0)] []))) (fun t k => ?_) ?_
  · show Steps p.tables e below (s₁.setTop (mkF m 0 #[.val (.ref r0)] [])) _
    refine XS.aloadN X0.here hx rfl (hb hby d3_0) rfl rfl ?_
    show Steps p.tables e below (s₁.setTop (mkF m 1 #[.val (.ref r0)] [(.ref r0)])) _
    refine st1 _ ?_
    exact k
  obtain ⟨fs, hr, hrun, hended, hW, hsame⟩ := X1.leave (v := none) (fun _ => rfl) hlk
  refine ⟨_, _, ?_, hrun, hended, _, _, rfl, ?_, ⟨_, rfl⟩, hW, hsame.mono (by decide) (by decide)⟩
  · show Steps p.tables e below (T1.setTop (mkF m 4 #[.val (.ref r0)] [])) _
    exact X1.returnOut hx Bd.returns (hb hby d3_4) hr
  · show Q3 Z r0 h0 n0 _ T1.heap _
    exact ⟨rfl, N0, e1⟩
theorem d6_0 : decode jdk_30_method_1_code 0 = .ok (.aload_n 0, 1) := by decide +kernel
theorem d6_1 : decode jdk_30_method_1_code 1 = .ok (.invokespecial 1, 3) := by decide +kernel
theorem d6_4 : decode jdk_30_method_1_code 4 = .ok (.return_, 1) := by decide +kernel
theorem pn_6 : plainName "java/lang/Record" = true := by first | (simp [plainName, overriddenIn]; done) | decide +kernel
theorem ef_6 (m : MethodId) (r0 : Addr) : entryFrame m #[(.ref r0)] 1 = mkF m 0 #[.val (.ref r0)] [] := by first | (simp [entryFrame, mkF, argsToLocals, Value.category]; done) | rfl
def Q6 (Z : State) (r0 : Addr)  (h0 : Heap) (n0 : Nat) (v : Option Value) (h : Heap) (L : List Loc) : Prop := v = none ∧ Fr n0 L ∧ h = h0
set_option maxRecDepth 65536 in
set_option maxHeartbeats 40000000 in
theorem rm6 (l : Launch) (Z : State) (a0 : Array Value) (hw : ∀ d ∈ tables_1, d.before a0 Z = true) (ws : List Jvm.Cond) (r0 : Addr)  (h0 : Heap) (n0 : Nat) (Z0 : n0 ≤ h0.size)  :
    MetFree l (⟨"java/lang/Record", "<init>", "()V"⟩ : MethodName) (head1 (Jvm.Cond.code (⟨"java/lang/Record", "<init>", "()V"⟩ : MethodName) jdk_30_method_1_code 1 none :: ws) ({ frames := 1, cells := 0, slots := 0, locals := 12 } : Room)) (fun a U => a = #[(.ref r0)] ∧ Z.Warmed39 U.vm ∧ U.heap = h0) (fun _ _ _ _ _ => True) (fun _ U o U' => ∃ v L, o = .returned v ∧ Q6 Z r0 h0 n0 v U'.heap L ∧ FrameEnd U o U' L ({ frames := 1, cells := 0, slots := 0, locals := 12 } : Room).cells ({ frames := 1, cells := 0, slots := 0, locals := 12 } : Room).slots) := by
  refine MetFree.of_bodySF (plainFor_of_name pn_6) hisR ?_
  intro p e s m args below meth c s₁ Bd hml0 hP hK
  obtain ⟨rfl, hZ, hh⟩ := hP
  have hx := Bd.exec
  have hlk : meth.locks = false := BodyLoose.notSynchronized Bd
  have hby := Bd.bytes
  have hml : c.maxLocals = 1 := hml0
  have hown : s.vm.findClass "java/lang/Record" = some m.cls := findClass_of_methodNamed Bd.named
  have hnm := (name_of_methodNamed Bd.named Bd.method).1
  have X0 : Stand p l e ({ frames := 1, cells := 0, slots := 0, locals := 12 } : Room) s m #[(.ref r0)] below meth c s₁ [] 0 0 := Stand.of_body Bd
  have e0 : s₁.heap = h0 := by rw [← hh, Bd.state]; rfl
  have N0 := Fr.nil n0
  refine own_go (A' := (s₁.setTop (mkF m 0 #[.val (.ref r0)] []))) (fun t k => castTop (ef_6 m r0) k) ?_
  obtain ⟨T2, X2, e2, st2⟩ := initO X0 hx hZ hown (hw _ (List.mem_of_getElem? (i := 38) rfl)) (hw _ (List.mem_of_getElem? (i := 23) rfl)) (hw _ (List.mem_of_getElem? (i := 24) rfl)) e0 (g := (mkF m 1 #[.val (.ref r0)] [(.ref r0)])) rfl (by rw [hml]; rfl) rfl (hb hby d6_1) (by decide) (W := 0) (by show 2 * 0 + _ ≤ _; exact Nat.le_of_eq rfl) (by decide)
  refine own_go (A' := (T2.setTop (mkF m 4 #[.val (.ref r0)] []))) (fun t k => ?_) ?_
  · show Steps p.tables e below (s₁.setTop (mkF m 0 #[.val (.ref r0)] [])) _
    refine XS.aloadN X0.here hx rfl (hb hby d6_0) rfl rfl ?_
    show Steps p.tables e below (s₁.setTop (mkF m 1 #[.val (.ref r0)] [(.ref r0)])) _
    refine st2 _ ?_
    exact k
  obtain ⟨fs, hr, hrun, hended, hW, hsame⟩ := X2.leave (v := none) (fun _ => rfl) hlk
  refine ⟨_, _, ?_, hrun, hended, _, _, rfl, ?_, ⟨_, rfl⟩, hW, hsame.mono (by decide) (by decide)⟩
  · show Steps p.tables e below (T2.setTop (mkF m 4 #[.val (.ref r0)] [])) _
    exact X2.returnOut hx Bd.returns (hb hby d6_4) hr
  · show Q6 Z r0 h0 n0 _ T2.heap _
    exact ⟨rfl, N0, e2⟩
theorem pd_0 : parseMethodDescriptor "()V" = some ⟨[], none⟩ := by decide +kernel
theorem d2_0 : decode jdk_39_method_1_code 0 = .ok (.aload_n 0, 1) := by decide +kernel
theorem d2_1 : decode jdk_39_method_1_code 1 = .ok (.invokespecial 1, 3) := by decide +kernel
theorem d2_4 : decode jdk_39_method_1_code 4 = .ok (.aload_n 0, 1) := by decide +kernel
theorem d2_5 : decode jdk_39_method_1_code 5 = .ok (.iconst 0, 1) := by decide +kernel
theorem d2_6 : decode jdk_39_method_1_code 6 = .ok (.putfield 7, 3) := by decide +kernel
theorem d2_9 : decode jdk_39_method_1_code 9 = .ok (.return_, 1) := by decide +kernel
theorem pn_2 : plainName "java/util/AbstractList" = true := by first | (simp [plainName, overriddenIn]; done) | decide +kernel
theorem ef_2 (m : MethodId) (r0 : Addr) : entryFrame m #[(.ref r0)] 1 = mkF m 0 #[.val (.ref r0)] [] := by first | (simp [entryFrame, mkF, argsToLocals, Value.category]; done) | rfl
def Q2 (Z : State) (r0 : Addr)  (h0 : Heap) (n0 : Nat) (v : Option Value) (h : Heap) (L : List Loc) : Prop := v = none ∧ Fr n0 L ∧ Keep h0 h [r0] ∧ Exa Z h r0 "java/util/ArrayList" ∧ Fld Z h r0 "java/util/ArrayList" "elementData" "[Ljava/lang/Object;" .null
set_option maxRecDepth 65536 in
set_option maxHeartbeats 40000000 in
theorem rm2 (l : Launch) (Z : State) (a0 : Array Value) (hw : ∀ d ∈ tables_1, d.before a0 Z = true) (ws : List Jvm.Cond) (r0 : Addr)  (h0 : Heap) (n0 : Nat) (Z0 : n0 ≤ h0.size) (E0_r0 : Exa Z h0 r0 "java/util/ArrayList") (F0_modCount : Fld Z h0 r0 "java/util/AbstractList" "modCount" "I" (.int (0 : Int32))) (F0_elementData : Fld Z h0 r0 "java/util/ArrayList" "elementData" "[Ljava/lang/Object;" .null) (g_r0 : n0 ≤ r0) :
    MetFree l (⟨"java/util/AbstractList", "<init>", "()V"⟩ : MethodName) (head1 (Jvm.Cond.code (⟨"java/util/AbstractList", "<init>", "()V"⟩ : MethodName) jdk_39_method_1_code 1 none :: ws) ({ frames := 2, cells := 0, slots := 0, locals := 24 } : Room)) (fun a U => a = #[(.ref r0)] ∧ Z.Warmed39 U.vm ∧ U.heap = h0) (fun _ _ _ _ _ => True) (fun _ U o U' => ∃ v L, o = .returned v ∧ Q2 Z r0 h0 n0 v U'.heap L ∧ FrameEnd U o U' L ({ frames := 2, cells := 0, slots := 0, locals := 24 } : Room).cells ({ frames := 2, cells := 0, slots := 0, locals := 24 } : Room).slots) := by
  refine MetFree.of_bodySF (plainFor_of_name pn_2) hisR ?_
  intro p e s m args below meth c s₁ Bd hml0 hP hK
  obtain ⟨rfl, hZ, hh⟩ := hP
  have hx := Bd.exec
  have hlk : meth.locks = false := BodyLoose.notSynchronized Bd
  have hby := Bd.bytes
  have hml : c.maxLocals = 1 := hml0
  have hown : s.vm.findClass "java/util/AbstractList" = some m.cls := findClass_of_methodNamed Bd.named
  have hnm := (name_of_methodNamed Bd.named Bd.method).1
  have X0 : Stand p l e ({ frames := 2, cells := 0, slots := 0, locals := 24 } : Room) s m #[(.ref r0)] below meth c s₁ [] 0 0 := Stand.of_body Bd
  have e0 : s₁.heap = h0 := by rw [← hh, Bd.state]; rfl
  have N0 := Fr.nil n0
  refine own_go (A' := (s₁.setTop (mkF m 0 #[.val (.ref r0)] []))) (fun t k => castTop (ef_2 m r0) k) ?_
  obtain ⟨_, _, ⟨T3, L3, k3, n3⟩, -, X3, ⟨Lc3, hQ3, l3, y3, z3⟩, st3⟩ := X0.specialBack hx (y := (⟨"java/util/AbstractCollection", "<init>", "()V"⟩ : MethodName)) rfl hown (mvT hZ (hw _ (List.mem_of_getElem? (i := 16) rfl))) (mvT hZ (hw _ (List.mem_of_getElem? (i := 17) rfl))) (mvT hZ (hw _ (List.mem_of_getElem? (i := 21) rfl))) (by decide) (backOf (W := 0) (rm3 l Z a0 hw [] r0  h0 n0 Z0 ) hZ (hw _ (List.mem_of_getElem? (i := 21) rfl)) (hw _ (List.mem_of_getElem? (i := 20) rfl)) (by decide) (by decide)) (g := (mkF m 1 #[.val (.ref r0)] [(.ref r0)])) rfl (by rw [hml]; rfl) (Steps.refl _) (a := r0) (argsL := []) (rest := []) (lenOf pd_0 rfl) rfl (by show 2 * 0 + _ ≤ _; exact Nat.le_of_eq rfl) (hb hby d2_1) (fun _ _ => ⟨rfl, e0, (by decide : 0 + 0 ≤ _), (by decide : 0 + 0 ≤ _)⟩)
  dsimp only [Pt.U, Pt.locs, Pt.cells, Pt.slots] at X3 l3 y3 z3 st3 hQ3
  subst l3 y3 z3
  obtain ⟨rfl, N3q, e3⟩ := hQ3
  have N3 := Fr.app N0 N3q
  obtain ⟨T4, h4, X4, e4, W4, st4⟩ := putF X3 hx hZ hown (host := "") (Or.inl (hw _ (List.mem_of_getElem? (i := 25) rfl))) Via.refl e3 F0_modCount E0_r0 (Or.inl (hw _ (List.mem_of_getElem? (i := 26) rfl))) (hw _ (List.mem_of_getElem? (i := 5) rfl)) (ty := .int) (by decide) rfl rfl (g := (mkF m 6 #[.val (.ref r0)] [(.int (0 : Int32)), (.ref r0)])) rfl rfl (hb hby d2_6)
  have K4 : Keep h0 h4 [r0] := (Keep.refl h0 [r0]).wr W4 (Or.inl (List.mem_of_getElem? (i := 0) rfl))
  have N4 := Fr.snoc X4 N3 g_r0
  refine own_go (A' := (T4.setTop (mkF m 9 #[.val (.ref r0)] []))) (fun t k => ?_) ?_
  · show Steps p.tables e below (s₁.setTop (mkF m 0 #[.val (.ref r0)] [])) _
    refine XS.aloadN X0.here hx rfl (hb hby d2_0) rfl rfl ?_
    show Steps p.tables e below (s₁.setTop (mkF m 1 #[.val (.ref r0)] [(.ref r0)])) _
    refine st3.trans ?_
    show Steps p.tables e below (T3.setTop (mkF m 4 #[.val (.ref r0)] [])) _
    refine XS.aloadN X3.here hx rfl (hb hby d2_4) rfl rfl ?_
    show Steps p.tables e below (T3.setTop (mkF m 5 #[.val (.ref r0)] [(.ref r0)])) _
    refine XS.iconst X3.here hx rfl (hb hby d2_5) ?_
    show Steps p.tables e below (T3.setTop (mkF m 6 #[.val (.ref r0)] [(.int (0 : Int32)), (.ref r0)])) _
    refine st4 _ ?_
    exact k
  obtain ⟨fs, hr, hrun, hended, hW, hsame⟩ := X4.leave (v := none) (fun _ => rfl) hlk
  refine ⟨_, _, ?_, hrun, hended, _, _, rfl, ?_, ⟨_, rfl⟩, hW, hsame.mono (by decide) (by decide)⟩
  · show Steps p.tables e below (T4.setTop (mkF m 9 #[.val (.ref r0)] [])) _
    exact X4.returnOut hx Bd.returns (hb hby d2_9) hr
  · show Q2 Z r0 h0 n0 _ T4.heap _
    rw [e4]
    exact ⟨rfl, N4, K4, (E0_r0.wr W4), (F0_elementData.other W4 (Or.inr (slot_ne (Or.inl (hw _ (List.mem_of_getElem? (i := 29) rfl))) (Or.inl (hw _ (List.mem_of_getElem? (i := 26) rfl))) (by decide) (t := (.array (.object "java/lang/Object"))) (t' := .int) (by decide) (by decide))))⟩
theorem d1_0 : decode jdk_38_method_2_code 0 = .ok (.aload_n 0, 1) := by decide +kernel
theorem d1_1 : decode jdk_38_method_2_code 1 = .ok (.invokespecial 1, 3) := by decide +kernel
theorem d1_4 : decode jdk_38_method_2_code 4 = .ok (.aload_n 0, 1) := by decide +kernel
theorem d1_5 : decode jdk_38_method_2_code 5 = .ok (.getstatic 39, 3) := by decide +kernel
theorem d1_8 : decode jdk_38_method_2_code 8 = .ok (.putfield 9, 3) := by decide +kernel
theorem d1_11 : decode jdk_38_method_2_code 11 = .ok (.return_, 1) := by decide +kernel
theorem pn_1 : plainName "java/util/ArrayList" = true := by first | (simp [plainName, overriddenIn]; done) | decide +kernel
theorem ef_1 (m : MethodId) (r0 : Addr) : entryFrame m #[(.ref r0)] 1 = mkF m 0 #[.val (.ref r0)] [] := by first | (simp [entryFrame, mkF, argsToLocals, Value.category]; done) | rfl
def Q1 (Z : State) (r0 : Addr) (w_DC : Addr) (h0 : Heap) (n0 : Nat) (v : Option Value) (h : Heap) (L : List Loc) : Prop := v = none ∧ Fr n0 L ∧ Keep h0 h [r0]
set_option maxRecDepth 65536 in
set_option maxHeartbeats 40000000 in
theorem rm1 (l : Launch) (Z : State) (a0 : Array Value) (hw : ∀ d ∈ tables_1, d.before a0 Z = true) (ws : List Jvm.Cond) (r0 : Addr) (w_DC : Addr) (h0 : Heap) (n0 : Nat) (Z0 : n0 ≤ h0.size) (E0_r0 : Exa Z h0 r0 "java/util/ArrayList") (F0_modCount : Fld Z h0 r0 "java/util/AbstractList" "modCount" "I" (.int (0 : Int32))) (F0_elementData : Fld Z h0 r0 "java/util/ArrayList" "elementData" "[Ljava/lang/Object;" .null) (g_r0 : n0 ≤ r0) (S_DC : Sta Z h0 "java/util/ArrayList" "DEFAULTCAPACITY_EMPTY_ELEMENTDATA" "[Ljava/lang/Object;" (.ref w_DC)) :
    MetFree l (⟨"java/util/ArrayList", "<init>", "()V"⟩ : MethodName) (head1 (Jvm.Cond.code (⟨"java/util/ArrayList", "<init>", "()V"⟩ : MethodName) jdk_38_method_2_code 1 none :: ws) ({ frames := 3, cells := 0, slots := 0, locals := 36 } : Room)) (fun a U => a = #[(.ref r0)] ∧ Z.Warmed39 U.vm ∧ U.heap = h0) (fun _ _ _ _ _ => True) (fun _ U o U' => ∃ v L, o = .returned v ∧ Q1 Z r0 w_DC h0 n0 v U'.heap L ∧ FrameEnd U o U' L ({ frames := 3, cells := 0, slots := 0, locals := 36 } : Room).cells ({ frames := 3, cells := 0, slots := 0, locals := 36 } : Room).slots) := by
  refine MetFree.of_bodySF (plainFor_of_name pn_1) hisR ?_
  intro p e s m args below meth c s₁ Bd hml0 hP hK
  obtain ⟨rfl, hZ, hh⟩ := hP
  have hx := Bd.exec
  have hlk : meth.locks = false := BodyLoose.notSynchronized Bd
  have hby := Bd.bytes
  have hml : c.maxLocals = 1 := hml0
  have hown : s.vm.findClass "java/util/ArrayList" = some m.cls := findClass_of_methodNamed Bd.named
  have hnm := (name_of_methodNamed Bd.named Bd.method).1
  have X0 : Stand p l e ({ frames := 3, cells := 0, slots := 0, locals := 36 } : Room) s m #[(.ref r0)] below meth c s₁ [] 0 0 := Stand.of_body Bd
  have e0 : s₁.heap = h0 := by rw [← hh, Bd.state]; rfl
  have N0 := Fr.nil n0
  refine own_go (A' := (s₁.setTop (mkF m 0 #[.val (.ref r0)] []))) (fun t k => castTop (ef_1 m r0) k) ?_
  obtain ⟨_, _, ⟨T5, L5, k5, n5⟩, -, X5, ⟨Lc5, hQ5, l5, y5, z5⟩, st5⟩ := X0.specialBack hx (y := (⟨"java/util/AbstractList", "<init>", "()V"⟩ : MethodName)) rfl hown (mvT hZ (hw _ (List.mem_of_getElem? (i := 10) rfl))) (mvT hZ (hw _ (List.mem_of_getElem? (i := 11) rfl))) (mvT hZ (hw _ (List.mem_of_getElem? (i := 15) rfl))) (by decide) (backOf (W := 0) (rm2 l Z a0 hw [] r0  h0 n0 Z0 E0_r0 F0_modCount F0_elementData g_r0 ) hZ (hw _ (List.mem_of_getElem? (i := 15) rfl)) (hw _ (List.mem_of_getElem? (i := 14) rfl)) (by decide) (by decide)) (g := (mkF m 1 #[.val (.ref r0)] [(.ref r0)])) rfl (by rw [hml]; rfl) (Steps.refl _) (a := r0) (argsL := []) (rest := []) (lenOf pd_0 rfl) rfl (by show 2 * 0 + _ ≤ _; exact Nat.le_of_eq rfl) (hb hby d1_1) (fun _ _ => ⟨rfl, e0, (by decide : 0 + 0 ≤ _), (by decide : 0 + 0 ≤ _)⟩)
  dsimp only [Pt.U, Pt.locs, Pt.cells, Pt.slots] at X5 l5 y5 z5 st5 hQ5
  subst l5 y5 z5
  obtain ⟨rfl, N5q, K5q, E5q, F5q⟩ := hQ5
  have N5 := Fr.app N0 N5q
  have K5 : Keep h0 T5.heap [r0] := (Keep.refl h0 [r0]).trans K5q (allS (Or.inl (List.mem_of_getElem? (i := 0) rfl)) all0)
  obtain ⟨T6, X6, e6, st6⟩ := getS2 X5 hx hZ hown (host := "") (Or.inl (hw _ (List.mem_of_getElem? (i := 27) rfl))) Via.refl rfl (own_sta_keep S_DC K5 E0_r0) (g := (mkF m 5 #[.val (.ref r0)] [(.ref r0)])) rfl (hb hby d1_5)
  obtain ⟨T7, h7, X7, e7, W7, st7⟩ := putF X6 hx hZ hown (host := "") (Or.inl (hw _ (List.mem_of_getElem? (i := 28) rfl))) Via.refl e6 F5q E5q (Or.inl (hw _ (List.mem_of_getElem? (i := 29) rfl))) (hw _ (List.mem_of_getElem? (i := 5) rfl)) (ty := (.array (.object "java/lang/Object"))) (by decide) rfl rfl (g := (mkF m 8 #[.val (.ref r0)] [(.ref w_DC), (.ref r0)])) rfl rfl (hb hby d1_8)
  have K7 : Keep h0 h7 [r0] := K5.wr W7 (Or.inl (List.mem_of_getElem? (i := 0) rfl))
  have N7 := Fr.snoc X7 N5 g_r0
  refine own_go (A' := (T7.setTop (mkF m 11 #[.val (.ref r0)] []))) (fun t k => ?_) ?_
  · show Steps p.tables e below (s₁.setTop (mkF m 0 #[.val (.ref r0)] [])) _
    refine XS.aloadN X0.here hx rfl (hb hby d1_0) rfl rfl ?_
    show Steps p.tables e below (s₁.setTop (mkF m 1 #[.val (.ref r0)] [(.ref r0)])) _
    refine st5.trans ?_
    show Steps p.tables e below (T5.setTop (mkF m 4 #[.val (.ref r0)] [])) _
    refine XS.aloadN X5.here hx rfl (hb hby d1_4) rfl rfl ?_
    show Steps p.tables e below (T5.setTop (mkF m 5 #[.val (.ref r0)] [(.ref r0)])) _
    refine st6 _ ?_
    show Steps p.tables e below (T6.setTop (mkF m 8 #[.val (.ref r0)] [(.ref w_DC), (.ref r0)])) _
    refine st7 _ ?_
    exact k
  obtain ⟨fs, hr, hrun, hended, hW, hsame⟩ := X7.leave (v := none) (fun _ => rfl) hlk
  refine ⟨_, _, ?_, hrun, hended, _, _, rfl, ?_, ⟨_, rfl⟩, hW, hsame.mono (by decide) (by decide)⟩
  · show Steps p.tables e below (T7.setTop (mkF m 11 #[.val (.ref r0)] [])) _
    exact X7.returnOut hx Bd.returns (hb hby d1_11) hr
  · show Q1 Z r0 w_DC h0 n0 _ T7.heap _
    rw [e7]
    exact ⟨rfl, N7, K7⟩
theorem d5_0 : decode prog_38_method_1_code 0 = .ok (.aload_n 0, 1) := by decide +kernel
theorem d5_1 : decode prog_38_method_1_code 1 = .ok (.invokespecial 1, 3) := by decide +kernel
theorem d5_4 : decode prog_38_method_1_code 4 = .ok (.aload_n 0, 1) := by decide +kernel
theorem d5_5 : decode prog_38_method_1_code 5 = .ok (.aload_n 1, 1) := by decide +kernel
theorem d5_6 : decode prog_38_method_1_code 6 = .ok (.putfield 7, 3) := by decide +kernel
theorem d5_9 : decode prog_38_method_1_code 9 = .ok (.aload_n 0, 1) := by decide +kernel
theorem d5_10 : decode prog_38_method_1_code 10 = .ok (.dload_n 2, 1) := by decide +kernel
theorem d5_11 : decode prog_38_method_1_code 11 = .ok (.putfield 13, 3) := by decide +kernel
theorem d5_14 : decode prog_38_method_1_code 14 = .ok (.aload_n 0, 1) := by decide +kernel
theorem d5_15 : decode prog_38_method_1_code 15 = .ok (.aload 4, 2) := by decide +kernel
theorem d5_17 : decode prog_38_method_1_code 17 = .ok (.putfield 17, 3) := by decide +kernel
theorem d5_20 : decode prog_38_method_1_code 20 = .ok (.return_, 1) := by decide +kernel
theorem pn_5 : plainName "com/example/reactions_to_maps/reactionstomaps/layout/CorridorRouter$Plan" = true := by first | (simp [plainName, overriddenIn]; done) | decide +kernel
theorem ef_5 (m : MethodId) (r0 : Addr) (r1 : Addr) (d2 : UInt64) : entryFrame m #[(.ref r0), (.ref r1), (.double d2), .null] 5 = mkF m 0 #[.val (.ref r0), .val (.ref r1), .val (.double d2), .second, .val .null] [] := by first | (simp [entryFrame, mkF, argsToLocals, Value.category]; done) | rfl
def Q5 (Z : State) (r0 : Addr) (r1 : Addr) (d2 : UInt64)  (h0 : Heap) (n0 : Nat) (v : Option Value) (h : Heap) (L : List Loc) : Prop := v = none ∧ Fr n0 L ∧ Keep h0 h [r0] ∧ Exa Z h r0 "com/example/reactions_to_maps/reactionstomaps/layout/CorridorRouter$Plan" ∧ Fld Z h r0 "com/example/reactions_to_maps/reactionstomaps/layout/CorridorRouter$Plan" "pitch" "D" (.double d2)
set_option maxRecDepth 65536 in
set_option maxHeartbeats 40000000 in
theorem rm5 (l : Launch) (Z : State) (a0 : Array Value) (hw : ∀ d ∈ tables_1, d.before a0 Z = true) (ws : List Jvm.Cond) (r0 : Addr) (r1 : Addr) (d2 : UInt64)  (h0 : Heap) (n0 : Nat) (Z0 : n0 ≤ h0.size) (E0_r0 : Exa Z h0 r0 "com/example/reactions_to_maps/reactionstomaps/layout/CorridorRouter$Plan") (F0_tops : Fld Z h0 r0 "com/example/reactions_to_maps/reactionstomaps/layout/CorridorRouter$Plan" "tops" "Ljava/util/List;" .null) (F0_pitch : Fld Z h0 r0 "com/example/reactions_to_maps/reactionstomaps/layout/CorridorRouter$Plan" "pitch" "D" (.double 0)) (F0_rooms : Fld Z h0 r0 "com/example/reactions_to_maps/reactionstomaps/layout/CorridorRouter$Plan" "rooms" "Ljava/util/Map;" .null) (g_r0 : n0 ≤ r0) :
    MetFree l (⟨"com/example/reactions_to_maps/reactionstomaps/layout/CorridorRouter$Plan", "<init>", "(Ljava/util/List;DLjava/util/Map;)V"⟩ : MethodName) (head1 (Jvm.Cond.code (⟨"com/example/reactions_to_maps/reactionstomaps/layout/CorridorRouter$Plan", "<init>", "(Ljava/util/List;DLjava/util/Map;)V"⟩ : MethodName) prog_38_method_1_code 5 none :: ws) ({ frames := 2, cells := 0, slots := 0, locals := 24 } : Room)) (fun a U => a = #[(.ref r0), (.ref r1), (.double d2), .null] ∧ Z.Warmed39 U.vm ∧ U.heap = h0) (fun _ _ _ _ _ => True) (fun _ U o U' => ∃ v L, o = .returned v ∧ Q5 Z r0 r1 d2 h0 n0 v U'.heap L ∧ FrameEnd U o U' L ({ frames := 2, cells := 0, slots := 0, locals := 24 } : Room).cells ({ frames := 2, cells := 0, slots := 0, locals := 24 } : Room).slots) := by
  refine MetFree.of_bodySF (plainFor_of_name pn_5) hisR ?_
  intro p e s m args below meth c s₁ Bd hml0 hP hK
  obtain ⟨rfl, hZ, hh⟩ := hP
  have hx := Bd.exec
  have hlk : meth.locks = false := BodyLoose.notSynchronized Bd
  have hby := Bd.bytes
  have hml : c.maxLocals = 5 := hml0
  have hown : s.vm.findClass "com/example/reactions_to_maps/reactionstomaps/layout/CorridorRouter$Plan" = some m.cls := findClass_of_methodNamed Bd.named
  have hnm := (name_of_methodNamed Bd.named Bd.method).1
  have X0 : Stand p l e ({ frames := 2, cells := 0, slots := 0, locals := 24 } : Room) s m #[(.ref r0), (.ref r1), (.double d2), .null] below meth c s₁ [] 0 0 := Stand.of_body Bd
  have e0 : s₁.heap = h0 := by rw [← hh, Bd.state]; rfl
  have N0 := Fr.nil n0
  refine own_go (A' := (s₁.setTop (mkF m 0 #[.val (.ref r0), .val (.ref r1), .val (.double d2), .second, .val .null] []))) (fun t k => castTop (ef_5 m r0 r1 d2) k) ?_
  obtain ⟨_, _, ⟨T8, L8, k8, n8⟩, -, X8, ⟨Lc8, hQ8, l8, y8, z8⟩, st8⟩ := X0.specialBack hx (y := (⟨"java/lang/Record", "<init>", "()V"⟩ : MethodName)) rfl hown (mvT hZ (hw _ (List.mem_of_getElem? (i := 33) rfl))) (mvT hZ (hw _ (List.mem_of_getElem? (i := 34) rfl))) (mvT hZ (hw _ (List.mem_of_getElem? (i := 37) rfl))) (by decide) (backOf (W := 0) (rm6 l Z a0 hw [] r0  h0 n0 Z0 ) hZ (hw _ (List.mem_of_getElem? (i := 37) rfl)) (hw _ (List.mem_of_getElem? (i := 36) rfl)) (by decide) (by decide)) (g := (mkF m 1 #[.val (.ref r0), .val (.ref r1), .val (.double d2), .second, .val .null] [(.ref r0)])) rfl (by rw [hml]; rfl) (Steps.refl _) (a := r0) (argsL := []) (rest := []) (lenOf pd_0 rfl) rfl (by show 2 * 0 + _ ≤ _; exact Nat.le_of_eq rfl) (hb hby d5_1) (fun _ _ => ⟨rfl, e0, (by decide : 0 + 0 ≤ _), (by decide : 0 + 0 ≤ _)⟩)
  dsimp only [Pt.U, Pt.locs, Pt.cells, Pt.slots] at X8 l8 y8 z8 st8 hQ8
  subst l8 y8 z8
  obtain ⟨rfl, N8q, e8⟩ := hQ8
  have N8 := Fr.app N0 N8q
  obtain ⟨T9, h9, X9, e9, W9, st9⟩ := putF X8 hx hZ hown (host := "") (Or.inl (hw _ (List.mem_of_getElem? (i := 39) rfl))) Via.refl e8 F0_tops E0_r0 (Or.inr ⟨(hw _ (List.mem_of_getElem? (i := 40) rfl)), rfl, hnm⟩) (hw _ (List.mem_of_getElem? (i := 2) rfl)) (ty := (.object "java/util/List")) (by decide) rfl rfl (g := (mkF m 6 #[.val (.ref r0), .val (.ref r1), .val (.double d2), .second, .val .null] [(.ref r1), (.ref r0)])) rfl rfl (hb hby d5_6)
  have K9 : Keep h0 h9 [r0] := (Keep.refl h0 [r0]).wr W9 (Or.inl (List.mem_of_getElem? (i := 0) rfl))
  have N9 := Fr.snoc X9 N8 g_r0
  obtain ⟨T10, h10, X10, e10, W10, st10⟩ := putF X9 hx hZ hown (host := "") (Or.inl (hw _ (List.mem_of_getElem? (i := 41) rfl))) Via.refl e9 (F0_pitch.other W9 (Or.inr (slot_ne (Or.inr (hw _ (List.mem_of_getElem? (i := 42) rfl))) (Or.inr (hw _ (List.mem_of_getElem? (i := 40) rfl))) (by decide) (t := .double) (t' := (.object "java/util/List")) (by decide) (by decide)))) (E0_r0.wr W9) (Or.inr ⟨(hw _ (List.mem_of_getElem? (i := 42) rfl)), rfl, hnm⟩) (hw _ (List.mem_of_getElem? (i := 2) rfl)) (ty := .double) (by decide) rfl rfl (g := (mkF m 11 #[.val (.ref r0), .val (.ref r1), .val (.double d2), .second, .val .null] [(.double d2), (.ref r0)])) rfl rfl (hb hby d5_11)
  have K10 : Keep h0 h10 [r0] := K9.wr W10 (Or.inl (List.mem_of_getElem? (i := 0) rfl))
  have N10 := Fr.snoc X10 N9 g_r0
  obtain ⟨T11, h11, X11, e11, W11, st11⟩ := putF X10 hx hZ hown (host := "") (Or.inl (hw _ (List.mem_of_getElem? (i := 43) rfl))) Via.refl e10 ((F0_rooms.other W9 (Or.inr (slot_ne (Or.inr (hw _ (List.mem_of_getElem? (i := 44) rfl))) (Or.inr (hw _ (List.mem_of_getElem? (i := 40) rfl))) (by decide) (t := (.object "java/util/Map")) (t' := (.object "java/util/List")) (by decide) (by decide)))).other W10 (Or.inr (slot_ne (Or.inr (hw _ (List.mem_of_getElem? (i := 44) rfl))) (Or.inr (hw _ (List.mem_of_getElem? (i := 42) rfl))) (by decide) (t := (.object "java/util/Map")) (t' := .double) (by decide) (by decide)))) ((E0_r0.wr W9).wr W10) (Or.inr ⟨(hw _ (List.mem_of_getElem? (i := 44) rfl)), rfl, hnm⟩) (hw _ (List.mem_of_getElem? (i := 2) rfl)) (ty := (.object "java/util/Map")) (by decide) rfl rfl (g := (mkF m 17 #[.val (.ref r0), .val (.ref r1), .val (.double d2), .second, .val .null] [.null, (.ref r0)])) rfl rfl (hb hby d5_17)
  have K11 : Keep h0 h11 [r0] := K10.wr W11 (Or.inl (List.mem_of_getElem? (i := 0) rfl))
  have N11 := Fr.snoc X11 N10 g_r0
  refine own_go (A' := (T11.setTop (mkF m 20 #[.val (.ref r0), .val (.ref r1), .val (.double d2), .second, .val .null] []))) (fun t k => ?_) ?_
  · show Steps p.tables e below (s₁.setTop (mkF m 0 #[.val (.ref r0), .val (.ref r1), .val (.double d2), .second, .val .null] [])) _
    refine XS.aloadN X0.here hx rfl (hb hby d5_0) rfl rfl ?_
    show Steps p.tables e below (s₁.setTop (mkF m 1 #[.val (.ref r0), .val (.ref r1), .val (.double d2), .second, .val .null] [(.ref r0)])) _
    refine st8.trans ?_
    show Steps p.tables e below (T8.setTop (mkF m 4 #[.val (.ref r0), .val (.ref r1), .val (.double d2), .second, .val .null] [])) _
    refine XS.aloadN X8.here hx rfl (hb hby d5_4) rfl rfl ?_
    show Steps p.tables e below (T8.setTop (mkF m 5 #[.val (.ref r0), .val (.ref r1), .val (.double d2), .second, .val .null] [(.ref r0)])) _
    refine XS.aloadN X8.here hx rfl (hb hby d5_5) rfl rfl ?_
    show Steps p.tables e below (T8.setTop (mkF m 6 #[.val (.ref r0), .val (.ref r1), .val (.double d2), .second, .val .null] [(.ref r1), (.ref r0)])) _
    refine st9 _ ?_
    show Steps p.tables e below (T9.setTop (mkF m 9 #[.val (.ref r0), .val (.ref r1), .val (.double d2), .second, .val .null] [])) _
    refine XS.aloadN X9.here hx rfl (hb hby d5_9) rfl rfl ?_
    show Steps p.tables e below (T9.setTop (mkF m 10 #[.val (.ref r0), .val (.ref r1), .val (.double d2), .second, .val .null] [(.ref r0)])) _
    refine XS.dloadN X9.here hx rfl (hb hby d5_10) rfl ?_
    show Steps p.tables e below (T9.setTop (mkF m 11 #[.val (.ref r0), .val (.ref r1), .val (.double d2), .second, .val .null] [(.double d2), (.ref r0)])) _
    refine st10 _ ?_
    show Steps p.tables e below (T10.setTop (mkF m 14 #[.val (.ref r0), .val (.ref r1), .val (.double d2), .second, .val .null] [])) _
    refine XS.aloadN X10.here hx rfl (hb hby d5_14) rfl rfl ?_
    show Steps p.tables e below (T10.setTop (mkF m 15 #[.val (.ref r0), .val (.ref r1), .val (.double d2), .second, .val .null] [(.ref r0)])) _
    refine XS.aload X10.here hx rfl (hb hby d5_15) rfl rfl ?_
    show Steps p.tables e below (T10.setTop (mkF m 17 #[.val (.ref r0), .val (.ref r1), .val (.double d2), .second, .val .null] [.null, (.ref r0)])) _
    refine st11 _ ?_
    exact k
  obtain ⟨fs, hr, hrun, hended, hW, hsame⟩ := X11.leave (v := none) (fun _ => rfl) hlk
  refine ⟨_, _, ?_, hrun, hended, _, _, rfl, ?_, ⟨_, rfl⟩, hW, hsame.mono (by decide) (by decide)⟩
  · show Steps p.tables e below (T11.setTop (mkF m 20 #[.val (.ref r0), .val (.ref r1), .val (.double d2), .second, .val .null] [])) _
    exact X11.returnOut hx Bd.returns (hb hby d5_20) hr
  · show Q5 Z r0 r1 d2 h0 n0 _ T11.heap _
    rw [e11]
    exact ⟨rfl, N11, K11, (((E0_r0.wr W9).wr W10).wr W11), (((F0_pitch.other W9 (Or.inr (slot_ne (Or.inr (hw _ (List.mem_of_getElem? (i := 42) rfl))) (Or.inr (hw _ (List.mem_of_getElem? (i := 40) rfl))) (by decide) (t := .double) (t' := (.object "java/util/List")) (by decide) (by decide)))).same W10).other W11 (Or.inr (slot_ne (Or.inr (hw _ (List.mem_of_getElem? (i := 42) rfl))) (Or.inr (hw _ (List.mem_of_getElem? (i := 44) rfl))) (by decide) (t := .double) (t' := (.object "java/util/Map")) (by decide) (by decide))))⟩
theorem d7_0 : decode prog_38_method_2_code 0 = .ok (.aload_n 0, 1) := by decide +kernel
theorem d7_1 : decode prog_38_method_2_code 1 = .ok (.getfield 13, 3) := by decide +kernel
theorem d7_4 : decode prog_38_method_2_code 4 = .ok (.aload_n 1, 1) := by decide +kernel
theorem d7_5 : decode prog_38_method_2_code 5 = .ok (.getfield 21, 3) := by decide +kernel
theorem d7_8 : decode prog_38_method_2_code 8 = .ok (.dcmp .g, 1) := by decide +kernel
theorem d7_9 : decode prog_38_method_2_code 9 = .ok (.ifCond .ge 7, 3) := by decide +kernel
theorem d7_12 : decode prog_38_method_2_code 12 = .ok (.iconst 1, 1) := by decide +kernel
theorem d7_13 : decode prog_38_method_2_code 13 = .ok (.goto 4, 3) := by decide +kernel
theorem d7_16 : decode prog_38_method_2_code 16 = .ok (.iconst 0, 1) := by decide +kernel
theorem d7_17 : decode prog_38_method_2_code 17 = .ok (.ireturn, 1) := by decide +kernel
theorem pn_7 : plainName "com/example/reactions_to_maps/reactionstomaps/layout/CorridorRouter$Plan" = true := by first | (simp [plainName, overriddenIn]; done) | decide +kernel
theorem ef_7 (m : MethodId) (r0 : Addr) (r1 : Addr) : entryFrame m #[(.ref r0), (.ref r1)] 2 = mkF m 0 #[.val (.ref r0), .val (.ref r1)] [] := by first | (simp [entryFrame, mkF, argsToLocals, Value.category]; done) | rfl
def Q7 (Z : State) (r0 : Addr) (r1 : Addr) (kd : UInt64) (kt : UInt64) (h0 : Heap) (n0 : Nat) (v : Option Value) (h : Heap) (L : List Loc) : Prop := v = some (.int (cr kd kt)) ∧ Fr n0 L ∧ h = h0
set_option maxRecDepth 65536 in
set_option maxHeartbeats 40000000 in
theorem rm7 (l : Launch) (Z : State) (a0 : Array Value) (hw : ∀ d ∈ tables_1, d.before a0 Z = true) (ws : List Jvm.Cond) (r0 : Addr) (r1 : Addr) (kd : UInt64) (kt : UInt64) (h0 : Heap) (n0 : Nat) (Z0 : n0 ≤ h0.size) (F1 : Fld Z h0 r0 "com/example/reactions_to_maps/reactionstomaps/layout/CorridorRouter$Plan" "pitch" "D" (.double kd)) (F2 : Fld Z h0 r1 "com/example/reactions_to_maps/reactionstomaps/layout/CorridorRouter$Pitch" "distance" "D" (.double kt)) :
    MetFree l (⟨"com/example/reactions_to_maps/reactionstomaps/layout/CorridorRouter$Plan", "crowded", "(Lcom/example/reactions_to_maps/reactionstomaps/layout/CorridorRouter$Pitch;)Z"⟩ : MethodName) (head1 (Jvm.Cond.code (⟨"com/example/reactions_to_maps/reactionstomaps/layout/CorridorRouter$Plan", "crowded", "(Lcom/example/reactions_to_maps/reactionstomaps/layout/CorridorRouter$Pitch;)Z"⟩ : MethodName) prog_38_method_2_code 2 (some .boolean) :: ws) ({ frames := 0, cells := 0, slots := 0, locals := 0 } : Room)) (fun a U => a = #[(.ref r0), (.ref r1)] ∧ Z.Warmed39 U.vm ∧ U.heap = h0) (fun _ _ _ _ _ => True) (fun _ U o U' => ∃ v L, o = .returned v ∧ Q7 Z r0 r1 kd kt h0 n0 v U'.heap L ∧ FrameEnd U o U' L ({ frames := 0, cells := 0, slots := 0, locals := 0 } : Room).cells ({ frames := 0, cells := 0, slots := 0, locals := 0 } : Room).slots) := by
  refine MetFree.of_bodySF (plainFor_of_name pn_7) hisR ?_
  intro p e s m args below meth c s₁ Bd hml0 hP hK
  obtain ⟨rfl, hZ, hh⟩ := hP
  have hx := Bd.exec
  have hlk : meth.locks = false := BodyLoose.notSynchronized Bd
  have hby := Bd.bytes
  have hml : c.maxLocals = 2 := hml0
  have hown : s.vm.findClass "com/example/reactions_to_maps/reactionstomaps/layout/CorridorRouter$Plan" = some m.cls := findClass_of_methodNamed Bd.named
  have hnm := (name_of_methodNamed Bd.named Bd.method).1
  have X0 : Stand p l e ({ frames := 0, cells := 0, slots := 0, locals := 0 } : Room) s m #[(.ref r0), (.ref r1)] below meth c s₁ [] 0 0 := Stand.of_body Bd
  have e0 : s₁.heap = h0 := by rw [← hh, Bd.state]; rfl
  have N0 := Fr.nil n0
  refine own_go (A' := (s₁.setTop (mkF m 0 #[.val (.ref r0), .val (.ref r1)] []))) (fun t k => castTop (ef_7 m r0 r1) k) ?_
  obtain ⟨T12, X12, e12, st12⟩ := getF X0 hx hZ hown (host := "") (Or.inl (hw _ (List.mem_of_getElem? (i := 41) rfl))) Via.refl e0 F1 (g := (mkF m 1 #[.val (.ref r0), .val (.ref r1)] [(.ref r0)])) rfl rfl (hb hby d7_1)
  obtain ⟨T13, X13, e13, st13⟩ := getF X12 hx hZ hown (host := "") (Or.inl (hw _ (List.mem_of_getElem? (i := 53) rfl))) Via.refl e12 F2 (g := (mkF m 5 #[.val (.ref r0), .val (.ref r1)] [(.ref r1), (.double kd)])) rfl rfl (hb hby d7_5)
  refine own_go (A' := (T13.setTop (mkF m 9 #[.val (.ref r0), .val (.ref r1)] [(.int (cmpValue (FP.dcmp kd kt) .g))]))) (fun t k => ?_) ?_
  · show Steps p.tables e below (s₁.setTop (mkF m 0 #[.val (.ref r0), .val (.ref r1)] [])) _
    refine XS.aloadN X0.here hx rfl (hb hby d7_0) rfl rfl ?_
    show Steps p.tables e below (s₁.setTop (mkF m 1 #[.val (.ref r0), .val (.ref r1)] [(.ref r0)])) _
    refine st12 _ ?_
    show Steps p.tables e below (T12.setTop (mkF m 4 #[.val (.ref r0), .val (.ref r1)] [(.double kd)])) _
    refine XS.aloadN X12.here hx rfl (hb hby d7_4) rfl rfl ?_
    show Steps p.tables e below (T12.setTop (mkF m 5 #[.val (.ref r0), .val (.ref r1)] [(.ref r1), (.double kd)])) _
    refine st13 _ ?_
    show Steps p.tables e below (T13.setTop (mkF m 8 #[.val (.ref r0), .val (.ref r1)] [(.double kt), (.double kd)])) _
    refine XS.dcmpS X13.here hx rfl (hb hby d7_8) rfl rfl ?_
    exact k
  by_cases hc14 : (cmpValue (FP.dcmp kd kt) .g) < (0 : Int32)
  · -- hc14: yes
    refine own_go (A' := (T13.setTop (mkF m 12 #[.val (.ref r0), .val (.ref r1)] []))) (fun t k => XS.ifNo X13.here hx rfl (hb hby d7_9) rfl ((if0 _ _).trans (tlt hc14).2.1) k) ?_
    refine own_go (A' := (T13.setTop (mkF m 17 #[.val (.ref r0), .val (.ref r1)] [(.int (1 : Int32))]))) (fun t k => ?_) ?_
    · show Steps p.tables e below (T13.setTop (mkF m 12 #[.val (.ref r0), .val (.ref r1)] [])) _
      refine XS.iconst X13.here hx rfl (hb hby d7_12) ?_
      show Steps p.tables e below (T13.setTop (mkF m 13 #[.val (.ref r0), .val (.ref r1)] [(.int (1 : Int32))])) _
      refine XS.goto X13.here hx rfl (pc0 := 13) (pc' := 17) rfl (hb hby d7_13) (by decide) (by decide) ?_
      exact k
    obtain ⟨fs, hr, hrun, hended, hW, hsame⟩ := X13.leave (v := some (.int (1 : Int32))) (fun h => by rw [Bd.returns] at h; cases h) hlk
    refine ⟨_, _, ?_, hrun, hended, _, _, rfl, ?_, ⟨_, rfl⟩, hW, hsame.mono (by decide) (by decide)⟩
    · show Steps p.tables e below (T13.setTop (mkF m 17 #[.val (.ref r0), .val (.ref r1)] [(.int (1 : Int32))])) _
      exact retN X13 hx (t := .boolean) Bd.returns (by simp) (hb hby d7_17) hr
    · show Q7 Z r0 r1 kd kt h0 n0 _ T13.heap _
      exact ⟨(by rw [cr, if_pos hc14]), N0, e13⟩
  · -- hc14: no
    refine own_go (A' := (T13.setTop (mkF m 16 #[.val (.ref r0), .val (.ref r1)] []))) (fun t k => XS.ifYes X13.here hx rfl (pc0 := 9) (pc' := 16) rfl (hb hby d7_9) rfl ((if0 _ _).trans (flt hc14).2.1) (by decide) (by decide) k) ?_
    refine own_go (A' := (T13.setTop (mkF m 17 #[.val (.ref r0), .val (.ref r1)] [(.int (0 : Int32))]))) (fun t k => ?_) ?_
    · show Steps p.tables e below (T13.setTop (mkF m 16 #[.val (.ref r0), .val (.ref r1)] [])) _
      refine XS.iconst X13.here hx rfl (hb hby d7_16) ?_
      exact k
    obtain ⟨fs, hr, hrun, hended, hW, hsame⟩ := X13.leave (v := some (.int (0 : Int32))) (fun h => by rw [Bd.returns] at h; cases h) hlk
    refine ⟨_, _, ?_, hrun, hended, _, _, rfl, ?_, ⟨_, rfl⟩, hW, hsame.mono (by decide) (by decide)⟩
    · show Steps p.tables e below (T13.setTop (mkF m 17 #[.val (.ref r0), .val (.ref r1)] [(.int (0 : Int32))])) _
      exact retN X13 hx (t := .boolean) Bd.returns (by simp) (hb hby d7_17) hr
    · show Q7 Z r0 r1 kd kt h0 n0 _ T13.heap _
      exact ⟨(by rw [cr, if_neg hc14]), N0, e13⟩
theorem pd_1 : parseMethodDescriptor "(Ljava/util/List;DLjava/util/Map;)V" = some ⟨[(.object "java/util/List"), .double, (.object "java/util/Map")], none⟩ := by decide +kernel
theorem pd_2 : parseMethodDescriptor "(Lcom/example/reactions_to_maps/reactionstomaps/layout/CorridorRouter$Pitch;)Z" = some ⟨[(.object "com/example/reactions_to_maps/reactionstomaps/layout/CorridorRouter$Pitch")], some .boolean⟩ := by decide +kernel
theorem pn_0 : plainName "com/example/reactions_to_maps/reactionstomaps/layout/PlanCrowdedPinLaw" = true := by first | (simp [plainName, overriddenIn]; done) | decide +kernel
theorem ef_0 (m : MethodId) (p0 : Int32) : entryFrame m #[(.int p0)] maxLocals = mkF m 0 #[.val (.int p0), .unset, .unset, .unset, .unset, .unset, .unset, .unset] [] := by first | (simp [entryFrame, mkF, argsToLocals, Value.category, maxLocals]; done) | rfl
def Q0 (Z : State) (p0 : Int32) (w_FULL : Addr) (w_STROKE : Addr) (w_DC : Addr) (h0 : Heap) (n0 : Nat) (v : Option Value) (h : Heap) (L : List Loc) : Prop := v = some (.int (1 : Int32)) ∧ Fr n0 L
set_option maxRecDepth 65536 in
set_option maxHeartbeats 40000000 in
theorem rm0 (l : Launch) (Z : State) (a0 : Array Value) (hw : ∀ d ∈ tables_1, d.before a0 Z = true) (ws : List Jvm.Cond) (p0 : Int32) (w_FULL : Addr) (w_STROKE : Addr) (w_DC : Addr) (h0 : Heap) (n0 : Nat) (Z0 : n0 ≤ h0.size) (S_FULL : Sta Z h0 "com/example/reactions_to_maps/reactionstomaps/layout/CorridorRouter$Pitch" "FULL" "Lcom/example/reactions_to_maps/reactionstomaps/layout/CorridorRouter$Pitch;" (.ref w_FULL)) (S_STROKE : Sta Z h0 "com/example/reactions_to_maps/reactionstomaps/layout/CorridorRouter$Pitch" "STROKE" "Lcom/example/reactions_to_maps/reactionstomaps/layout/CorridorRouter$Pitch;" (.ref w_STROKE)) (E_FULL : Exa Z h0 w_FULL "com/example/reactions_to_maps/reactionstomaps/layout/CorridorRouter$Pitch") (E_STROKE : Exa Z h0 w_STROKE "com/example/reactions_to_maps/reactionstomaps/layout/CorridorRouter$Pitch") (O_FULL_distance : Fld Z h0 w_FULL "com/example/reactions_to_maps/reactionstomaps/layout/CorridorRouter$Pitch" "distance" "D" (.double (4618441417868443648 : UInt64))) (O_STROKE_distance : Fld Z h0 w_STROKE "com/example/reactions_to_maps/reactionstomaps/layout/CorridorRouter$Pitch" "distance" "D" (.double (4609434218613702656 : UInt64))) (S_DC : Sta Z h0 "java/util/ArrayList" "DEFAULTCAPACITY_EMPTY_ELEMENTDATA" "[Ljava/lang/Object;" (.ref w_DC)) :
    MetFree l x (head1 (Jvm.Cond.code x code maxLocals ret :: ws) room_1) (fun a U => a = #[(.int p0)] ∧ Z.Warmed39 U.vm ∧ U.heap = h0) (fun _ _ _ _ _ => True) (fun _ U o U' => ∃ v L, o = .returned v ∧ Q0 Z p0 w_FULL w_STROKE w_DC h0 n0 v U'.heap L ∧ FrameEnd U o U' L room_1.cells room_1.slots) := by
  refine MetFree.of_bodySF (plainFor_of_name pn_0) hisR ?_
  intro p e s m args below meth c s₁ Bd hml0 hP hK
  obtain ⟨rfl, hZ, hh⟩ := hP
  have hx := Bd.exec
  have hlk : meth.locks = false := BodyLoose.notSynchronized Bd
  have hby := Bd.bytes
  have hml : c.maxLocals = 8 := hml0
  have hown : s.vm.findClass "com/example/reactions_to_maps/reactionstomaps/layout/PlanCrowdedPinLaw" = some m.cls := findClass_of_methodNamed Bd.named
  have hnm := (name_of_methodNamed Bd.named Bd.method).1
  have X0 : Stand p l e room_1 s m #[(.int p0)] below meth c s₁ [] 0 0 := Stand.of_body Bd
  have e0 : s₁.heap = h0 := by rw [← hh, Bd.state]; rfl
  have N0 := Fr.nil n0
  refine own_go (A' := (s₁.setTop (mkF m 0 #[.val (.int p0), .unset, .unset, .unset, .unset, .unset, .unset, .unset] []))) (fun t k => castTop (ef_0 m p0) k) ?_
  obtain ⟨T15, h15, X15, e15, E15, A15, D15, -, st15⟩ := newO X0 hx hZ hown (hw _ (List.mem_of_getElem? (i := 1) rfl)) (hw _ (List.mem_of_getElem? (i := 2) rfl)) (hw _ (List.mem_of_getElem? (i := 3) rfl)) e0 (g := (mkF m 7 #[.val (.int p0), .val (.double (FP.ddiv (FP.i2d p0) (4616189618054758400 : UInt64))), .second, .unset, .unset, .unset, .unset, .unset] [])) rfl (hb hby at_7) (by decide) (by decide)
  obtain ⟨b15, g15⟩ : ∃ z, z = h0.size := ⟨_, rfl⟩
  have sz_b15 : h0.size ≤ b15 := Nat.le_of_eq g15.symm
  rw [← g15] at A15 D15 st15
  have K15 : Keep h0 h15 [] := (Keep.refl h0 []).ext E15
  have B15 : Ext h0 h15 := own_keep_ext K15
  have F15_tops : Fld Z h15 b15 "com/example/reactions_to_maps/reactionstomaps/layout/CorridorRouter$Plan" "tops" "Ljava/util/List;" .null := D15 (Or.inr (hw _ (List.mem_of_getElem? (i := 40) rfl))) (ty := (.object "java/util/List")) (by decide)
  have F15_pitch : Fld Z h15 b15 "com/example/reactions_to_maps/reactionstomaps/layout/CorridorRouter$Plan" "pitch" "D" (.double 0) := D15 (Or.inr (hw _ (List.mem_of_getElem? (i := 42) rfl))) (ty := .double) (by decide)
  have F15_rooms : Fld Z h15 b15 "com/example/reactions_to_maps/reactionstomaps/layout/CorridorRouter$Plan" "rooms" "Ljava/util/Map;" .null := D15 (Or.inr (hw _ (List.mem_of_getElem? (i := 44) rfl))) (ty := (.object "java/util/Map")) (by decide)
  obtain ⟨T16, h16, X16, e16, E16, A16, D16, -, st16⟩ := newO X15 hx hZ hown (hw _ (List.mem_of_getElem? (i := 4) rfl)) (hw _ (List.mem_of_getElem? (i := 5) rfl)) (hw _ (List.mem_of_getElem? (i := 6) rfl)) e15 (g := (mkF m 11 #[.val (.int p0), .val (.double (FP.ddiv (FP.i2d p0) (4616189618054758400 : UInt64))), .second, .unset, .unset, .unset, .unset, .unset] [(.ref b15), (.ref b15)])) rfl (hb hby at_11) (by decide) (by decide)
  obtain ⟨b16, g16⟩ : ∃ z, z = h15.size := ⟨_, rfl⟩
  have sz_b16 : h0.size ≤ b16 := Nat.le_trans K15.1 (Nat.le_of_eq g16.symm)
  have ne_b15_b16 : b15 ≠ b16 := Nat.ne_of_lt (Nat.lt_of_lt_of_le A15.lt (Nat.le_of_eq g16.symm))
  rw [← g16] at A16 D16 st16
  have K16 : Keep h0 h16 [] := K15.ext E16
  have B16 : Ext h0 h16 := own_keep_ext K16
  have F16_modCount : Fld Z h16 b16 "java/util/AbstractList" "modCount" "I" (.int (0 : Int32)) := D16 (Or.inl (hw _ (List.mem_of_getElem? (i := 26) rfl))) (ty := .int) (by decide)
  have F16_elementData : Fld Z h16 b16 "java/util/ArrayList" "elementData" "[Ljava/lang/Object;" .null := D16 (Or.inl (hw _ (List.mem_of_getElem? (i := 29) rfl))) (ty := (.array (.object "java/lang/Object"))) (by decide)
  obtain ⟨_, _, ⟨T17, L17, k17, n17⟩, -, X17, ⟨Lc17, hQ17, l17, y17, z17⟩, st17⟩ := X16.specialBack hx (y := (⟨"java/util/ArrayList", "<init>", "()V"⟩ : MethodName)) rfl hown (mvT hZ (hw _ (List.mem_of_getElem? (i := 7) rfl))) (mvT hZ (hw _ (List.mem_of_getElem? (i := 8) rfl))) (mvT hZ (hw _ (List.mem_of_getElem? (i := 9) rfl))) (by decide) (backOf (W := 3) (rm1 l Z a0 hw [] b16 w_DC h16 n0 (Nat.le_trans Z0 K16.1) A16 F16_modCount F16_elementData (Nat.le_trans Z0 sz_b16) (S_DC.ext B16)) hZ (hw _ (List.mem_of_getElem? (i := 9) rfl)) (hw _ (List.mem_of_getElem? (i := 6) rfl)) (by decide) (by decide)) (g := (mkF m 15 #[.val (.int p0), .val (.double (FP.ddiv (FP.i2d p0) (4616189618054758400 : UInt64))), .second, .unset, .unset, .unset, .unset, .unset] [(.ref b16), (.ref b16), (.ref b15), (.ref b15)])) rfl (by rw [hml]; rfl) (Steps.refl _) (a := b16) (argsL := []) (rest := [(.ref b16), (.ref b15), (.ref b15)]) (lenOf pd_0 rfl) rfl (by show 2 * 0 + _ ≤ _; exact Nat.le_of_eq rfl) (hb hby at_15) (fun _ _ => ⟨rfl, e16, (by decide : 2 + 0 ≤ _), (by decide : 6 + 0 ≤ _)⟩)
  dsimp only [Pt.U, Pt.locs, Pt.cells, Pt.slots] at X17 l17 y17 z17 st17 hQ17
  subst l17 y17 z17
  obtain ⟨rfl, N17q, K17q⟩ := hQ17
  have N17 := Fr.app N0 N17q
  have K17 : Keep h0 T17.heap [] := K16.trans K17q (allS (Or.inr sz_b16) all0)
  have B17 : Ext h0 T17.heap := own_keep_ext K17
  obtain ⟨_, _, ⟨T18, L18, k18, n18⟩, -, X18, ⟨Lc18, hQ18, l18, y18, z18⟩, st18⟩ := X17.specialBack hx (y := (⟨"com/example/reactions_to_maps/reactionstomaps/layout/CorridorRouter$Plan", "<init>", "(Ljava/util/List;DLjava/util/Map;)V"⟩ : MethodName)) rfl hown (mvT hZ (hw _ (List.mem_of_getElem? (i := 30) rfl))) (mvT hZ (hw _ (List.mem_of_getElem? (i := 31) rfl))) (mvT hZ (hw _ (List.mem_of_getElem? (i := 32) rfl))) (by decide) (backOf (W := 1) (rm5 l Z a0 hw [] b15 b16 (FP.ddiv (FP.i2d p0) (4616189618054758400 : UInt64))  T17.heap n0 (Nat.le_trans Z0 K17.1) ((A15.ext E16).keep K17q) ((F15_tops.ext E16).keep K17q (ninS ne_b15_b16 nin0)) ((F15_pitch.ext E16).keep K17q (ninS ne_b15_b16 nin0)) ((F15_rooms.ext E16).keep K17q (ninS ne_b15_b16 nin0)) (Nat.le_trans Z0 sz_b15) ) hZ (hw _ (List.mem_of_getElem? (i := 32) rfl)) (hw _ (List.mem_of_getElem? (i := 3) rfl)) (by decide) (by decide)) (g := (mkF m 20 #[.val (.int p0), .val (.double (FP.ddiv (FP.i2d p0) (4616189618054758400 : UInt64))), .second, .unset, .unset, .unset, .unset, .unset] [.null, (.double (FP.ddiv (FP.i2d p0) (4616189618054758400 : UInt64))), (.ref b16), (.ref b15), (.ref b15)])) rfl (by rw [hml]; rfl) (Steps.refl _) (a := b15) (argsL := [(.ref b16), (.double (FP.ddiv (FP.i2d p0) (4616189618054758400 : UInt64))), .null]) (rest := [(.ref b15)]) (lenOf pd_1 rfl) rfl (by show 2 * 0 + _ ≤ _; exact Nat.le_of_eq rfl) (hb hby at_20) (fun _ _ => ⟨rfl, rfl, (by decide : 2 + 0 ≤ _), (by decide : 6 + 0 ≤ _)⟩)
  dsimp only [Pt.U, Pt.locs, Pt.cells, Pt.slots] at X18 l18 y18 z18 st18 hQ18
  subst l18 y18 z18
  obtain ⟨rfl, N18q, K18q, E18q, F18q⟩ := hQ18
  have N18 := Fr.app N17 N18q
  have K18 : Keep h0 T18.heap [] := K17.trans K18q (allS (Or.inr sz_b15) all0)
  have B18 : Ext h0 T18.heap := own_keep_ext K18
  obtain ⟨T19, X19, e19, st19⟩ := getS2 X18 hx hZ hown (host := "") (Or.inl (hw _ (List.mem_of_getElem? (i := 45) rfl))) Via.refl rfl (S_FULL.ext B18) (g := (mkF m 25 #[.val (.int p0), .val (.double (FP.ddiv (FP.i2d p0) (4616189618054758400 : UInt64))), .second, .val (.ref b15), .unset, .unset, .unset, .unset] [(.ref b15)])) rfl (hb hby at_25)
  obtain ⟨cq20, kq20, q20a, q20b, q20c⟩ := isOf hZ e19 E18q
  obtain ⟨_, _, ⟨T20, L20, k20, n20⟩, -, X20, ⟨Lc20, hQ20, l20, y20, z20⟩, st20⟩ := X19.virtualBack hx (y := (⟨"com/example/reactions_to_maps/reactionstomaps/layout/CorridorRouter$Plan", "crowded", "(Lcom/example/reactions_to_maps/reactionstomaps/layout/CorridorRouter$Pitch;)Z"⟩ : MethodName)) (z := (⟨"com/example/reactions_to_maps/reactionstomaps/layout/CorridorRouter$Plan", "crowded", "(Lcom/example/reactions_to_maps/reactionstomaps/layout/CorridorRouter$Pitch;)Z"⟩ : MethodName)) hown (mvT hZ (hw _ (List.mem_of_getElem? (i := 48) rfl))) (mvT hZ (hw _ (List.mem_of_getElem? (i := 49) rfl))) (notFace_of_selects (args := #[]) (mvT hZ (hw _ (List.mem_of_getElem? (i := 51) rfl)))) (mvT hZ (hw _ (List.mem_of_getElem? (i := 51) rfl))) (mvT hZ (hw _ (List.mem_of_getElem? (i := 50) rfl))) (by decide) (backOf (W := 0) (rm7 l Z a0 hw [] b15 w_FULL (FP.ddiv (FP.i2d p0) (4616189618054758400 : UInt64)) (4618441417868443648 : UInt64) T18.heap n0 (Nat.le_trans Z0 K18.1) F18q (O_FULL_distance.ext B18)) hZ (hw _ (List.mem_of_getElem? (i := 52) rfl)) (hw _ (List.mem_of_getElem? (i := 3) rfl)) (by decide) (by decide)) q20a q20c (g := (mkF m 28 #[.val (.int p0), .val (.double (FP.ddiv (FP.i2d p0) (4616189618054758400 : UInt64))), .second, .val (.ref b15), .unset, .unset, .unset, .unset] [(.ref w_FULL), (.ref b15)])) rfl (by rw [hml]; rfl) (Steps.refl _) (argsL := [(.ref w_FULL)]) (rest := []) (lenOf pd_2 rfl) rfl (by show 2 * 0 + _ ≤ _; exact Nat.le_of_eq rfl) (hb hby at_28) (fun _ _ => ⟨rfl, e19, (by decide : 2 + 0 ≤ _), (by decide : 6 + 0 ≤ _)⟩)
  dsimp only [Pt.U, Pt.locs, Pt.cells, Pt.slots] at X20 l20 y20 z20 st20 hQ20
  subst l20 y20 z20
  obtain ⟨rfl, N20q, e20⟩ := hQ20
  have N20 := Fr.app N18 N20q
  obtain ⟨T21, X21, e21, st21⟩ := getS2 X20 hx hZ hown (host := "") (Or.inl (hw _ (List.mem_of_getElem? (i := 55) rfl))) Via.refl e20 (S_STROKE.ext B18) (g := (mkF m 34 #[.val (.int p0), .val (.double (FP.ddiv (FP.i2d p0) (4616189618054758400 : UInt64))), .second, .val (.ref b15), .val (.int (cr (FP.ddiv (FP.i2d p0) (4616189618054758400 : UInt64)) (4618441417868443648 : UInt64))), .unset, .unset, .unset] [(.ref b15)])) rfl (hb hby at_34)
  obtain ⟨cq22, kq22, q22a, q22b, q22c⟩ := isOf hZ e21 E18q
  obtain ⟨_, _, ⟨T22, L22, k22, n22⟩, -, X22, ⟨Lc22, hQ22, l22, y22, z22⟩, st22⟩ := X21.virtualBack hx (y := (⟨"com/example/reactions_to_maps/reactionstomaps/layout/CorridorRouter$Plan", "crowded", "(Lcom/example/reactions_to_maps/reactionstomaps/layout/CorridorRouter$Pitch;)Z"⟩ : MethodName)) (z := (⟨"com/example/reactions_to_maps/reactionstomaps/layout/CorridorRouter$Plan", "crowded", "(Lcom/example/reactions_to_maps/reactionstomaps/layout/CorridorRouter$Pitch;)Z"⟩ : MethodName)) hown (mvT hZ (hw _ (List.mem_of_getElem? (i := 48) rfl))) (mvT hZ (hw _ (List.mem_of_getElem? (i := 49) rfl))) (notFace_of_selects (args := #[]) (mvT hZ (hw _ (List.mem_of_getElem? (i := 51) rfl)))) (mvT hZ (hw _ (List.mem_of_getElem? (i := 51) rfl))) (mvT hZ (hw _ (List.mem_of_getElem? (i := 50) rfl))) (by decide) (backOf (W := 0) (rm7 l Z a0 hw [] b15 w_STROKE (FP.ddiv (FP.i2d p0) (4616189618054758400 : UInt64)) (4609434218613702656 : UInt64) T18.heap n0 (Nat.le_trans Z0 K18.1) F18q (O_STROKE_distance.ext B18)) hZ (hw _ (List.mem_of_getElem? (i := 52) rfl)) (hw _ (List.mem_of_getElem? (i := 3) rfl)) (by decide) (by decide)) q22a q22c (g := (mkF m 37 #[.val (.int p0), .val (.double (FP.ddiv (FP.i2d p0) (4616189618054758400 : UInt64))), .second, .val (.ref b15), .val (.int (cr (FP.ddiv (FP.i2d p0) (4616189618054758400 : UInt64)) (4618441417868443648 : UInt64))), .unset, .unset, .unset] [(.ref w_STROKE), (.ref b15)])) rfl (by rw [hml]; rfl) (Steps.refl _) (argsL := [(.ref w_STROKE)]) (rest := []) (lenOf pd_2 rfl) rfl (by show 2 * 0 + _ ≤ _; exact Nat.le_of_eq rfl) (hb hby at_37) (fun _ _ => ⟨rfl, e21, (by decide : 2 + 0 ≤ _), (by decide : 6 + 0 ≤ _)⟩)
  dsimp only [Pt.U, Pt.locs, Pt.cells, Pt.slots] at X22 l22 y22 z22 st22 hQ22
  subst l22 y22 z22
  obtain ⟨rfl, N22q, e22⟩ := hQ22
  have N22 := Fr.app N20 N22q
  refine own_go (A' := (T22.setTop (mkF m 45 #[.val (.int p0), .val (.double (FP.ddiv (FP.i2d p0) (4616189618054758400 : UInt64))), .second, .val (.ref b15), .val (.int (cr (FP.ddiv (FP.i2d p0) (4616189618054758400 : UInt64)) (4618441417868443648 : UInt64))), .val (.int (cr (FP.ddiv (FP.i2d p0) (4616189618054758400 : UInt64)) (4609434218613702656 : UInt64))), .unset, .unset] [(.int (24 : Int32)), (.int p0)]))) (fun t k => ?_) ?_
  · show Steps p.tables e below (s₁.setTop (mkF m 0 #[.val (.int p0), .unset, .unset, .unset, .unset, .unset, .unset, .unset] [])) _
    refine XS.iloadN X0.here hx rfl (hb hby at_0) rfl ?_
    show Steps p.tables e below (s₁.setTop (mkF m 1 #[.val (.int p0), .unset, .unset, .unset, .unset, .unset, .unset, .unset] [(.int p0)])) _
    refine XS.i2dS X0.here hx rfl (hb hby at_1) rfl rfl ?_
    show Steps p.tables e below (s₁.setTop (mkF m 2 #[.val (.int p0), .unset, .unset, .unset, .unset, .unset, .unset, .unset] [(.double (FP.i2d p0))])) _
    refine X0.ldc2DoubleC hx hown (mvT hZ (hw _ (List.mem_of_getElem? (i := 0) rfl))) (g := (mkF m 2 #[.val (.int p0), .unset, .unset, .unset, .unset, .unset, .unset, .unset] [(.double (FP.i2d p0))])) rfl (hb hby at_2) _ ?_
    show Steps p.tables e below (s₁.setTop (mkF m 5 #[.val (.int p0), .unset, .unset, .unset, .unset, .unset, .unset, .unset] [(.double (4616189618054758400 : UInt64)), (.double (FP.i2d p0))])) _
    refine XS.ddivS X0.here hx rfl (hb hby at_5) rfl (own_nonan p0) rfl ?_
    show Steps p.tables e below (s₁.setTop (mkF m 6 #[.val (.int p0), .unset, .unset, .unset, .unset, .unset, .unset, .unset] [(.double (FP.ddiv (FP.i2d p0) (4616189618054758400 : UInt64)))])) _
    refine XS.dstoreN X0.here hx rfl (hb hby at_6) rfl (l' := #[.val (.int p0), .val (.double (FP.ddiv (FP.i2d p0) (4616189618054758400 : UInt64))), .second, .unset, .unset, .unset, .unset, .unset]) rfl ?_
    show Steps p.tables e below (s₁.setTop (mkF m 7 #[.val (.int p0), .val (.double (FP.ddiv (FP.i2d p0) (4616189618054758400 : UInt64))), .second, .unset, .unset, .unset, .unset, .unset] [])) _
    refine st15 _ ?_
    show Steps p.tables e below (T15.setTop (mkF m 10 #[.val (.int p0), .val (.double (FP.ddiv (FP.i2d p0) (4616189618054758400 : UInt64))), .second, .unset, .unset, .unset, .unset, .unset] [(.ref b15)])) _
    refine XS.dup X15.here hx rfl (hb hby at_10) rfl rfl ?_
    show Steps p.tables e below (T15.setTop (mkF m 11 #[.val (.int p0), .val (.double (FP.ddiv (FP.i2d p0) (4616189618054758400 : UInt64))), .second, .unset, .unset, .unset, .unset, .unset] [(.ref b15), (.ref b15)])) _
    refine st16 _ ?_
    show Steps p.tables e below (T16.setTop (mkF m 14 #[.val (.int p0), .val (.double (FP.ddiv (FP.i2d p0) (4616189618054758400 : UInt64))), .second, .unset, .unset, .unset, .unset, .unset] [(.ref b16), (.ref b15), (.ref b15)])) _
    refine XS.dup X16.here hx rfl (hb hby at_14) rfl rfl ?_
    show Steps p.tables e below (T16.setTop (mkF m 15 #[.val (.int p0), .val (.double (FP.ddiv (FP.i2d p0) (4616189618054758400 : UInt64))), .second, .unset, .unset, .unset, .unset, .unset] [(.ref b16), (.ref b16), (.ref b15), (.ref b15)])) _
    refine st17.trans ?_
    show Steps p.tables e below (T17.setTop (mkF m 18 #[.val (.int p0), .val (.double (FP.ddiv (FP.i2d p0) (4616189618054758400 : UInt64))), .second, .unset, .unset, .unset, .unset, .unset] [(.ref b16), (.ref b15), (.ref b15)])) _
    refine XS.dloadN X17.here hx rfl (hb hby at_18) rfl ?_
    show Steps p.tables e below (T17.setTop (mkF m 19 #[.val (.int p0), .val (.double (FP.ddiv (FP.i2d p0) (4616189618054758400 : UInt64))), .second, .unset, .unset, .unset, .unset, .unset] [(.double (FP.ddiv (FP.i2d p0) (4616189618054758400 : UInt64))), (.ref b16), (.ref b15), (.ref b15)])) _
    refine XS.aconstNull X17.here hx rfl (hb hby at_19) ?_
    show Steps p.tables e below (T17.setTop (mkF m 20 #[.val (.int p0), .val (.double (FP.ddiv (FP.i2d p0) (4616189618054758400 : UInt64))), .second, .unset, .unset, .unset, .unset, .unset] [.null, (.double (FP.ddiv (FP.i2d p0) (4616189618054758400 : UInt64))), (.ref b16), (.ref b15), (.ref b15)])) _
    refine st18.trans ?_
    show Steps p.tables e below (T18.setTop (mkF m 23 #[.val (.int p0), .val (.double (FP.ddiv (FP.i2d p0) (4616189618054758400 : UInt64))), .second, .unset, .unset, .unset, .unset, .unset] [(.ref b15)])) _
    refine XS.astoreN X18.here hx rfl (hb hby at_23) rfl rfl (l' := #[.val (.int p0), .val (.double (FP.ddiv (FP.i2d p0) (4616189618054758400 : UInt64))), .second, .val (.ref b15), .unset, .unset, .unset, .unset]) rfl ?_
    show Steps p.tables e below (T18.setTop (mkF m 24 #[.val (.int p0), .val (.double (FP.ddiv (FP.i2d p0) (4616189618054758400 : UInt64))), .second, .val (.ref b15), .unset, .unset, .unset, .unset] [])) _
    refine XS.aloadN X18.here hx rfl (hb hby at_24) rfl rfl ?_
    show Steps p.tables e below (T18.setTop (mkF m 25 #[.val (.int p0), .val (.double (FP.ddiv (FP.i2d p0) (4616189618054758400 : UInt64))), .second, .val (.ref b15), .unset, .unset, .unset, .unset] [(.ref b15)])) _
    refine st19 _ ?_
    show Steps p.tables e below (T19.setTop (mkF m 28 #[.val (.int p0), .val (.double (FP.ddiv (FP.i2d p0) (4616189618054758400 : UInt64))), .second, .val (.ref b15), .unset, .unset, .unset, .unset] [(.ref w_FULL), (.ref b15)])) _
    refine st20.trans ?_
    show Steps p.tables e below (T20.setTop (mkF m 31 #[.val (.int p0), .val (.double (FP.ddiv (FP.i2d p0) (4616189618054758400 : UInt64))), .second, .val (.ref b15), .unset, .unset, .unset, .unset] [(.int (cr (FP.ddiv (FP.i2d p0) (4616189618054758400 : UInt64)) (4618441417868443648 : UInt64)))])) _
    refine XS.istore X20.here hx rfl (hb hby at_31) rfl (l' := #[.val (.int p0), .val (.double (FP.ddiv (FP.i2d p0) (4616189618054758400 : UInt64))), .second, .val (.ref b15), .val (.int (cr (FP.ddiv (FP.i2d p0) (4616189618054758400 : UInt64)) (4618441417868443648 : UInt64))), .unset, .unset, .unset]) rfl ?_
    show Steps p.tables e below (T20.setTop (mkF m 33 #[.val (.int p0), .val (.double (FP.ddiv (FP.i2d p0) (4616189618054758400 : UInt64))), .second, .val (.ref b15), .val (.int (cr (FP.ddiv (FP.i2d p0) (4616189618054758400 : UInt64)) (4618441417868443648 : UInt64))), .unset, .unset, .unset] [])) _
    refine XS.aloadN X20.here hx rfl (hb hby at_33) rfl rfl ?_
    show Steps p.tables e below (T20.setTop (mkF m 34 #[.val (.int p0), .val (.double (FP.ddiv (FP.i2d p0) (4616189618054758400 : UInt64))), .second, .val (.ref b15), .val (.int (cr (FP.ddiv (FP.i2d p0) (4616189618054758400 : UInt64)) (4618441417868443648 : UInt64))), .unset, .unset, .unset] [(.ref b15)])) _
    refine st21 _ ?_
    show Steps p.tables e below (T21.setTop (mkF m 37 #[.val (.int p0), .val (.double (FP.ddiv (FP.i2d p0) (4616189618054758400 : UInt64))), .second, .val (.ref b15), .val (.int (cr (FP.ddiv (FP.i2d p0) (4616189618054758400 : UInt64)) (4618441417868443648 : UInt64))), .unset, .unset, .unset] [(.ref w_STROKE), (.ref b15)])) _
    refine st22.trans ?_
    show Steps p.tables e below (T22.setTop (mkF m 40 #[.val (.int p0), .val (.double (FP.ddiv (FP.i2d p0) (4616189618054758400 : UInt64))), .second, .val (.ref b15), .val (.int (cr (FP.ddiv (FP.i2d p0) (4616189618054758400 : UInt64)) (4618441417868443648 : UInt64))), .unset, .unset, .unset] [(.int (cr (FP.ddiv (FP.i2d p0) (4616189618054758400 : UInt64)) (4609434218613702656 : UInt64)))])) _
    refine XS.istore X22.here hx rfl (hb hby at_40) rfl (l' := #[.val (.int p0), .val (.double (FP.ddiv (FP.i2d p0) (4616189618054758400 : UInt64))), .second, .val (.ref b15), .val (.int (cr (FP.ddiv (FP.i2d p0) (4616189618054758400 : UInt64)) (4618441417868443648 : UInt64))), .val (.int (cr (FP.ddiv (FP.i2d p0) (4616189618054758400 : UInt64)) (4609434218613702656 : UInt64))), .unset, .unset]) rfl ?_
    show Steps p.tables e below (T22.setTop (mkF m 42 #[.val (.int p0), .val (.double (FP.ddiv (FP.i2d p0) (4616189618054758400 : UInt64))), .second, .val (.ref b15), .val (.int (cr (FP.ddiv (FP.i2d p0) (4616189618054758400 : UInt64)) (4618441417868443648 : UInt64))), .val (.int (cr (FP.ddiv (FP.i2d p0) (4616189618054758400 : UInt64)) (4609434218613702656 : UInt64))), .unset, .unset] [])) _
    refine XS.iloadN X22.here hx rfl (hb hby at_42) rfl ?_
    show Steps p.tables e below (T22.setTop (mkF m 43 #[.val (.int p0), .val (.double (FP.ddiv (FP.i2d p0) (4616189618054758400 : UInt64))), .second, .val (.ref b15), .val (.int (cr (FP.ddiv (FP.i2d p0) (4616189618054758400 : UInt64)) (4618441417868443648 : UInt64))), .val (.int (cr (FP.ddiv (FP.i2d p0) (4616189618054758400 : UInt64)) (4609434218613702656 : UInt64))), .unset, .unset] [(.int p0)])) _
    refine XS.bipush X22.here hx rfl (hb hby at_43) ?_
    exact k
  by_cases hc23 : p0 < (24 : Int32)
  · -- hc23: yes
    refine own_go (A' := (T22.setTop (mkF m 48 #[.val (.int p0), .val (.double (FP.ddiv (FP.i2d p0) (4616189618054758400 : UInt64))), .second, .val (.ref b15), .val (.int (cr (FP.ddiv (FP.i2d p0) (4616189618054758400 : UInt64)) (4618441417868443648 : UInt64))), .val (.int (cr (FP.ddiv (FP.i2d p0) (4616189618054758400 : UInt64)) (4609434218613702656 : UInt64))), .unset, .unset] []))) (fun t k => XS.icmpNo X22.here hx rfl (hb hby at_45) rfl (tlt hc23).2.1 k) ?_
    refine own_go (A' := (T22.setTop (mkF m 58 #[.val (.int p0), .val (.double (FP.ddiv (FP.i2d p0) (4616189618054758400 : UInt64))), .second, .val (.ref b15), .val (.int (cr (FP.ddiv (FP.i2d p0) (4616189618054758400 : UInt64)) (4618441417868443648 : UInt64))), .val (.int (cr (FP.ddiv (FP.i2d p0) (4616189618054758400 : UInt64)) (4609434218613702656 : UInt64))), .val (.int (1 : Int32)), .unset] [(.int (6 : Int32)), (.int p0)]))) (fun t k => ?_) ?_
    · show Steps p.tables e below (T22.setTop (mkF m 48 #[.val (.int p0), .val (.double (FP.ddiv (FP.i2d p0) (4616189618054758400 : UInt64))), .second, .val (.ref b15), .val (.int (cr (FP.ddiv (FP.i2d p0) (4616189618054758400 : UInt64)) (4618441417868443648 : UInt64))), .val (.int (cr (FP.ddiv (FP.i2d p0) (4616189618054758400 : UInt64)) (4609434218613702656 : UInt64))), .unset, .unset] [])) _
      refine XS.iconst X22.here hx rfl (hb hby at_48) ?_
      show Steps p.tables e below (T22.setTop (mkF m 49 #[.val (.int p0), .val (.double (FP.ddiv (FP.i2d p0) (4616189618054758400 : UInt64))), .second, .val (.ref b15), .val (.int (cr (FP.ddiv (FP.i2d p0) (4616189618054758400 : UInt64)) (4618441417868443648 : UInt64))), .val (.int (cr (FP.ddiv (FP.i2d p0) (4616189618054758400 : UInt64)) (4609434218613702656 : UInt64))), .unset, .unset] [(.int (1 : Int32))])) _
      refine XS.goto X22.here hx rfl (pc0 := 49) (pc' := 53) rfl (hb hby at_49) (by decide) (by decide) ?_
      show Steps p.tables e below (T22.setTop (mkF m 53 #[.val (.int p0), .val (.double (FP.ddiv (FP.i2d p0) (4616189618054758400 : UInt64))), .second, .val (.ref b15), .val (.int (cr (FP.ddiv (FP.i2d p0) (4616189618054758400 : UInt64)) (4618441417868443648 : UInt64))), .val (.int (cr (FP.ddiv (FP.i2d p0) (4616189618054758400 : UInt64)) (4609434218613702656 : UInt64))), .unset, .unset] [(.int (1 : Int32))])) _
      refine XS.istore X22.here hx rfl (hb hby at_53) rfl (l' := #[.val (.int p0), .val (.double (FP.ddiv (FP.i2d p0) (4616189618054758400 : UInt64))), .second, .val (.ref b15), .val (.int (cr (FP.ddiv (FP.i2d p0) (4616189618054758400 : UInt64)) (4618441417868443648 : UInt64))), .val (.int (cr (FP.ddiv (FP.i2d p0) (4616189618054758400 : UInt64)) (4609434218613702656 : UInt64))), .val (.int (1 : Int32)), .unset]) rfl ?_
      show Steps p.tables e below (T22.setTop (mkF m 55 #[.val (.int p0), .val (.double (FP.ddiv (FP.i2d p0) (4616189618054758400 : UInt64))), .second, .val (.ref b15), .val (.int (cr (FP.ddiv (FP.i2d p0) (4616189618054758400 : UInt64)) (4618441417868443648 : UInt64))), .val (.int (cr (FP.ddiv (FP.i2d p0) (4616189618054758400 : UInt64)) (4609434218613702656 : UInt64))), .val (.int (1 : Int32)), .unset] [])) _
      refine XS.iloadN X22.here hx rfl (hb hby at_55) rfl ?_
      show Steps p.tables e below (T22.setTop (mkF m 56 #[.val (.int p0), .val (.double (FP.ddiv (FP.i2d p0) (4616189618054758400 : UInt64))), .second, .val (.ref b15), .val (.int (cr (FP.ddiv (FP.i2d p0) (4616189618054758400 : UInt64)) (4618441417868443648 : UInt64))), .val (.int (cr (FP.ddiv (FP.i2d p0) (4616189618054758400 : UInt64)) (4609434218613702656 : UInt64))), .val (.int (1 : Int32)), .unset] [(.int p0)])) _
      refine XS.bipush X22.here hx rfl (hb hby at_56) ?_
      exact k
    by_cases hc24 : p0 < (6 : Int32)
    · -- hc24: yes
      refine own_go (A' := (T22.setTop (mkF m 61 #[.val (.int p0), .val (.double (FP.ddiv (FP.i2d p0) (4616189618054758400 : UInt64))), .second, .val (.ref b15), .val (.int (cr (FP.ddiv (FP.i2d p0) (4616189618054758400 : UInt64)) (4618441417868443648 : UInt64))), .val (.int (cr (FP.ddiv (FP.i2d p0) (4616189618054758400 : UInt64)) (4609434218613702656 : UInt64))), .val (.int (1 : Int32)), .unset] []))) (fun t k => XS.icmpNo X22.here hx rfl (hb hby at_58) rfl (tlt hc24).2.1 k) ?_
      refine own_go (A' := (T22.setTop (mkF m 72 #[.val (.int p0), .val (.double (FP.ddiv (FP.i2d p0) (4616189618054758400 : UInt64))), .second, .val (.ref b15), .val (.int (cr (FP.ddiv (FP.i2d p0) (4616189618054758400 : UInt64)) (4618441417868443648 : UInt64))), .val (.int (cr (FP.ddiv (FP.i2d p0) (4616189618054758400 : UInt64)) (4609434218613702656 : UInt64))), .val (.int (1 : Int32)), .val (.int (1 : Int32))] [(.int (1 : Int32)), (.int (cr (FP.ddiv (FP.i2d p0) (4616189618054758400 : UInt64)) (4618441417868443648 : UInt64)))]))) (fun t k => ?_) ?_
      · show Steps p.tables e below (T22.setTop (mkF m 61 #[.val (.int p0), .val (.double (FP.ddiv (FP.i2d p0) (4616189618054758400 : UInt64))), .second, .val (.ref b15), .val (.int (cr (FP.ddiv (FP.i2d p0) (4616189618054758400 : UInt64)) (4618441417868443648 : UInt64))), .val (.int (cr (FP.ddiv (FP.i2d p0) (4616189618054758400 : UInt64)) (4609434218613702656 : UInt64))), .val (.int (1 : Int32)), .unset] [])) _
        refine XS.iconst X22.here hx rfl (hb hby at_61) ?_
        show Steps p.tables e below (T22.setTop (mkF m 62 #[.val (.int p0), .val (.double (FP.ddiv (FP.i2d p0) (4616189618054758400 : UInt64))), .second, .val (.ref b15), .val (.int (cr (FP.ddiv (FP.i2d p0) (4616189618054758400 : UInt64)) (4618441417868443648 : UInt64))), .val (.int (cr (FP.ddiv (FP.i2d p0) (4616189618054758400 : UInt64)) (4609434218613702656 : UInt64))), .val (.int (1 : Int32)), .unset] [(.int (1 : Int32))])) _
        refine XS.goto X22.here hx rfl (pc0 := 62) (pc' := 66) rfl (hb hby at_62) (by decide) (by decide) ?_
        show Steps p.tables e below (T22.setTop (mkF m 66 #[.val (.int p0), .val (.double (FP.ddiv (FP.i2d p0) (4616189618054758400 : UInt64))), .second, .val (.ref b15), .val (.int (cr (FP.ddiv (FP.i2d p0) (4616189618054758400 : UInt64)) (4618441417868443648 : UInt64))), .val (.int (cr (FP.ddiv (FP.i2d p0) (4616189618054758400 : UInt64)) (4609434218613702656 : UInt64))), .val (.int (1 : Int32)), .unset] [(.int (1 : Int32))])) _
        refine XS.istore X22.here hx rfl (hb hby at_66) rfl (l' := #[.val (.int p0), .val (.double (FP.ddiv (FP.i2d p0) (4616189618054758400 : UInt64))), .second, .val (.ref b15), .val (.int (cr (FP.ddiv (FP.i2d p0) (4616189618054758400 : UInt64)) (4618441417868443648 : UInt64))), .val (.int (cr (FP.ddiv (FP.i2d p0) (4616189618054758400 : UInt64)) (4609434218613702656 : UInt64))), .val (.int (1 : Int32)), .val (.int (1 : Int32))]) rfl ?_
        show Steps p.tables e below (T22.setTop (mkF m 68 #[.val (.int p0), .val (.double (FP.ddiv (FP.i2d p0) (4616189618054758400 : UInt64))), .second, .val (.ref b15), .val (.int (cr (FP.ddiv (FP.i2d p0) (4616189618054758400 : UInt64)) (4618441417868443648 : UInt64))), .val (.int (cr (FP.ddiv (FP.i2d p0) (4616189618054758400 : UInt64)) (4609434218613702656 : UInt64))), .val (.int (1 : Int32)), .val (.int (1 : Int32))] [])) _
        refine XS.iload X22.here hx rfl (hb hby at_68) rfl ?_
        show Steps p.tables e below (T22.setTop (mkF m 70 #[.val (.int p0), .val (.double (FP.ddiv (FP.i2d p0) (4616189618054758400 : UInt64))), .second, .val (.ref b15), .val (.int (cr (FP.ddiv (FP.i2d p0) (4616189618054758400 : UInt64)) (4618441417868443648 : UInt64))), .val (.int (cr (FP.ddiv (FP.i2d p0) (4616189618054758400 : UInt64)) (4609434218613702656 : UInt64))), .val (.int (1 : Int32)), .val (.int (1 : Int32))] [(.int (cr (FP.ddiv (FP.i2d p0) (4616189618054758400 : UInt64)) (4618441417868443648 : UInt64)))])) _
        refine XS.iload X22.here hx rfl (hb hby at_70) rfl ?_
        exact k
      refine own_go (A' := (T22.setTop (mkF m 75 #[.val (.int p0), .val (.double (FP.ddiv (FP.i2d p0) (4616189618054758400 : UInt64))), .second, .val (.ref b15), .val (.int (cr (FP.ddiv (FP.i2d p0) (4616189618054758400 : UInt64)) (4618441417868443648 : UInt64))), .val (.int (cr (FP.ddiv (FP.i2d p0) (4616189618054758400 : UInt64)) (4609434218613702656 : UInt64))), .val (.int (1 : Int32)), .val (.int (1 : Int32))] []))) (fun t k => XS.icmpNo X22.here hx rfl (hb hby at_72) rfl (teq ((own_cr6 p0).trans (if_pos hc23))).2 k) ?_
      refine own_go (A' := (T22.setTop (mkF m 79 #[.val (.int p0), .val (.double (FP.ddiv (FP.i2d p0) (4616189618054758400 : UInt64))), .second, .val (.ref b15), .val (.int (cr (FP.ddiv (FP.i2d p0) (4616189618054758400 : UInt64)) (4618441417868443648 : UInt64))), .val (.int (cr (FP.ddiv (FP.i2d p0) (4616189618054758400 : UInt64)) (4609434218613702656 : UInt64))), .val (.int (1 : Int32)), .val (.int (1 : Int32))] [(.int (1 : Int32)), (.int (cr (FP.ddiv (FP.i2d p0) (4616189618054758400 : UInt64)) (4609434218613702656 : UInt64)))]))) (fun t k => ?_) ?_
      · show Steps p.tables e below (T22.setTop (mkF m 75 #[.val (.int p0), .val (.double (FP.ddiv (FP.i2d p0) (4616189618054758400 : UInt64))), .second, .val (.ref b15), .val (.int (cr (FP.ddiv (FP.i2d p0) (4616189618054758400 : UInt64)) (4618441417868443648 : UInt64))), .val (.int (cr (FP.ddiv (FP.i2d p0) (4616189618054758400 : UInt64)) (4609434218613702656 : UInt64))), .val (.int (1 : Int32)), .val (.int (1 : Int32))] [])) _
        refine XS.iload X22.here hx rfl (hb hby at_75) rfl ?_
        show Steps p.tables e below (T22.setTop (mkF m 77 #[.val (.int p0), .val (.double (FP.ddiv (FP.i2d p0) (4616189618054758400 : UInt64))), .second, .val (.ref b15), .val (.int (cr (FP.ddiv (FP.i2d p0) (4616189618054758400 : UInt64)) (4618441417868443648 : UInt64))), .val (.int (cr (FP.ddiv (FP.i2d p0) (4616189618054758400 : UInt64)) (4609434218613702656 : UInt64))), .val (.int (1 : Int32)), .val (.int (1 : Int32))] [(.int (cr (FP.ddiv (FP.i2d p0) (4616189618054758400 : UInt64)) (4609434218613702656 : UInt64)))])) _
        refine XS.iload X22.here hx rfl (hb hby at_77) rfl ?_
        exact k
      refine own_go (A' := (T22.setTop (mkF m 82 #[.val (.int p0), .val (.double (FP.ddiv (FP.i2d p0) (4616189618054758400 : UInt64))), .second, .val (.ref b15), .val (.int (cr (FP.ddiv (FP.i2d p0) (4616189618054758400 : UInt64)) (4618441417868443648 : UInt64))), .val (.int (cr (FP.ddiv (FP.i2d p0) (4616189618054758400 : UInt64)) (4609434218613702656 : UInt64))), .val (.int (1 : Int32)), .val (.int (1 : Int32))] []))) (fun t k => XS.icmpNo X22.here hx rfl (hb hby at_79) rfl (teq ((own_cr1 p0).trans (if_pos hc24))).2 k) ?_
      refine own_go (A' := (T22.setTop (mkF m 87 #[.val (.int p0), .val (.double (FP.ddiv (FP.i2d p0) (4616189618054758400 : UInt64))), .second, .val (.ref b15), .val (.int (cr (FP.ddiv (FP.i2d p0) (4616189618054758400 : UInt64)) (4618441417868443648 : UInt64))), .val (.int (cr (FP.ddiv (FP.i2d p0) (4616189618054758400 : UInt64)) (4609434218613702656 : UInt64))), .val (.int (1 : Int32)), .val (.int (1 : Int32))] [(.int (1 : Int32))]))) (fun t k => ?_) ?_
      · show Steps p.tables e below (T22.setTop (mkF m 82 #[.val (.int p0), .val (.double (FP.ddiv (FP.i2d p0) (4616189618054758400 : UInt64))), .second, .val (.ref b15), .val (.int (cr (FP.ddiv (FP.i2d p0) (4616189618054758400 : UInt64)) (4618441417868443648 : UInt64))), .val (.int (cr (FP.ddiv (FP.i2d p0) (4616189618054758400 : UInt64)) (4609434218613702656 : UInt64))), .val (.int (1 : Int32)), .val (.int (1 : Int32))] [])) _
        refine XS.iconst X22.here hx rfl (hb hby at_82) ?_
        show Steps p.tables e below (T22.setTop (mkF m 83 #[.val (.int p0), .val (.double (FP.ddiv (FP.i2d p0) (4616189618054758400 : UInt64))), .second, .val (.ref b15), .val (.int (cr (FP.ddiv (FP.i2d p0) (4616189618054758400 : UInt64)) (4618441417868443648 : UInt64))), .val (.int (cr (FP.ddiv (FP.i2d p0) (4616189618054758400 : UInt64)) (4609434218613702656 : UInt64))), .val (.int (1 : Int32)), .val (.int (1 : Int32))] [(.int (1 : Int32))])) _
        refine XS.goto X22.here hx rfl (pc0 := 83) (pc' := 87) rfl (hb hby at_83) (by decide) (by decide) ?_
        exact k
      obtain ⟨fs, hr, hrun, hended, hW, hsame⟩ := X22.leave (v := some (.int (1 : Int32))) (fun h => by rw [Bd.returns] at h; cases h) hlk
      refine ⟨_, _, ?_, hrun, hended, _, _, rfl, ?_, ⟨_, rfl⟩, hW, hsame.mono (by decide) (by decide)⟩
      · show Steps p.tables e below (T22.setTop (mkF m 87 #[.val (.int p0), .val (.double (FP.ddiv (FP.i2d p0) (4616189618054758400 : UInt64))), .second, .val (.ref b15), .val (.int (cr (FP.ddiv (FP.i2d p0) (4616189618054758400 : UInt64)) (4618441417868443648 : UInt64))), .val (.int (cr (FP.ddiv (FP.i2d p0) (4616189618054758400 : UInt64)) (4609434218613702656 : UInt64))), .val (.int (1 : Int32)), .val (.int (1 : Int32))] [(.int (1 : Int32))])) _
        exact retN X22 hx (t := .boolean) Bd.returns (by simp) (hb hby at_87) hr
      · show Q0 Z p0 w_FULL w_STROKE w_DC h0 n0 _ T22.heap _
        exact ⟨rfl, N22⟩
    · -- hc24: no
      refine own_go (A' := (T22.setTop (mkF m 65 #[.val (.int p0), .val (.double (FP.ddiv (FP.i2d p0) (4616189618054758400 : UInt64))), .second, .val (.ref b15), .val (.int (cr (FP.ddiv (FP.i2d p0) (4616189618054758400 : UInt64)) (4618441417868443648 : UInt64))), .val (.int (cr (FP.ddiv (FP.i2d p0) (4616189618054758400 : UInt64)) (4609434218613702656 : UInt64))), .val (.int (1 : Int32)), .unset] []))) (fun t k => XS.icmpYes X22.here hx rfl (pc0 := 58) (pc' := 65) rfl (hb hby at_58) rfl (flt hc24).2.1 (by decide) (by decide) k) ?_
      refine own_go (A' := (T22.setTop (mkF m 72 #[.val (.int p0), .val (.double (FP.ddiv (FP.i2d p0) (4616189618054758400 : UInt64))), .second, .val (.ref b15), .val (.int (cr (FP.ddiv (FP.i2d p0) (4616189618054758400 : UInt64)) (4618441417868443648 : UInt64))), .val (.int (cr (FP.ddiv (FP.i2d p0) (4616189618054758400 : UInt64)) (4609434218613702656 : UInt64))), .val (.int (1 : Int32)), .val (.int (0 : Int32))] [(.int (1 : Int32)), (.int (cr (FP.ddiv (FP.i2d p0) (4616189618054758400 : UInt64)) (4618441417868443648 : UInt64)))]))) (fun t k => ?_) ?_
      · show Steps p.tables e below (T22.setTop (mkF m 65 #[.val (.int p0), .val (.double (FP.ddiv (FP.i2d p0) (4616189618054758400 : UInt64))), .second, .val (.ref b15), .val (.int (cr (FP.ddiv (FP.i2d p0) (4616189618054758400 : UInt64)) (4618441417868443648 : UInt64))), .val (.int (cr (FP.ddiv (FP.i2d p0) (4616189618054758400 : UInt64)) (4609434218613702656 : UInt64))), .val (.int (1 : Int32)), .unset] [])) _
        refine XS.iconst X22.here hx rfl (hb hby at_65) ?_
        show Steps p.tables e below (T22.setTop (mkF m 66 #[.val (.int p0), .val (.double (FP.ddiv (FP.i2d p0) (4616189618054758400 : UInt64))), .second, .val (.ref b15), .val (.int (cr (FP.ddiv (FP.i2d p0) (4616189618054758400 : UInt64)) (4618441417868443648 : UInt64))), .val (.int (cr (FP.ddiv (FP.i2d p0) (4616189618054758400 : UInt64)) (4609434218613702656 : UInt64))), .val (.int (1 : Int32)), .unset] [(.int (0 : Int32))])) _
        refine XS.istore X22.here hx rfl (hb hby at_66) rfl (l' := #[.val (.int p0), .val (.double (FP.ddiv (FP.i2d p0) (4616189618054758400 : UInt64))), .second, .val (.ref b15), .val (.int (cr (FP.ddiv (FP.i2d p0) (4616189618054758400 : UInt64)) (4618441417868443648 : UInt64))), .val (.int (cr (FP.ddiv (FP.i2d p0) (4616189618054758400 : UInt64)) (4609434218613702656 : UInt64))), .val (.int (1 : Int32)), .val (.int (0 : Int32))]) rfl ?_
        show Steps p.tables e below (T22.setTop (mkF m 68 #[.val (.int p0), .val (.double (FP.ddiv (FP.i2d p0) (4616189618054758400 : UInt64))), .second, .val (.ref b15), .val (.int (cr (FP.ddiv (FP.i2d p0) (4616189618054758400 : UInt64)) (4618441417868443648 : UInt64))), .val (.int (cr (FP.ddiv (FP.i2d p0) (4616189618054758400 : UInt64)) (4609434218613702656 : UInt64))), .val (.int (1 : Int32)), .val (.int (0 : Int32))] [])) _
        refine XS.iload X22.here hx rfl (hb hby at_68) rfl ?_
        show Steps p.tables e below (T22.setTop (mkF m 70 #[.val (.int p0), .val (.double (FP.ddiv (FP.i2d p0) (4616189618054758400 : UInt64))), .second, .val (.ref b15), .val (.int (cr (FP.ddiv (FP.i2d p0) (4616189618054758400 : UInt64)) (4618441417868443648 : UInt64))), .val (.int (cr (FP.ddiv (FP.i2d p0) (4616189618054758400 : UInt64)) (4609434218613702656 : UInt64))), .val (.int (1 : Int32)), .val (.int (0 : Int32))] [(.int (cr (FP.ddiv (FP.i2d p0) (4616189618054758400 : UInt64)) (4618441417868443648 : UInt64)))])) _
        refine XS.iload X22.here hx rfl (hb hby at_70) rfl ?_
        exact k
      refine own_go (A' := (T22.setTop (mkF m 75 #[.val (.int p0), .val (.double (FP.ddiv (FP.i2d p0) (4616189618054758400 : UInt64))), .second, .val (.ref b15), .val (.int (cr (FP.ddiv (FP.i2d p0) (4616189618054758400 : UInt64)) (4618441417868443648 : UInt64))), .val (.int (cr (FP.ddiv (FP.i2d p0) (4616189618054758400 : UInt64)) (4609434218613702656 : UInt64))), .val (.int (1 : Int32)), .val (.int (0 : Int32))] []))) (fun t k => XS.icmpNo X22.here hx rfl (hb hby at_72) rfl (teq ((own_cr6 p0).trans (if_pos hc23))).2 k) ?_
      refine own_go (A' := (T22.setTop (mkF m 79 #[.val (.int p0), .val (.double (FP.ddiv (FP.i2d p0) (4616189618054758400 : UInt64))), .second, .val (.ref b15), .val (.int (cr (FP.ddiv (FP.i2d p0) (4616189618054758400 : UInt64)) (4618441417868443648 : UInt64))), .val (.int (cr (FP.ddiv (FP.i2d p0) (4616189618054758400 : UInt64)) (4609434218613702656 : UInt64))), .val (.int (1 : Int32)), .val (.int (0 : Int32))] [(.int (0 : Int32)), (.int (cr (FP.ddiv (FP.i2d p0) (4616189618054758400 : UInt64)) (4609434218613702656 : UInt64)))]))) (fun t k => ?_) ?_
      · show Steps p.tables e below (T22.setTop (mkF m 75 #[.val (.int p0), .val (.double (FP.ddiv (FP.i2d p0) (4616189618054758400 : UInt64))), .second, .val (.ref b15), .val (.int (cr (FP.ddiv (FP.i2d p0) (4616189618054758400 : UInt64)) (4618441417868443648 : UInt64))), .val (.int (cr (FP.ddiv (FP.i2d p0) (4616189618054758400 : UInt64)) (4609434218613702656 : UInt64))), .val (.int (1 : Int32)), .val (.int (0 : Int32))] [])) _
        refine XS.iload X22.here hx rfl (hb hby at_75) rfl ?_
        show Steps p.tables e below (T22.setTop (mkF m 77 #[.val (.int p0), .val (.double (FP.ddiv (FP.i2d p0) (4616189618054758400 : UInt64))), .second, .val (.ref b15), .val (.int (cr (FP.ddiv (FP.i2d p0) (4616189618054758400 : UInt64)) (4618441417868443648 : UInt64))), .val (.int (cr (FP.ddiv (FP.i2d p0) (4616189618054758400 : UInt64)) (4609434218613702656 : UInt64))), .val (.int (1 : Int32)), .val (.int (0 : Int32))] [(.int (cr (FP.ddiv (FP.i2d p0) (4616189618054758400 : UInt64)) (4609434218613702656 : UInt64)))])) _
        refine XS.iload X22.here hx rfl (hb hby at_77) rfl ?_
        exact k
      refine own_go (A' := (T22.setTop (mkF m 82 #[.val (.int p0), .val (.double (FP.ddiv (FP.i2d p0) (4616189618054758400 : UInt64))), .second, .val (.ref b15), .val (.int (cr (FP.ddiv (FP.i2d p0) (4616189618054758400 : UInt64)) (4618441417868443648 : UInt64))), .val (.int (cr (FP.ddiv (FP.i2d p0) (4616189618054758400 : UInt64)) (4609434218613702656 : UInt64))), .val (.int (1 : Int32)), .val (.int (0 : Int32))] []))) (fun t k => XS.icmpNo X22.here hx rfl (hb hby at_79) rfl (teq ((own_cr1 p0).trans (if_neg hc24))).2 k) ?_
      refine own_go (A' := (T22.setTop (mkF m 87 #[.val (.int p0), .val (.double (FP.ddiv (FP.i2d p0) (4616189618054758400 : UInt64))), .second, .val (.ref b15), .val (.int (cr (FP.ddiv (FP.i2d p0) (4616189618054758400 : UInt64)) (4618441417868443648 : UInt64))), .val (.int (cr (FP.ddiv (FP.i2d p0) (4616189618054758400 : UInt64)) (4609434218613702656 : UInt64))), .val (.int (1 : Int32)), .val (.int (0 : Int32))] [(.int (1 : Int32))]))) (fun t k => ?_) ?_
      · show Steps p.tables e below (T22.setTop (mkF m 82 #[.val (.int p0), .val (.double (FP.ddiv (FP.i2d p0) (4616189618054758400 : UInt64))), .second, .val (.ref b15), .val (.int (cr (FP.ddiv (FP.i2d p0) (4616189618054758400 : UInt64)) (4618441417868443648 : UInt64))), .val (.int (cr (FP.ddiv (FP.i2d p0) (4616189618054758400 : UInt64)) (4609434218613702656 : UInt64))), .val (.int (1 : Int32)), .val (.int (0 : Int32))] [])) _
        refine XS.iconst X22.here hx rfl (hb hby at_82) ?_
        show Steps p.tables e below (T22.setTop (mkF m 83 #[.val (.int p0), .val (.double (FP.ddiv (FP.i2d p0) (4616189618054758400 : UInt64))), .second, .val (.ref b15), .val (.int (cr (FP.ddiv (FP.i2d p0) (4616189618054758400 : UInt64)) (4618441417868443648 : UInt64))), .val (.int (cr (FP.ddiv (FP.i2d p0) (4616189618054758400 : UInt64)) (4609434218613702656 : UInt64))), .val (.int (1 : Int32)), .val (.int (0 : Int32))] [(.int (1 : Int32))])) _
        refine XS.goto X22.here hx rfl (pc0 := 83) (pc' := 87) rfl (hb hby at_83) (by decide) (by decide) ?_
        exact k
      obtain ⟨fs, hr, hrun, hended, hW, hsame⟩ := X22.leave (v := some (.int (1 : Int32))) (fun h => by rw [Bd.returns] at h; cases h) hlk
      refine ⟨_, _, ?_, hrun, hended, _, _, rfl, ?_, ⟨_, rfl⟩, hW, hsame.mono (by decide) (by decide)⟩
      · show Steps p.tables e below (T22.setTop (mkF m 87 #[.val (.int p0), .val (.double (FP.ddiv (FP.i2d p0) (4616189618054758400 : UInt64))), .second, .val (.ref b15), .val (.int (cr (FP.ddiv (FP.i2d p0) (4616189618054758400 : UInt64)) (4618441417868443648 : UInt64))), .val (.int (cr (FP.ddiv (FP.i2d p0) (4616189618054758400 : UInt64)) (4609434218613702656 : UInt64))), .val (.int (1 : Int32)), .val (.int (0 : Int32))] [(.int (1 : Int32))])) _
        exact retN X22 hx (t := .boolean) Bd.returns (by simp) (hb hby at_87) hr
      · show Q0 Z p0 w_FULL w_STROKE w_DC h0 n0 _ T22.heap _
        exact ⟨rfl, N22⟩
  · -- hc23: no
    refine own_go (A' := (T22.setTop (mkF m 52 #[.val (.int p0), .val (.double (FP.ddiv (FP.i2d p0) (4616189618054758400 : UInt64))), .second, .val (.ref b15), .val (.int (cr (FP.ddiv (FP.i2d p0) (4616189618054758400 : UInt64)) (4618441417868443648 : UInt64))), .val (.int (cr (FP.ddiv (FP.i2d p0) (4616189618054758400 : UInt64)) (4609434218613702656 : UInt64))), .unset, .unset] []))) (fun t k => XS.icmpYes X22.here hx rfl (pc0 := 45) (pc' := 52) rfl (hb hby at_45) rfl (flt hc23).2.1 (by decide) (by decide) k) ?_
    refine own_go (A' := (T22.setTop (mkF m 58 #[.val (.int p0), .val (.double (FP.ddiv (FP.i2d p0) (4616189618054758400 : UInt64))), .second, .val (.ref b15), .val (.int (cr (FP.ddiv (FP.i2d p0) (4616189618054758400 : UInt64)) (4618441417868443648 : UInt64))), .val (.int (cr (FP.ddiv (FP.i2d p0) (4616189618054758400 : UInt64)) (4609434218613702656 : UInt64))), .val (.int (0 : Int32)), .unset] [(.int (6 : Int32)), (.int p0)]))) (fun t k => ?_) ?_
    · show Steps p.tables e below (T22.setTop (mkF m 52 #[.val (.int p0), .val (.double (FP.ddiv (FP.i2d p0) (4616189618054758400 : UInt64))), .second, .val (.ref b15), .val (.int (cr (FP.ddiv (FP.i2d p0) (4616189618054758400 : UInt64)) (4618441417868443648 : UInt64))), .val (.int (cr (FP.ddiv (FP.i2d p0) (4616189618054758400 : UInt64)) (4609434218613702656 : UInt64))), .unset, .unset] [])) _
      refine XS.iconst X22.here hx rfl (hb hby at_52) ?_
      show Steps p.tables e below (T22.setTop (mkF m 53 #[.val (.int p0), .val (.double (FP.ddiv (FP.i2d p0) (4616189618054758400 : UInt64))), .second, .val (.ref b15), .val (.int (cr (FP.ddiv (FP.i2d p0) (4616189618054758400 : UInt64)) (4618441417868443648 : UInt64))), .val (.int (cr (FP.ddiv (FP.i2d p0) (4616189618054758400 : UInt64)) (4609434218613702656 : UInt64))), .unset, .unset] [(.int (0 : Int32))])) _
      refine XS.istore X22.here hx rfl (hb hby at_53) rfl (l' := #[.val (.int p0), .val (.double (FP.ddiv (FP.i2d p0) (4616189618054758400 : UInt64))), .second, .val (.ref b15), .val (.int (cr (FP.ddiv (FP.i2d p0) (4616189618054758400 : UInt64)) (4618441417868443648 : UInt64))), .val (.int (cr (FP.ddiv (FP.i2d p0) (4616189618054758400 : UInt64)) (4609434218613702656 : UInt64))), .val (.int (0 : Int32)), .unset]) rfl ?_
      show Steps p.tables e below (T22.setTop (mkF m 55 #[.val (.int p0), .val (.double (FP.ddiv (FP.i2d p0) (4616189618054758400 : UInt64))), .second, .val (.ref b15), .val (.int (cr (FP.ddiv (FP.i2d p0) (4616189618054758400 : UInt64)) (4618441417868443648 : UInt64))), .val (.int (cr (FP.ddiv (FP.i2d p0) (4616189618054758400 : UInt64)) (4609434218613702656 : UInt64))), .val (.int (0 : Int32)), .unset] [])) _
      refine XS.iloadN X22.here hx rfl (hb hby at_55) rfl ?_
      show Steps p.tables e below (T22.setTop (mkF m 56 #[.val (.int p0), .val (.double (FP.ddiv (FP.i2d p0) (4616189618054758400 : UInt64))), .second, .val (.ref b15), .val (.int (cr (FP.ddiv (FP.i2d p0) (4616189618054758400 : UInt64)) (4618441417868443648 : UInt64))), .val (.int (cr (FP.ddiv (FP.i2d p0) (4616189618054758400 : UInt64)) (4609434218613702656 : UInt64))), .val (.int (0 : Int32)), .unset] [(.int p0)])) _
      refine XS.bipush X22.here hx rfl (hb hby at_56) ?_
      exact k
    by_cases hc25 : p0 < (6 : Int32)
    · -- hc25: yes
      refine own_go (A' := (T22.setTop (mkF m 61 #[.val (.int p0), .val (.double (FP.ddiv (FP.i2d p0) (4616189618054758400 : UInt64))), .second, .val (.ref b15), .val (.int (cr (FP.ddiv (FP.i2d p0) (4616189618054758400 : UInt64)) (4618441417868443648 : UInt64))), .val (.int (cr (FP.ddiv (FP.i2d p0) (4616189618054758400 : UInt64)) (4609434218613702656 : UInt64))), .val (.int (0 : Int32)), .unset] []))) (fun t k => XS.icmpNo X22.here hx rfl (hb hby at_58) rfl (tlt hc25).2.1 k) ?_
      refine own_go (A' := (T22.setTop (mkF m 72 #[.val (.int p0), .val (.double (FP.ddiv (FP.i2d p0) (4616189618054758400 : UInt64))), .second, .val (.ref b15), .val (.int (cr (FP.ddiv (FP.i2d p0) (4616189618054758400 : UInt64)) (4618441417868443648 : UInt64))), .val (.int (cr (FP.ddiv (FP.i2d p0) (4616189618054758400 : UInt64)) (4609434218613702656 : UInt64))), .val (.int (0 : Int32)), .val (.int (1 : Int32))] [(.int (0 : Int32)), (.int (cr (FP.ddiv (FP.i2d p0) (4616189618054758400 : UInt64)) (4618441417868443648 : UInt64)))]))) (fun t k => ?_) ?_
      · show Steps p.tables e below (T22.setTop (mkF m 61 #[.val (.int p0), .val (.double (FP.ddiv (FP.i2d p0) (4616189618054758400 : UInt64))), .second, .val (.ref b15), .val (.int (cr (FP.ddiv (FP.i2d p0) (4616189618054758400 : UInt64)) (4618441417868443648 : UInt64))), .val (.int (cr (FP.ddiv (FP.i2d p0) (4616189618054758400 : UInt64)) (4609434218613702656 : UInt64))), .val (.int (0 : Int32)), .unset] [])) _
        refine XS.iconst X22.here hx rfl (hb hby at_61) ?_
        show Steps p.tables e below (T22.setTop (mkF m 62 #[.val (.int p0), .val (.double (FP.ddiv (FP.i2d p0) (4616189618054758400 : UInt64))), .second, .val (.ref b15), .val (.int (cr (FP.ddiv (FP.i2d p0) (4616189618054758400 : UInt64)) (4618441417868443648 : UInt64))), .val (.int (cr (FP.ddiv (FP.i2d p0) (4616189618054758400 : UInt64)) (4609434218613702656 : UInt64))), .val (.int (0 : Int32)), .unset] [(.int (1 : Int32))])) _
        refine XS.goto X22.here hx rfl (pc0 := 62) (pc' := 66) rfl (hb hby at_62) (by decide) (by decide) ?_
        show Steps p.tables e below (T22.setTop (mkF m 66 #[.val (.int p0), .val (.double (FP.ddiv (FP.i2d p0) (4616189618054758400 : UInt64))), .second, .val (.ref b15), .val (.int (cr (FP.ddiv (FP.i2d p0) (4616189618054758400 : UInt64)) (4618441417868443648 : UInt64))), .val (.int (cr (FP.ddiv (FP.i2d p0) (4616189618054758400 : UInt64)) (4609434218613702656 : UInt64))), .val (.int (0 : Int32)), .unset] [(.int (1 : Int32))])) _
        refine XS.istore X22.here hx rfl (hb hby at_66) rfl (l' := #[.val (.int p0), .val (.double (FP.ddiv (FP.i2d p0) (4616189618054758400 : UInt64))), .second, .val (.ref b15), .val (.int (cr (FP.ddiv (FP.i2d p0) (4616189618054758400 : UInt64)) (4618441417868443648 : UInt64))), .val (.int (cr (FP.ddiv (FP.i2d p0) (4616189618054758400 : UInt64)) (4609434218613702656 : UInt64))), .val (.int (0 : Int32)), .val (.int (1 : Int32))]) rfl ?_
        show Steps p.tables e below (T22.setTop (mkF m 68 #[.val (.int p0), .val (.double (FP.ddiv (FP.i2d p0) (4616189618054758400 : UInt64))), .second, .val (.ref b15), .val (.int (cr (FP.ddiv (FP.i2d p0) (4616189618054758400 : UInt64)) (4618441417868443648 : UInt64))), .val (.int (cr (FP.ddiv (FP.i2d p0) (4616189618054758400 : UInt64)) (4609434218613702656 : UInt64))), .val (.int (0 : Int32)), .val (.int (1 : Int32))] [])) _
        refine XS.iload X22.here hx rfl (hb hby at_68) rfl ?_
        show Steps p.tables e below (T22.setTop (mkF m 70 #[.val (.int p0), .val (.double (FP.ddiv (FP.i2d p0) (4616189618054758400 : UInt64))), .second, .val (.ref b15), .val (.int (cr (FP.ddiv (FP.i2d p0) (4616189618054758400 : UInt64)) (4618441417868443648 : UInt64))), .val (.int (cr (FP.ddiv (FP.i2d p0) (4616189618054758400 : UInt64)) (4609434218613702656 : UInt64))), .val (.int (0 : Int32)), .val (.int (1 : Int32))] [(.int (cr (FP.ddiv (FP.i2d p0) (4616189618054758400 : UInt64)) (4618441417868443648 : UInt64)))])) _
        refine XS.iload X22.here hx rfl (hb hby at_70) rfl ?_
        exact k
      refine own_go (A' := (T22.setTop (mkF m 75 #[.val (.int p0), .val (.double (FP.ddiv (FP.i2d p0) (4616189618054758400 : UInt64))), .second, .val (.ref b15), .val (.int (cr (FP.ddiv (FP.i2d p0) (4616189618054758400 : UInt64)) (4618441417868443648 : UInt64))), .val (.int (cr (FP.ddiv (FP.i2d p0) (4616189618054758400 : UInt64)) (4609434218613702656 : UInt64))), .val (.int (0 : Int32)), .val (.int (1 : Int32))] []))) (fun t k => XS.icmpNo X22.here hx rfl (hb hby at_72) rfl (teq ((own_cr6 p0).trans (if_neg hc23))).2 k) ?_
      refine own_go (A' := (T22.setTop (mkF m 79 #[.val (.int p0), .val (.double (FP.ddiv (FP.i2d p0) (4616189618054758400 : UInt64))), .second, .val (.ref b15), .val (.int (cr (FP.ddiv (FP.i2d p0) (4616189618054758400 : UInt64)) (4618441417868443648 : UInt64))), .val (.int (cr (FP.ddiv (FP.i2d p0) (4616189618054758400 : UInt64)) (4609434218613702656 : UInt64))), .val (.int (0 : Int32)), .val (.int (1 : Int32))] [(.int (1 : Int32)), (.int (cr (FP.ddiv (FP.i2d p0) (4616189618054758400 : UInt64)) (4609434218613702656 : UInt64)))]))) (fun t k => ?_) ?_
      · show Steps p.tables e below (T22.setTop (mkF m 75 #[.val (.int p0), .val (.double (FP.ddiv (FP.i2d p0) (4616189618054758400 : UInt64))), .second, .val (.ref b15), .val (.int (cr (FP.ddiv (FP.i2d p0) (4616189618054758400 : UInt64)) (4618441417868443648 : UInt64))), .val (.int (cr (FP.ddiv (FP.i2d p0) (4616189618054758400 : UInt64)) (4609434218613702656 : UInt64))), .val (.int (0 : Int32)), .val (.int (1 : Int32))] [])) _
        refine XS.iload X22.here hx rfl (hb hby at_75) rfl ?_
        show Steps p.tables e below (T22.setTop (mkF m 77 #[.val (.int p0), .val (.double (FP.ddiv (FP.i2d p0) (4616189618054758400 : UInt64))), .second, .val (.ref b15), .val (.int (cr (FP.ddiv (FP.i2d p0) (4616189618054758400 : UInt64)) (4618441417868443648 : UInt64))), .val (.int (cr (FP.ddiv (FP.i2d p0) (4616189618054758400 : UInt64)) (4609434218613702656 : UInt64))), .val (.int (0 : Int32)), .val (.int (1 : Int32))] [(.int (cr (FP.ddiv (FP.i2d p0) (4616189618054758400 : UInt64)) (4609434218613702656 : UInt64)))])) _
        refine XS.iload X22.here hx rfl (hb hby at_77) rfl ?_
        exact k
      refine own_go (A' := (T22.setTop (mkF m 82 #[.val (.int p0), .val (.double (FP.ddiv (FP.i2d p0) (4616189618054758400 : UInt64))), .second, .val (.ref b15), .val (.int (cr (FP.ddiv (FP.i2d p0) (4616189618054758400 : UInt64)) (4618441417868443648 : UInt64))), .val (.int (cr (FP.ddiv (FP.i2d p0) (4616189618054758400 : UInt64)) (4609434218613702656 : UInt64))), .val (.int (0 : Int32)), .val (.int (1 : Int32))] []))) (fun t k => XS.icmpNo X22.here hx rfl (hb hby at_79) rfl (teq ((own_cr1 p0).trans (if_pos hc25))).2 k) ?_
      refine own_go (A' := (T22.setTop (mkF m 87 #[.val (.int p0), .val (.double (FP.ddiv (FP.i2d p0) (4616189618054758400 : UInt64))), .second, .val (.ref b15), .val (.int (cr (FP.ddiv (FP.i2d p0) (4616189618054758400 : UInt64)) (4618441417868443648 : UInt64))), .val (.int (cr (FP.ddiv (FP.i2d p0) (4616189618054758400 : UInt64)) (4609434218613702656 : UInt64))), .val (.int (0 : Int32)), .val (.int (1 : Int32))] [(.int (1 : Int32))]))) (fun t k => ?_) ?_
      · show Steps p.tables e below (T22.setTop (mkF m 82 #[.val (.int p0), .val (.double (FP.ddiv (FP.i2d p0) (4616189618054758400 : UInt64))), .second, .val (.ref b15), .val (.int (cr (FP.ddiv (FP.i2d p0) (4616189618054758400 : UInt64)) (4618441417868443648 : UInt64))), .val (.int (cr (FP.ddiv (FP.i2d p0) (4616189618054758400 : UInt64)) (4609434218613702656 : UInt64))), .val (.int (0 : Int32)), .val (.int (1 : Int32))] [])) _
        refine XS.iconst X22.here hx rfl (hb hby at_82) ?_
        show Steps p.tables e below (T22.setTop (mkF m 83 #[.val (.int p0), .val (.double (FP.ddiv (FP.i2d p0) (4616189618054758400 : UInt64))), .second, .val (.ref b15), .val (.int (cr (FP.ddiv (FP.i2d p0) (4616189618054758400 : UInt64)) (4618441417868443648 : UInt64))), .val (.int (cr (FP.ddiv (FP.i2d p0) (4616189618054758400 : UInt64)) (4609434218613702656 : UInt64))), .val (.int (0 : Int32)), .val (.int (1 : Int32))] [(.int (1 : Int32))])) _
        refine XS.goto X22.here hx rfl (pc0 := 83) (pc' := 87) rfl (hb hby at_83) (by decide) (by decide) ?_
        exact k
      obtain ⟨fs, hr, hrun, hended, hW, hsame⟩ := X22.leave (v := some (.int (1 : Int32))) (fun h => by rw [Bd.returns] at h; cases h) hlk
      refine ⟨_, _, ?_, hrun, hended, _, _, rfl, ?_, ⟨_, rfl⟩, hW, hsame.mono (by decide) (by decide)⟩
      · show Steps p.tables e below (T22.setTop (mkF m 87 #[.val (.int p0), .val (.double (FP.ddiv (FP.i2d p0) (4616189618054758400 : UInt64))), .second, .val (.ref b15), .val (.int (cr (FP.ddiv (FP.i2d p0) (4616189618054758400 : UInt64)) (4618441417868443648 : UInt64))), .val (.int (cr (FP.ddiv (FP.i2d p0) (4616189618054758400 : UInt64)) (4609434218613702656 : UInt64))), .val (.int (0 : Int32)), .val (.int (1 : Int32))] [(.int (1 : Int32))])) _
        exact retN X22 hx (t := .boolean) Bd.returns (by simp) (hb hby at_87) hr
      · show Q0 Z p0 w_FULL w_STROKE w_DC h0 n0 _ T22.heap _
        exact ⟨rfl, N22⟩
    · -- hc25: no
      refine own_go (A' := (T22.setTop (mkF m 65 #[.val (.int p0), .val (.double (FP.ddiv (FP.i2d p0) (4616189618054758400 : UInt64))), .second, .val (.ref b15), .val (.int (cr (FP.ddiv (FP.i2d p0) (4616189618054758400 : UInt64)) (4618441417868443648 : UInt64))), .val (.int (cr (FP.ddiv (FP.i2d p0) (4616189618054758400 : UInt64)) (4609434218613702656 : UInt64))), .val (.int (0 : Int32)), .unset] []))) (fun t k => XS.icmpYes X22.here hx rfl (pc0 := 58) (pc' := 65) rfl (hb hby at_58) rfl (flt hc25).2.1 (by decide) (by decide) k) ?_
      refine own_go (A' := (T22.setTop (mkF m 72 #[.val (.int p0), .val (.double (FP.ddiv (FP.i2d p0) (4616189618054758400 : UInt64))), .second, .val (.ref b15), .val (.int (cr (FP.ddiv (FP.i2d p0) (4616189618054758400 : UInt64)) (4618441417868443648 : UInt64))), .val (.int (cr (FP.ddiv (FP.i2d p0) (4616189618054758400 : UInt64)) (4609434218613702656 : UInt64))), .val (.int (0 : Int32)), .val (.int (0 : Int32))] [(.int (0 : Int32)), (.int (cr (FP.ddiv (FP.i2d p0) (4616189618054758400 : UInt64)) (4618441417868443648 : UInt64)))]))) (fun t k => ?_) ?_
      · show Steps p.tables e below (T22.setTop (mkF m 65 #[.val (.int p0), .val (.double (FP.ddiv (FP.i2d p0) (4616189618054758400 : UInt64))), .second, .val (.ref b15), .val (.int (cr (FP.ddiv (FP.i2d p0) (4616189618054758400 : UInt64)) (4618441417868443648 : UInt64))), .val (.int (cr (FP.ddiv (FP.i2d p0) (4616189618054758400 : UInt64)) (4609434218613702656 : UInt64))), .val (.int (0 : Int32)), .unset] [])) _
        refine XS.iconst X22.here hx rfl (hb hby at_65) ?_
        show Steps p.tables e below (T22.setTop (mkF m 66 #[.val (.int p0), .val (.double (FP.ddiv (FP.i2d p0) (4616189618054758400 : UInt64))), .second, .val (.ref b15), .val (.int (cr (FP.ddiv (FP.i2d p0) (4616189618054758400 : UInt64)) (4618441417868443648 : UInt64))), .val (.int (cr (FP.ddiv (FP.i2d p0) (4616189618054758400 : UInt64)) (4609434218613702656 : UInt64))), .val (.int (0 : Int32)), .unset] [(.int (0 : Int32))])) _
        refine XS.istore X22.here hx rfl (hb hby at_66) rfl (l' := #[.val (.int p0), .val (.double (FP.ddiv (FP.i2d p0) (4616189618054758400 : UInt64))), .second, .val (.ref b15), .val (.int (cr (FP.ddiv (FP.i2d p0) (4616189618054758400 : UInt64)) (4618441417868443648 : UInt64))), .val (.int (cr (FP.ddiv (FP.i2d p0) (4616189618054758400 : UInt64)) (4609434218613702656 : UInt64))), .val (.int (0 : Int32)), .val (.int (0 : Int32))]) rfl ?_
        show Steps p.tables e below (T22.setTop (mkF m 68 #[.val (.int p0), .val (.double (FP.ddiv (FP.i2d p0) (4616189618054758400 : UInt64))), .second, .val (.ref b15), .val (.int (cr (FP.ddiv (FP.i2d p0) (4616189618054758400 : UInt64)) (4618441417868443648 : UInt64))), .val (.int (cr (FP.ddiv (FP.i2d p0) (4616189618054758400 : UInt64)) (4609434218613702656 : UInt64))), .val (.int (0 : Int32)), .val (.int (0 : Int32))] [])) _
        refine XS.iload X22.here hx rfl (hb hby at_68) rfl ?_
        show Steps p.tables e below (T22.setTop (mkF m 70 #[.val (.int p0), .val (.double (FP.ddiv (FP.i2d p0) (4616189618054758400 : UInt64))), .second, .val (.ref b15), .val (.int (cr (FP.ddiv (FP.i2d p0) (4616189618054758400 : UInt64)) (4618441417868443648 : UInt64))), .val (.int (cr (FP.ddiv (FP.i2d p0) (4616189618054758400 : UInt64)) (4609434218613702656 : UInt64))), .val (.int (0 : Int32)), .val (.int (0 : Int32))] [(.int (cr (FP.ddiv (FP.i2d p0) (4616189618054758400 : UInt64)) (4618441417868443648 : UInt64)))])) _
        refine XS.iload X22.here hx rfl (hb hby at_70) rfl ?_
        exact k
      refine own_go (A' := (T22.setTop (mkF m 75 #[.val (.int p0), .val (.double (FP.ddiv (FP.i2d p0) (4616189618054758400 : UInt64))), .second, .val (.ref b15), .val (.int (cr (FP.ddiv (FP.i2d p0) (4616189618054758400 : UInt64)) (4618441417868443648 : UInt64))), .val (.int (cr (FP.ddiv (FP.i2d p0) (4616189618054758400 : UInt64)) (4609434218613702656 : UInt64))), .val (.int (0 : Int32)), .val (.int (0 : Int32))] []))) (fun t k => XS.icmpNo X22.here hx rfl (hb hby at_72) rfl (teq ((own_cr6 p0).trans (if_neg hc23))).2 k) ?_
      refine own_go (A' := (T22.setTop (mkF m 79 #[.val (.int p0), .val (.double (FP.ddiv (FP.i2d p0) (4616189618054758400 : UInt64))), .second, .val (.ref b15), .val (.int (cr (FP.ddiv (FP.i2d p0) (4616189618054758400 : UInt64)) (4618441417868443648 : UInt64))), .val (.int (cr (FP.ddiv (FP.i2d p0) (4616189618054758400 : UInt64)) (4609434218613702656 : UInt64))), .val (.int (0 : Int32)), .val (.int (0 : Int32))] [(.int (0 : Int32)), (.int (cr (FP.ddiv (FP.i2d p0) (4616189618054758400 : UInt64)) (4609434218613702656 : UInt64)))]))) (fun t k => ?_) ?_
      · show Steps p.tables e below (T22.setTop (mkF m 75 #[.val (.int p0), .val (.double (FP.ddiv (FP.i2d p0) (4616189618054758400 : UInt64))), .second, .val (.ref b15), .val (.int (cr (FP.ddiv (FP.i2d p0) (4616189618054758400 : UInt64)) (4618441417868443648 : UInt64))), .val (.int (cr (FP.ddiv (FP.i2d p0) (4616189618054758400 : UInt64)) (4609434218613702656 : UInt64))), .val (.int (0 : Int32)), .val (.int (0 : Int32))] [])) _
        refine XS.iload X22.here hx rfl (hb hby at_75) rfl ?_
        show Steps p.tables e below (T22.setTop (mkF m 77 #[.val (.int p0), .val (.double (FP.ddiv (FP.i2d p0) (4616189618054758400 : UInt64))), .second, .val (.ref b15), .val (.int (cr (FP.ddiv (FP.i2d p0) (4616189618054758400 : UInt64)) (4618441417868443648 : UInt64))), .val (.int (cr (FP.ddiv (FP.i2d p0) (4616189618054758400 : UInt64)) (4609434218613702656 : UInt64))), .val (.int (0 : Int32)), .val (.int (0 : Int32))] [(.int (cr (FP.ddiv (FP.i2d p0) (4616189618054758400 : UInt64)) (4609434218613702656 : UInt64)))])) _
        refine XS.iload X22.here hx rfl (hb hby at_77) rfl ?_
        exact k
      refine own_go (A' := (T22.setTop (mkF m 82 #[.val (.int p0), .val (.double (FP.ddiv (FP.i2d p0) (4616189618054758400 : UInt64))), .second, .val (.ref b15), .val (.int (cr (FP.ddiv (FP.i2d p0) (4616189618054758400 : UInt64)) (4618441417868443648 : UInt64))), .val (.int (cr (FP.ddiv (FP.i2d p0) (4616189618054758400 : UInt64)) (4609434218613702656 : UInt64))), .val (.int (0 : Int32)), .val (.int (0 : Int32))] []))) (fun t k => XS.icmpNo X22.here hx rfl (hb hby at_79) rfl (teq ((own_cr1 p0).trans (if_neg hc25))).2 k) ?_
      refine own_go (A' := (T22.setTop (mkF m 87 #[.val (.int p0), .val (.double (FP.ddiv (FP.i2d p0) (4616189618054758400 : UInt64))), .second, .val (.ref b15), .val (.int (cr (FP.ddiv (FP.i2d p0) (4616189618054758400 : UInt64)) (4618441417868443648 : UInt64))), .val (.int (cr (FP.ddiv (FP.i2d p0) (4616189618054758400 : UInt64)) (4609434218613702656 : UInt64))), .val (.int (0 : Int32)), .val (.int (0 : Int32))] [(.int (1 : Int32))]))) (fun t k => ?_) ?_
      · show Steps p.tables e below (T22.setTop (mkF m 82 #[.val (.int p0), .val (.double (FP.ddiv (FP.i2d p0) (4616189618054758400 : UInt64))), .second, .val (.ref b15), .val (.int (cr (FP.ddiv (FP.i2d p0) (4616189618054758400 : UInt64)) (4618441417868443648 : UInt64))), .val (.int (cr (FP.ddiv (FP.i2d p0) (4616189618054758400 : UInt64)) (4609434218613702656 : UInt64))), .val (.int (0 : Int32)), .val (.int (0 : Int32))] [])) _
        refine XS.iconst X22.here hx rfl (hb hby at_82) ?_
        show Steps p.tables e below (T22.setTop (mkF m 83 #[.val (.int p0), .val (.double (FP.ddiv (FP.i2d p0) (4616189618054758400 : UInt64))), .second, .val (.ref b15), .val (.int (cr (FP.ddiv (FP.i2d p0) (4616189618054758400 : UInt64)) (4618441417868443648 : UInt64))), .val (.int (cr (FP.ddiv (FP.i2d p0) (4616189618054758400 : UInt64)) (4609434218613702656 : UInt64))), .val (.int (0 : Int32)), .val (.int (0 : Int32))] [(.int (1 : Int32))])) _
        refine XS.goto X22.here hx rfl (pc0 := 83) (pc' := 87) rfl (hb hby at_83) (by decide) (by decide) ?_
        exact k
      obtain ⟨fs, hr, hrun, hended, hW, hsame⟩ := X22.leave (v := some (.int (1 : Int32))) (fun h => by rw [Bd.returns] at h; cases h) hlk
      refine ⟨_, _, ?_, hrun, hended, _, _, rfl, ?_, ⟨_, rfl⟩, hW, hsame.mono (by decide) (by decide)⟩
      · show Steps p.tables e below (T22.setTop (mkF m 87 #[.val (.int p0), .val (.double (FP.ddiv (FP.i2d p0) (4616189618054758400 : UInt64))), .second, .val (.ref b15), .val (.int (cr (FP.ddiv (FP.i2d p0) (4616189618054758400 : UInt64)) (4618441417868443648 : UInt64))), .val (.int (cr (FP.ddiv (FP.i2d p0) (4616189618054758400 : UInt64)) (4609434218613702656 : UInt64))), .val (.int (0 : Int32)), .val (.int (0 : Int32))] [(.int (1 : Int32))])) _
        exact retN X22 hx (t := .boolean) Bd.returns (by simp) (hb hby at_87) hr
      · show Q0 Z p0 w_FULL w_STROKE w_DC h0 n0 _ T22.heap _
        exact ⟨rfl, N22⟩
theorem own_eqint {t : Term} {k : Int32} {args : Array Value} {first s : State} {o : Option Outcome} {idx : List Nat} (h : (Jvm.Cond.eq t (.int k)).value args first o s idx = some true) : t.eval args first o idx s = some (.int k) := by
  cases ht : t.eval args first o idx s with
  | none => simp [Cond.value, Term.eval, ht] at h
  | some x => cases x <;> simp [Cond.value, Term.eval, ht] at h; subst h; rfl
theorem own_neint {t : Term} {k z : Int32} {args : Array Value} {first s : State} {o : Option Outcome} {idx : List Nat} (h : (Jvm.Cond.not (.eq t (.int k))).value args first o s idx = some true) (ev : t.eval args first o idx s = some (.int z)) : ¬ z = k := fun q => by
  subst q
  have h' := not_v h
  simp [Cond.value, Term.eval, ev] at h'
set_option maxRecDepth 65536 in
set_option maxHeartbeats 40000000 in
theorem comes_1 {Post : Tables → Env → Array Value → State → Outcome → State → Prop} (hpost : ∀ tb e args s v u, (limb_1_1.after args s (.returned v) u = true ∧ limb_1_2.after args s (.returned v) u = true ∧ True) → FrameEnd s (.returned v) u (Jvm.fieldLocs frame_1_writes args s ++ Jvm.arrayLocs frame_1_arrays args s ++ Jvm.staticLocs frame_1_statics s) 16 128 → Post tb e args s (.returned v) u) :
    ArmFor flags0 classFile x code maxLocals ret World_1 tables_1 room_1 Calls_1 rest_1 Pre_1 Post := by
  intro l hfl _ _ p e ha hc hk s m args below hf hA hF happ hP
  obtain ⟨hcalls, hrest, hpre⟩ := hP
  obtain ⟨-, -, -, hnamed, -, -, -, hat⟩ := (Spec.applies_iff hf).mp happ
  obtain ⟨hg, hn⟩ := and_e (Cond.before_iff.mp (show (Jvm.Cond.and given_1 narrow_1).before args s = true from hpre))
  have hv0 := (and_e hg).2
  obtain ⟨w0, rfl⟩ : ∃ w0 : Value, args = #[w0] := by
    have hs : args.size = 1 := by simpa [Cond.value, given_1] using (and_e hg).1
    obtain ⟨L⟩ := args
    match L, hs with
    | [w0], _ => exact ⟨w0, rfl⟩
  have hw := fun d (hd : d ∈ tables_1) => atoms_spec (ws := Jvm.Cond.code x code maxLocals ret :: tables_1) hat d (List.mem_cons_of_mem _ hd)
  have hfit : Fit s := fun {y c} hc i hi => by
    obtain ⟨ha, rfl⟩ := Array.getElem?_eq_some_iff.mp hc
    have q := List.all_eq_true.mp ((Array.all_eq_true_iff_forall_mem.mp hF) _ (Array.getElem_mem ha)) i (List.mem_range.mpr hi)
    simpa [Array.getElem?_eq_getElem hi] using q
  obtain ⟨hsets, hown0⟩ := atoms_of _ (rest_1_c_eq ▸ (show rest_1_c.before _ s = true from hrest))
  have hr0 := Cond.before_iff.mp hown0
  obtain ⟨i0, ei0⟩ := is_v hv0
  obtain rfl : w0 = (.int i0) := Option.some.inj ei0
  have hx_FULL := (and_e hn).1
  obtain ⟨w_FULL, ev_FULL⟩ := exa_v hx_FULL
  have S_FULL : Sta s s.heap "com/example/reactions_to_maps/reactionstomaps/layout/CorridorRouter$Pitch" "FULL" "Lcom/example/reactions_to_maps/reactionstomaps/layout/CorridorRouter$Pitch;" (.ref w_FULL) := Sta.start ev_FULL (Or.inr ⟨(hw _ (List.mem_of_getElem? (i := 46) rfl)), (hw _ (List.mem_of_getElem? (i := 47) rfl))⟩)
  have E_FULL : Exa s s.heap w_FULL "com/example/reactions_to_maps/reactionstomaps/layout/CorridorRouter$Pitch" := Exa.start ev_FULL hx_FULL
  have O_FULL_distance : Fld s s.heap w_FULL "com/example/reactions_to_maps/reactionstomaps/layout/CorridorRouter$Pitch" "distance" "D" (.double (4618441417868443648 : UInt64)) := Fld.start ((fld_at ev_FULL).symm.trans (own_eqdbl (and_e (and_e hn).2).1))
  have hx_STROKE := (and_e (and_e (and_e hn).2).2).1
  obtain ⟨w_STROKE, ev_STROKE⟩ := exa_v hx_STROKE
  have S_STROKE : Sta s s.heap "com/example/reactions_to_maps/reactionstomaps/layout/CorridorRouter$Pitch" "STROKE" "Lcom/example/reactions_to_maps/reactionstomaps/layout/CorridorRouter$Pitch;" (.ref w_STROKE) := Sta.start ev_STROKE (Or.inr ⟨(hw _ (List.mem_of_getElem? (i := 46) rfl)), (hw _ (List.mem_of_getElem? (i := 56) rfl))⟩)
  have E_STROKE : Exa s s.heap w_STROKE "com/example/reactions_to_maps/reactionstomaps/layout/CorridorRouter$Pitch" := Exa.start ev_STROKE hx_STROKE
  have O_STROKE_distance : Fld s s.heap w_STROKE "com/example/reactions_to_maps/reactionstomaps/layout/CorridorRouter$Pitch" "distance" "D" (.double (4609434218613702656 : UInt64)) := Fld.start ((fld_at ev_STROKE).symm.trans (own_eqdbl (and_e (and_e (and_e hn).2).2).2))
  have hx_DC := Cond.before_iff.mp (hsets _ (List.mem_of_getElem? (i := 7) rfl))
  obtain ⟨w_DC, ev_DC⟩ := exa_v hx_DC
  have S_DC : Sta s s.heap "java/util/ArrayList" "DEFAULTCAPACITY_EMPTY_ELEMENTDATA" "[Ljava/lang/Object;" (.ref w_DC) := Sta.start ev_DC (Or.inr ⟨(hw _ (List.mem_of_getElem? (i := 6) rfl)), (hsets _ (List.mem_of_getElem? (i := 2) rfl))⟩)
  obtain ⟨n, o, h1, h2, h3, _, L, rfl, ⟨rfl, N⟩, hq⟩ := rm0 l s _ hw tables_1 i0 w_FULL w_STROKE w_DC s.heap s.heap.size (Nat.le_refl _) S_FULL S_STROKE E_FULL E_STROKE O_FULL_distance O_STROKE_distance S_DC p e ha hc hk s m _ below hf ((Spec.applies_iff_loose hf).mp happ).1 ⟨rfl, State.Warmed39.refl s, rfl⟩ trivial
  refine ⟨n, _, h1, h2, h3, hpost _ _ _ _ _ _ ⟨Cond.after_iff.mpr rfl, Cond.after_iff.mpr (eq_i res_at (Term.int_eval (1)) rfl), trivial⟩ ⟨hq.1, hq.2.1, (hq.2.2.sift fun y hy => Or.inr (N y hy)).mono (by decide) (by decide)⟩⟩
theorem main_1_1 : Claimed_1_1 := comes_1 fun _ _ _ _ _ _ h hF => ⟨h.1, hF⟩
theorem main_1_2 : Claimed_1_2 := comes_1 fun _ _ _ _ _ _ h hF => ⟨h.2.1, hF⟩
end Jvm.Pilot.@@N@@
namespace Jvm.Pilot.@@N@@
open Jvm Jvm.ClassFile Sem Op Lib Jvm.Free Jvm.Stand Jvm.Pilot.@@N@@.Jvm.D
/-! MADE BY PROGRAM (witnessworld.py) out of the Statement's table words and the real class files: 23 classes; the members and pool entries that the words name. The judged class is class 1, her method 1. -/
namespace start1
open Jvm.ClassFile
def u (s : String) : CpInfo := .utf8 (stringToUtf16 s)
/-- a pool by its gaps: so many unusable entries, then the entry; so many at the end -/
def gap : Nat → List CpInfo → List CpInfo
  | 0, r => r
  | n + 1, r => .unusable :: gap n r
def poolList (es : List (Nat × CpInfo)) (last : Nat) : List CpInfo := es.foldr (fun e r => gap e.1 (e.2 :: r)) (gap last [])
def pool (es : List (Nat × CpInfo)) (last : Nat) : Array CpInfo := ⟨poolList es last⟩
def fileOf (pool : Array CpInfo) (this : Nat) (attrs : Array Attribute := #[]) (ms : Array MethodInfo := #[]) (fl : Nat := 33) (sup : Nat := 0) (ifs : Array Nat := #[]) (fds : Array FieldInfo := #[]) : ClassFile where
  minorVersion := 0
  majorVersion := 65
  constantPool := pool
  accessFlags := fl
  thisClass := this
  superClass := sup
  interfaces := ifs
  fields := fds
  methods := ms
  attributes := attrs
def plain (name : String) (sup : Option ClassId) : Class where
  name := name
  kind := .ordinary
  loader := none
  accessFlags := 33
  super := sup
  interfaces := #[]
  cf := none
  fields := #[]
  methods := #[]
  instanceTypes := #[]
  staticTypes := #[]
  resolved := #[]
  callSites := []
  init := .initialized
  statics := none
  mirror := none

def pool0 : Array CpInfo := pool [(5, u "<init>"), (0, u "()V"), (1, .class_ 10), (1, u "java/lang/Object")] 113

def k0c0 : Code := { maxStack := 0, maxLocals := 1, code := object_method_1_code, exceptionTable := #[], attributes := #[] }
def k0m0 : Method := { name := "<init>", desc := "()V", sig := { parameters := [], returnType := none }, accessFlags := 1, code := some k0c0 }
/-- java/lang/Object -/
def k0 : Class := { plain "java/lang/Object" none with
  accessFlags := 33
  interfaces := #[]
  cf := some (fileOf pool0 8 #[] #[{ accessFlags := 1, nameIndex := 5, descriptorIndex := 6, attributes := #[] }] 33 0 #[] #[])
  fields := #[]
  methods := #[k0m0]
  instanceTypes := #[]
  staticTypes := #[]
  resolved := Array.replicate 124 none
  statics := none }

def pool1 : Array CpInfo := pool [(2, .class_ 4), (0, .nameAndType 5 6), (0, u "java/lang/Object"), (0, u "<init>"), (0, u "()V"), (0, .double 4616189618054758400), (1, .class_ 10), (0, u "com/example/reactions_to_maps/reactionstomaps/layout/CorridorRouter$Plan"), (0, .class_ 12), (0, u "java/util/ArrayList"), (0, .methodref 11 3), (0, .methodref 9 15), (0, .nameAndType 5 16), (0, u "(Ljava/util/List;DLjava/util/Map;)V"), (0, .fieldref 18 19), (0, .class_ 20), (0, .nameAndType 21 22), (0, u "com/example/reactions_to_maps/reactionstomaps/layout/CorridorRouter$Pitch"), (0, u "FULL"), (0, u "Lcom/example/reactions_to_maps/reactionstomaps/layout/CorridorRouter$Pitch;"), (0, .methodref 9 24), (0, .nameAndType 25 26), (0, u "crowded"), (0, u "(Lcom/example/reactions_to_maps/reactionstomaps/layout/CorridorRouter$Pitch;)Z"), (0, .fieldref 18 28), (0, .nameAndType 29 22), (0, u "STROKE"), (0, .class_ 31), (0, u "com/example/reactions_to_maps/reactionstomaps/layout/PlanCrowdedPinLaw"), (2, u "law"), (0, u "(I)Z")] 8

def k1m0 : Method := { name := "<init>", desc := "()V", sig := { parameters := [], returnType := none }, accessFlags := 1, code := none }
def k1c1 : Code := { maxStack := 6, maxLocals := 8, code := code, exceptionTable := #[], attributes := #[] }
def k1m1 : Method := { name := "law", desc := "(I)Z", sig := { parameters := [.int], returnType := some .boolean }, accessFlags := 9, code := some k1c1 }
/-- com/example/reactions_to_maps/reactionstomaps/layout/PlanCrowdedPinLaw -/
def k1 : Class := { plain "com/example/reactions_to_maps/reactionstomaps/layout/PlanCrowdedPinLaw" (some 0) with
  accessFlags := 49
  interfaces := #[]
  cf := some (fileOf pool1 30 #[] #[{ accessFlags := 1, nameIndex := 5, descriptorIndex := 6, attributes := #[] }, { accessFlags := 9, nameIndex := 34, descriptorIndex := 35, attributes := #[] }] 49 2 #[] #[])
  fields := #[]
  methods := #[k1m0, k1m1]
  instanceTypes := #[]
  staticTypes := #[]
  resolved := Array.replicate 44 none
  statics := none }

def pool2 : Array CpInfo := pool [(1, .methodref 2 3), (0, .class_ 4), (0, .nameAndType 5 6), (0, u "java/lang/Object"), (0, u "<init>"), (0, u "()V"), (0, .class_ 8), (0, u "java/lang/Record")] 13

def k2c0 : Code := { maxStack := 1, maxLocals := 1, code := jdk_30_method_1_code, exceptionTable := #[], attributes := #[] }
def k2m0 : Method := { name := "<init>", desc := "()V", sig := { parameters := [], returnType := none }, accessFlags := 4, code := some k2c0 }
/-- java/lang/Record -/
def k2 : Class := { plain "java/lang/Record" (some 0) with
  accessFlags := 1057
  interfaces := #[]
  cf := some (fileOf pool2 7 #[] #[{ accessFlags := 4, nameIndex := 5, descriptorIndex := 6, attributes := #[] }] 1057 2 #[] #[])
  fields := #[]
  methods := #[k2m0]
  instanceTypes := #[]
  staticTypes := #[]
  resolved := Array.replicate 22 none
  statics := none }

def pool3 : Array CpInfo := pool [(1, .methodref 2 3), (0, .class_ 4), (0, .nameAndType 5 6), (0, u "java/lang/Record"), (0, u "<init>"), (0, u "()V"), (0, .fieldref 8 9), (0, .class_ 10), (0, .nameAndType 11 12), (0, u "com/example/reactions_to_maps/reactionstomaps/layout/CorridorRouter$Plan"), (0, u "tops"), (0, u "Ljava/util/List;"), (0, .fieldref 8 14), (0, .nameAndType 15 16), (0, u "pitch"), (0, u "D"), (0, .fieldref 8 18), (0, .nameAndType 19 20), (0, u "rooms"), (0, u "Ljava/util/Map;"), (0, .fieldref 22 23), (0, .class_ 24), (0, .nameAndType 25 16), (0, u "com/example/reactions_to_maps/reactionstomaps/layout/CorridorRouter$Pitch"), (0, u "distance"), (23, u "(Ljava/util/List;DLjava/util/Map;)V"), (4, u "crowded"), (0, u "(Lcom/example/reactions_to_maps/reactionstomaps/layout/CorridorRouter$Pitch;)Z"), (14, .class_ 71), (0, u "com/example/reactions_to_maps/reactionstomaps/layout/CorridorRouter")] 22

def k3c0 : Code := { maxStack := 3, maxLocals := 5, code := prog_38_method_1_code, exceptionTable := #[], attributes := #[] }
def k3m0 : Method := { name := "<init>", desc := "(Ljava/util/List;DLjava/util/Map;)V", sig := { parameters := [(.object "java/util/List"), .double, (.object "java/util/Map")], returnType := none }, accessFlags := 0, code := some k3c0 }
def k3c1 : Code := { maxStack := 4, maxLocals := 2, code := prog_38_method_2_code, exceptionTable := #[], attributes := #[] }
def k3m1 : Method := { name := "crowded", desc := "(Lcom/example/reactions_to_maps/reactionstomaps/layout/CorridorRouter$Pitch;)Z", sig := { parameters := [(.object "com/example/reactions_to_maps/reactionstomaps/layout/CorridorRouter$Pitch")], returnType := some .boolean }, accessFlags := 0, code := some k3c1 }
/-- com/example/reactions_to_maps/reactionstomaps/layout/CorridorRouter$Plan -/
def k3 : Class := { plain "com/example/reactions_to_maps/reactionstomaps/layout/CorridorRouter$Plan" (some 2) with
  accessFlags := 48
  interfaces := #[]
  cf := some (fileOf pool3 8 #[.nestHost 70] #[{ accessFlags := 0, nameIndex := 5, descriptorIndex := 49, attributes := #[] }, { accessFlags := 0, nameIndex := 54, descriptorIndex := 55, attributes := #[] }] 48 2 #[] #[{ accessFlags := 18, nameIndex := 11, descriptorIndex := 12, attributes := #[] }, { accessFlags := 18, nameIndex := 15, descriptorIndex := 16, attributes := #[] }, { accessFlags := 18, nameIndex := 19, descriptorIndex := 20, attributes := #[] }])
  fields := #[{ name := "tops", type := (.object "java/util/List"), accessFlags := 18, slot := 0, constantValue := 0 }, { name := "pitch", type := .double, accessFlags := 18, slot := 1, constantValue := 0 }, { name := "rooms", type := (.object "java/util/Map"), accessFlags := 18, slot := 2, constantValue := 0 }]
  methods := #[k3m0, k3m1]
  instanceTypes := #[(.object "java/util/List"), .double, (.object "java/util/Map")]
  staticTypes := #[]
  resolved := Array.replicate 94 none
  statics := none }

def pool4 : Array CpInfo := pool [(8, .class_ 10), (1, u "java/lang/Iterable"), (24, .class_ 36), (0, u "java/lang/Object")] 25

/-- java/lang/Iterable -/
def k4 : Class := { plain "java/lang/Iterable" (some 0) with
  accessFlags := 1537
  interfaces := #[]
  cf := some (fileOf pool4 8 #[] #[] 1537 35 #[] #[])
  fields := #[]
  methods := #[]
  instanceTypes := #[]
  staticTypes := #[]
  resolved := Array.replicate 62 none
  statics := none }

def pool5 : Array CpInfo := pool [(10, .class_ 12), (1, u "java/util/Collection"), (47, .class_ 61), (0, u "java/lang/Object"), (0, .class_ 63), (0, u "java/lang/Iterable")] 51

/-- java/util/Collection -/
def k5 : Class := { plain "java/util/Collection" (some 0) with
  accessFlags := 1537
  interfaces := #[4]
  cf := some (fileOf pool5 10 #[] #[] 1537 60 #[62] #[])
  fields := #[]
  methods := #[]
  instanceTypes := #[]
  staticTypes := #[]
  resolved := Array.replicate 115 none
  statics := none }

def pool6 : Array CpInfo := pool [(1, .methodref 2 3), (0, .class_ 4), (0, .nameAndType 5 6), (0, u "java/lang/Object"), (0, u "<init>"), (0, u "()V"), (1, .class_ 10), (1, u "java/util/AbstractCollection"), (66, .class_ 78), (0, u "java/util/Collection")] 81

def k6c0 : Code := { maxStack := 1, maxLocals := 1, code := jdk_22_method_1_code, exceptionTable := #[], attributes := #[] }
def k6m0 : Method := { name := "<init>", desc := "()V", sig := { parameters := [], returnType := none }, accessFlags := 4, code := some k6c0 }
/-- java/util/AbstractCollection -/
def k6 : Class := { plain "java/util/AbstractCollection" (some 0) with
  accessFlags := 1057
  interfaces := #[5]
  cf := some (fileOf pool6 8 #[] #[{ accessFlags := 4, nameIndex := 5, descriptorIndex := 6, attributes := #[] }] 1057 2 #[77] #[])
  fields := #[]
  methods := #[k6m0]
  instanceTypes := #[]
  staticTypes := #[]
  resolved := Array.replicate 160 none
  statics := none }

def pool7 : Array CpInfo := pool [(8, .class_ 10), (1, u "java/util/SequencedCollection"), (15, .class_ 27), (0, u "java/lang/Object"), (0, .class_ 29), (0, u "java/util/Collection")] 27

/-- java/util/SequencedCollection -/
def k7 : Class := { plain "java/util/SequencedCollection" (some 0) with
  accessFlags := 1537
  interfaces := #[5]
  cf := some (fileOf pool7 8 #[] #[] 1537 26 #[28] #[])
  fields := #[]
  methods := #[]
  instanceTypes := #[]
  staticTypes := #[]
  resolved := Array.replicate 57 none
  statics := none }

def pool8 : Array CpInfo := pool [(8, .class_ 10), (1, u "java/util/List"), (92, .class_ 104), (0, u "java/lang/Object"), (15, .class_ 121), (0, u "java/util/SequencedCollection")] 129

/-- java/util/List -/
def k8 : Class := { plain "java/util/List" (some 0) with
  accessFlags := 1537
  interfaces := #[7]
  cf := some (fileOf pool8 8 #[] #[] 1537 103 #[120] #[])
  fields := #[]
  methods := #[]
  instanceTypes := #[]
  staticTypes := #[]
  resolved := Array.replicate 251 none
  statics := none }

def pool9 : Array CpInfo := pool [(1, .methodref 2 3), (0, .class_ 4), (0, .nameAndType 5 6), (0, u "java/util/AbstractCollection"), (0, u "<init>"), (0, u "()V"), (0, .fieldref 8 9), (0, .class_ 10), (0, .nameAndType 11 12), (0, u "java/util/AbstractList"), (0, u "modCount"), (0, u "I"), (64, .class_ 78), (0, u "java/util/AbstractList$Itr"), (3, .class_ 83), (0, u "java/util/AbstractList$ListItr"), (9, .class_ 94), (0, u "java/util/AbstractList$RandomAccessSubList"), (3, .class_ 99), (0, u "java/util/AbstractList$SubList"), (33, .class_ 134), (0, u "java/util/List"), (73, .class_ 209), (0, u "java/util/AbstractList$SubList$1"), (0, .class_ 211), (0, u "java/util/AbstractList$RandomAccessSpliterator")] 6

def k9c0 : Code := { maxStack := 2, maxLocals := 1, code := jdk_39_method_1_code, exceptionTable := #[], attributes := #[] }
def k9m0 : Method := { name := "<init>", desc := "()V", sig := { parameters := [], returnType := none }, accessFlags := 4, code := some k9c0 }
/-- java/util/AbstractList -/
def k9 : Class := { plain "java/util/AbstractList" (some 6) with
  accessFlags := 1057
  interfaces := #[8]
  cf := some (fileOf pool9 8 #[.nestMembers #[93, 98, 208, 210, 82, 77]] #[{ accessFlags := 4, nameIndex := 5, descriptorIndex := 6, attributes := #[] }] 1057 2 #[133] #[{ accessFlags := 132, nameIndex := 11, descriptorIndex := 12, attributes := #[] }])
  fields := #[{ name := "modCount", type := .int, accessFlags := 132, slot := 0, constantValue := 0 }]
  methods := #[k9m0]
  instanceTypes := #[.int]
  staticTypes := #[]
  resolved := Array.replicate 218 none
  statics := none }

def pool10 : Array CpInfo := pool [(1, .class_ 2), (0, u "java/util/RandomAccess"), (0, .class_ 4), (0, u "java/lang/Object")] 2

/-- java/util/RandomAccess -/
def k10 : Class := { plain "java/util/RandomAccess" (some 0) with
  accessFlags := 1537
  interfaces := #[]
  cf := some (fileOf pool10 1 #[] #[] 1537 3 #[] #[])
  fields := #[]
  methods := #[]
  instanceTypes := #[]
  staticTypes := #[]
  resolved := Array.replicate 7 none
  statics := none }

def pool11 : Array CpInfo := pool [(1, .class_ 2), (0, u "java/lang/Cloneable"), (0, .class_ 4), (0, u "java/lang/Object")] 2

/-- java/lang/Cloneable -/
def k11 : Class := { plain "java/lang/Cloneable" (some 0) with
  accessFlags := 1537
  interfaces := #[]
  cf := some (fileOf pool11 1 #[] #[] 1537 3 #[] #[])
  fields := #[]
  methods := #[]
  instanceTypes := #[]
  staticTypes := #[]
  resolved := Array.replicate 7 none
  statics := none }

def pool12 : Array CpInfo := pool [(1, .class_ 2), (0, u "java/io/Serializable"), (0, .class_ 4), (0, u "java/lang/Object")] 2

/-- java/io/Serializable -/
def k12 : Class := { plain "java/io/Serializable" (some 0) with
  accessFlags := 1537
  interfaces := #[]
  cf := some (fileOf pool12 1 #[] #[] 1537 3 #[] #[])
  fields := #[]
  methods := #[]
  instanceTypes := #[]
  staticTypes := #[]
  resolved := Array.replicate 7 none
  statics := none }

def pool13 : Array CpInfo := pool [(1, .methodref 2 3), (0, .class_ 4), (0, .nameAndType 5 6), (0, u "java/util/AbstractList"), (0, u "<init>"), (0, u "()V"), (2, .fieldref 10 11), (0, .class_ 12), (0, .nameAndType 13 14), (0, u "java/util/ArrayList"), (0, u "elementData"), (0, u "[Ljava/lang/Object;"), (2, u "EMPTY_ELEMENTDATA"), (21, .fieldref 10 40), (0, .nameAndType 41 14), (0, u "DEFAULTCAPACITY_EMPTY_ELEMENTDATA"), (8, u "size"), (0, u "I"), (96, .class_ 149), (0, u "java/util/List"), (112, .class_ 263), (0, u "java/util/ArrayList$ListItr"), (3, .class_ 268), (0, u "java/util/ArrayList$Itr"), (7, .class_ 277), (0, u "java/util/ArrayList$SubList"), (12, .class_ 291), (0, u "java/util/ArrayList$ArrayListSpliterator"), (37, .class_ 330), (0, u "java/util/RandomAccess"), (0, .class_ 332), (0, u "java/lang/Cloneable"), (0, .class_ 334), (0, u "java/io/Serializable"), (0, u "serialVersionUID"), (0, u "J"), (3, u "DEFAULT_CAPACITY"), (159, .class_ 501), (0, u "java/util/ArrayList$SubList$2"), (0, .class_ 503), (0, u "java/util/ArrayList$SubList$1")] 5

def k13c0 : Code := { maxStack := 2, maxLocals := 1, code := jdk_38_method_2_code, exceptionTable := #[], attributes := #[] }
def k13m0 : Method := { name := "<init>", desc := "()V", sig := { parameters := [], returnType := none }, accessFlags := 1, code := some k13c0 }
/-- java/util/ArrayList -/
def k13 : Class := { plain "java/util/ArrayList" (some 9) with
  accessFlags := 33
  interfaces := #[8, 10, 11, 12]
  cf := some (fileOf pool13 10 #[.nestMembers #[290, 276, 500, 502, 262, 267]] #[{ accessFlags := 1, nameIndex := 5, descriptorIndex := 6, attributes := #[] }] 33 2 #[148, 329, 331, 333] #[{ accessFlags := 26, nameIndex := 335, descriptorIndex := 336, attributes := #[] }, { accessFlags := 26, nameIndex := 340, descriptorIndex := 51, attributes := #[] }, { accessFlags := 26, nameIndex := 17, descriptorIndex := 14, attributes := #[] }, { accessFlags := 26, nameIndex := 41, descriptorIndex := 14, attributes := #[] }, { accessFlags := 128, nameIndex := 13, descriptorIndex := 14, attributes := #[] }, { accessFlags := 2, nameIndex := 50, descriptorIndex := 51, attributes := #[] }])
  fields := #[{ name := "serialVersionUID", type := .long, accessFlags := 26, slot := 0, constantValue := 0 }, { name := "DEFAULT_CAPACITY", type := .int, accessFlags := 26, slot := 1, constantValue := 0 }, { name := "EMPTY_ELEMENTDATA", type := (.array (.object "java/lang/Object")), accessFlags := 26, slot := 2, constantValue := 0 }, { name := "DEFAULTCAPACITY_EMPTY_ELEMENTDATA", type := (.array (.object "java/lang/Object")), accessFlags := 26, slot := 3, constantValue := 0 }, { name := "elementData", type := (.array (.object "java/lang/Object")), accessFlags := 128, slot := 1, constantValue := 0 }, { name := "size", type := .int, accessFlags := 2, slot := 2, constantValue := 0 }]
  methods := #[k13m0]
  instanceTypes := #[.int, (.array (.object "java/lang/Object")), .int]
  staticTypes := #[.long, .int, (.array (.object "java/lang/Object")), (.array (.object "java/lang/Object"))]
  resolved := Array.replicate 509 none
  statics := some 0 }

def pool14 : Array CpInfo := pool [(1, .class_ 2), (0, u "java/lang/constant/Constable"), (0, .class_ 4), (0, u "java/lang/Object")] 6

/-- java/lang/constant/Constable -/
def k14 : Class := { plain "java/lang/constant/Constable" (some 0) with
  accessFlags := 1537
  interfaces := #[]
  cf := some (fileOf pool14 1 #[] #[] 1537 3 #[] #[])
  fields := #[]
  methods := #[]
  instanceTypes := #[]
  staticTypes := #[]
  resolved := Array.replicate 11 none
  statics := none }

def pool15 : Array CpInfo := pool [(1, .class_ 2), (0, u "java/lang/Comparable"), (0, .class_ 4), (0, u "java/lang/Object")] 7

/-- java/lang/Comparable -/
def k15 : Class := { plain "java/lang/Comparable" (some 0) with
  accessFlags := 1537
  interfaces := #[]
  cf := some (fileOf pool15 1 #[] #[] 1537 3 #[] #[])
  fields := #[]
  methods := #[]
  instanceTypes := #[]
  staticTypes := #[]
  resolved := Array.replicate 12 none
  statics := none }

def pool16 : Array CpInfo := pool [(2, .class_ 4), (1, u "java/lang/Enum"), (0, u "name"), (0, u "Ljava/lang/String;"), (2, u "ordinal"), (0, u "I"), (1, .class_ 14), (1, u "java/lang/Object"), (4, u "hash"), (86, .class_ 108), (1, u "java/lang/Enum$EnumDesc"), (2, .class_ 112), (0, u "java/lang/constant/Constable"), (0, .class_ 114), (0, u "java/lang/Comparable"), (0, .class_ 116), (0, u "java/io/Serializable")] 87

/-- java/lang/Enum -/
def k16 : Class := { plain "java/lang/Enum" (some 0) with
  accessFlags := 1057
  interfaces := #[14, 15, 12]
  cf := some (fileOf pool16 2 #[.nestMembers #[106]] #[] 1057 12 #[111, 113, 115] #[{ accessFlags := 18, nameIndex := 5, descriptorIndex := 6, attributes := #[] }, { accessFlags := 18, nameIndex := 9, descriptorIndex := 10, attributes := #[] }, { accessFlags := 2, nameIndex := 19, descriptorIndex := 10, attributes := #[] }])
  fields := #[{ name := "name", type := (.object "java/lang/String"), accessFlags := 18, slot := 0, constantValue := 0 }, { name := "ordinal", type := .int, accessFlags := 18, slot := 1, constantValue := 0 }, { name := "hash", type := .int, accessFlags := 2, slot := 2, constantValue := 0 }]
  methods := #[]
  instanceTypes := #[(.object "java/lang/String"), .int, .int]
  staticTypes := #[]
  resolved := Array.replicate 204 none
  statics := none }

def pool17 : Array CpInfo := pool [(1, .class_ 2), (0, u "com/example/reactions_to_maps/reactionstomaps/layout/CorridorRouter"), (0, .class_ 4), (0, u "com/example/reactions_to_maps/reactionstomaps/layout/CorridorRouter$Pitch"), (2, u "FULL"), (0, u "Lcom/example/reactions_to_maps/reactionstomaps/layout/CorridorRouter$Pitch;"), (2, u "STROKE"), (2, u "$VALUES"), (0, u "[Lcom/example/reactions_to_maps/reactionstomaps/layout/CorridorRouter$Pitch;"), (6, .class_ 24), (1, u "java/lang/Enum"), (8, u "distance"), (0, u "D")] 28

/-- com/example/reactions_to_maps/reactionstomaps/layout/CorridorRouter$Pitch -/
def k17 : Class := { plain "com/example/reactions_to_maps/reactionstomaps/layout/CorridorRouter$Pitch" (some 16) with
  accessFlags := 16432
  interfaces := #[]
  cf := some (fileOf pool17 3 #[.nestHost 1] #[] 16432 22 #[] #[{ accessFlags := 16409, nameIndex := 7, descriptorIndex := 8, attributes := #[] }, { accessFlags := 16409, nameIndex := 11, descriptorIndex := 8, attributes := #[] }, { accessFlags := 16, nameIndex := 33, descriptorIndex := 34, attributes := #[] }, { accessFlags := 4122, nameIndex := 14, descriptorIndex := 15, attributes := #[] }])
  fields := #[{ name := "FULL", type := (.object "com/example/reactions_to_maps/reactionstomaps/layout/CorridorRouter$Pitch"), accessFlags := 16409, slot := 0, constantValue := 0 }, { name := "STROKE", type := (.object "com/example/reactions_to_maps/reactionstomaps/layout/CorridorRouter$Pitch"), accessFlags := 16409, slot := 1, constantValue := 0 }, { name := "distance", type := .double, accessFlags := 16, slot := 3, constantValue := 0 }, { name := "$VALUES", type := (.array (.object "com/example/reactions_to_maps/reactionstomaps/layout/CorridorRouter$Pitch")), accessFlags := 4122, slot := 2, constantValue := 0 }]
  methods := #[]
  instanceTypes := #[(.object "java/lang/String"), .int, .int, .double]
  staticTypes := #[(.object "com/example/reactions_to_maps/reactionstomaps/layout/CorridorRouter$Pitch"), (.object "com/example/reactions_to_maps/reactionstomaps/layout/CorridorRouter$Pitch"), (.array (.object "com/example/reactions_to_maps/reactionstomaps/layout/CorridorRouter$Pitch"))]
  resolved := Array.replicate 63 none
  statics := some 1 }

/-- the primitive byte -/
def k18 : Class := { plain "byte" none with kind := .primitive 'B', accessFlags := 0x411 }
/-- [B -/
def k19 : Class := { plain "[B" (some 0) with kind := .array 18 .byte, interfaces := #[11, 12], accessFlags := 1041 }

/-- the primitive int -/
def k20 : Class := { plain "int" none with kind := .primitive 'I', accessFlags := 0x411 }
/-- [I -/
def k21 : Class := { plain "[I" (some 0) with kind := .array 20 .int, interfaces := #[11, 12], accessFlags := 1041 }

/-- [Ljava/lang/Object; -/
def k22 : Class := { plain "[Ljava/lang/Object;" (some 0) with kind := .array 0 (.object "java/lang/Object"), interfaces := #[11, 12], accessFlags := 1041 }

def heap : Heap := #[{ cls := 13, slots := #[.long 0, .int 0, .ref 4, .ref 5], vm := .statics 13 },
  { cls := 17, slots := #[.ref 2, .ref 3, .null], vm := .statics 17 },
  { cls := 17, slots := #[.null, .int 0, .int 0, .double 4618441417868443648], vm := .none },
  { cls := 17, slots := #[.null, .int 0, .int 0, .double 4609434218613702656], vm := .none },
  { cls := 22, slots := #[], vm := .none },
  { cls := 22, slots := #[], vm := .none }]
def classes : Array Class := #[k0, k1, k2, k3, k4, k5, k6, k7, k8, k9, k10, k11, k12, k13, k14, k15, k16, k17, k18, k19, k20, k21, k22]
def interned : List (Array UInt16 × Addr) := []
def slotsUsed : Nat := 15
def theMethod : MethodId := ⟨1, 1⟩
def args0 : Array Value := #[.int 5]
def aboutOver (below : List Frame) : State where
  vm := { classes := classes, interned := interned.toArray }
  heap := heap
  slotsUsed := slotsUsed
  threads := #[{ frames := .invoking theMethod args0 :: below }]
def below0 : List Frame := [.native { method := ⟨0, 0⟩, args := #[] }]
def about1 : State := aboutOver below0
def p0 : Program := .bare "" "" ""
def e0 : Env := launch0.env 0 0 0
theorem w_frames : about1.frames = Frame.invoking theMethod args0 :: below0 := rfl
set_option maxRecDepth 65536 in
theorem w_args : argsFit about1.vm theMethod args0 = true := by decide +kernel
set_option maxRecDepth 65536 in
theorem w_heap : heapFits about1 = true := by decide +kernel
set_option maxRecDepth 65536 in
theorem w_runnable : about1.curStatus? = some .runnable := by decide +kernel
set_option maxRecDepth 65536 in
theorem w_alone : about1.alone = true := by decide +kernel
set_option maxRecDepth 65536 in
theorem w_named : about1.methodNamed? x = some theMethod := by decide +kernel
set_option maxRecDepth 65536 in
theorem w_hears : about1.hears theMethod below0 = true := by decide +kernel
set_option maxRecDepth 65536 in
theorem w_ripe : about1.ripe theMethod args0 below0 = true := by decide +kernel
theorem w_running : about1.status = .running := rfl
set_option maxRecDepth 65536 in
theorem w_room : about1.hasRoom e0.platform room_1 = true :=
  launch0.hasRoom_least _ room_1 (by decide +kernel) (by decide +kernel) (by decide +kernel) (by decide +kernel) (by decide +kernel) (by decide +kernel)
theorem allAtoms_all (ts : List Jvm.Cond) (a : Array Jvm.Value) (st : Jvm.State) : (allAtoms ts).before a st = ts.all (fun c => c.before a st) := by
  induction ts with
  | nil => rfl
  | cons c t ih =>
    show (Jvm.Cond.and c (allAtoms t)).before a st = _
    rw [Jvm.Cond.before_and, ih, List.all_cons]
def words1 : List Jvm.Cond := Jvm.Cond.code x code maxLocals ret :: tables_1
/-- a 'code' word, met by the world's own term for the bytes: nothing is compared byte by byte -/
theorem code_word {y : MethodName} {bytes : ByteArray} {mx : Nat} {rt : Option FieldType} {a : Array Value} {s : State} {m : MethodId} {meth : Method} {c : Code} (h1 : s.methodNamed? y = some m) (h2 : s.vm.method? m = some meth) (h3 : meth.code = some c) (h4 : c.code = bytes)
    (h5 : (c.maxLocals == mx && c.exceptionTable.isEmpty && decide (c.maxStack ≤ mostOperands) && decide (meth.sig.returnType = rt) && !meth.locks && decide (parseMethodDescriptor y.desc = some meth.sig)) = true) : (Jvm.Cond.code y bytes mx rt).before a s = true := by
  simp only [Bool.and_eq_true, beq_iff_eq, Bool.not_eq_true', decide_eq_true_eq] at h5
  obtain ⟨⟨⟨⟨⟨g1, g2⟩, g3⟩, g4⟩, g5⟩, g6⟩ := h5
  simp [Cond.before, Cond.holds, Cond.value, h1, h2, h3, h4, g1, g2, g3, g4, g5, g6]
def isCode : Jvm.Cond → Bool
  | .code _ _ _ _ => true
  | _ => false
theorem all_split {L : List Jvm.Cond} {P : Jvm.Cond → Bool} (h1 : L.all (fun c => isCode c || P c) = true) (h2 : ∀ c ∈ L.filter isCode, P c = true) : L.all P = true := by
  refine List.all_eq_true.mpr fun c hc => ?_
  have h := List.all_eq_true.mp h1 c hc
  rcases Bool.eq_false_or_eq_true (isCode c) with hi | hi
  · exact h2 c (List.mem_filter.mpr ⟨hc, hi⟩)
  · simpa [hi] using h
set_option maxRecDepth 65536 in
theorem w_c0 : (Jvm.Cond.code x code maxLocals ret).before args0 about1 = true := code_word (m := ⟨1, 1⟩) (meth := k1m1) (c := k1c1) (by decide +kernel) rfl rfl rfl (by decide +kernel)
set_option maxRecDepth 65536 in
theorem w_c1 : (Jvm.Cond.code ({ cls := "java/util/ArrayList", name := "<init>", desc := "()V" } : Jvm.MethodName) jdk_38_method_2_code (1 : Nat) (Option.none : Option Jvm.ClassFile.FieldType)).before args0 about1 = true := code_word (m := ⟨13, 0⟩) (meth := k13m0) (c := k13c0) (by decide +kernel) rfl rfl rfl (by decide +kernel)
set_option maxRecDepth 65536 in
theorem w_c2 : (Jvm.Cond.code ({ cls := "java/util/AbstractList", name := "<init>", desc := "()V" } : Jvm.MethodName) jdk_39_method_1_code (1 : Nat) (Option.none : Option Jvm.ClassFile.FieldType)).before args0 about1 = true := code_word (m := ⟨9, 0⟩) (meth := k9m0) (c := k9c0) (by decide +kernel) rfl rfl rfl (by decide +kernel)
set_option maxRecDepth 65536 in
theorem w_c3 : (Jvm.Cond.code ({ cls := "java/util/AbstractCollection", name := "<init>", desc := "()V" } : Jvm.MethodName) jdk_22_method_1_code (1 : Nat) (Option.none : Option Jvm.ClassFile.FieldType)).before args0 about1 = true := code_word (m := ⟨6, 0⟩) (meth := k6m0) (c := k6c0) (by decide +kernel) rfl rfl rfl (by decide +kernel)
set_option maxRecDepth 65536 in
theorem w_c4 : (Jvm.Cond.code ({ cls := "java/lang/Object", name := "<init>", desc := "()V" } : Jvm.MethodName) object_method_1_code (1 : Nat) (Option.none : Option Jvm.ClassFile.FieldType)).before args0 about1 = true := code_word (m := ⟨0, 0⟩) (meth := k0m0) (c := k0c0) (by decide +kernel) rfl rfl rfl (by decide +kernel)
set_option maxRecDepth 65536 in
theorem w_c5 : (Jvm.Cond.code ({ cls := "com/example/reactions_to_maps/reactionstomaps/layout/CorridorRouter$Plan", name := "<init>", desc := "(Ljava/util/List;DLjava/util/Map;)V" } : Jvm.MethodName) prog_38_method_1_code (5 : Nat) (Option.none : Option Jvm.ClassFile.FieldType)).before args0 about1 = true := code_word (m := ⟨3, 0⟩) (meth := k3m0) (c := k3c0) (by decide +kernel) rfl rfl rfl (by decide +kernel)
set_option maxRecDepth 65536 in
theorem w_c6 : (Jvm.Cond.code ({ cls := "java/lang/Record", name := "<init>", desc := "()V" } : Jvm.MethodName) jdk_30_method_1_code (1 : Nat) (Option.none : Option Jvm.ClassFile.FieldType)).before args0 about1 = true := code_word (m := ⟨2, 0⟩) (meth := k2m0) (c := k2c0) (by decide +kernel) rfl rfl rfl (by decide +kernel)
set_option maxRecDepth 65536 in
theorem w_c7 : (Jvm.Cond.code ({ cls := "com/example/reactions_to_maps/reactionstomaps/layout/CorridorRouter$Plan", name := "crowded", desc := "(Lcom/example/reactions_to_maps/reactionstomaps/layout/CorridorRouter$Pitch;)Z" } : Jvm.MethodName) prog_38_method_2_code (2 : Nat) (Option.some Jvm.ClassFile.FieldType.boolean)).before args0 about1 = true := code_word (m := ⟨3, 1⟩) (meth := k3m1) (c := k3c1) (by decide +kernel) rfl rfl rfl (by decide +kernel)
def codes1 : List Jvm.Cond := [Jvm.Cond.code x code maxLocals ret, Jvm.Cond.code ({ cls := "java/util/ArrayList", name := "<init>", desc := "()V" } : Jvm.MethodName) jdk_38_method_2_code (1 : Nat) (Option.none : Option Jvm.ClassFile.FieldType), Jvm.Cond.code ({ cls := "java/util/AbstractList", name := "<init>", desc := "()V" } : Jvm.MethodName) jdk_39_method_1_code (1 : Nat) (Option.none : Option Jvm.ClassFile.FieldType), Jvm.Cond.code ({ cls := "java/util/AbstractCollection", name := "<init>", desc := "()V" } : Jvm.MethodName) jdk_22_method_1_code (1 : Nat) (Option.none : Option Jvm.ClassFile.FieldType), Jvm.Cond.code ({ cls := "java/lang/Object", name := "<init>", desc := "()V" } : Jvm.MethodName) object_method_1_code (1 : Nat) (Option.none : Option Jvm.ClassFile.FieldType), Jvm.Cond.code ({ cls := "com/example/reactions_to_maps/reactionstomaps/layout/CorridorRouter$Plan", name := "<init>", desc := "(Ljava/util/List;DLjava/util/Map;)V" } : Jvm.MethodName) prog_38_method_1_code (5 : Nat) (Option.none : Option Jvm.ClassFile.FieldType), Jvm.Cond.code ({ cls := "java/lang/Record", name := "<init>", desc := "()V" } : Jvm.MethodName) jdk_30_method_1_code (1 : Nat) (Option.none : Option Jvm.ClassFile.FieldType), Jvm.Cond.code ({ cls := "com/example/reactions_to_maps/reactionstomaps/layout/CorridorRouter$Plan", name := "crowded", desc := "(Lcom/example/reactions_to_maps/reactionstomaps/layout/CorridorRouter$Pitch;)Z" } : Jvm.MethodName) prog_38_method_2_code (2 : Nat) (Option.some Jvm.ClassFile.FieldType.boolean)]
set_option maxRecDepth 65536 in
theorem codes_eq : words1.filter isCode = codes1 := rfl
theorem w_codes : ∀ c ∈ words1.filter isCode, c.before args0 about1 = true := by
  rw [codes_eq]
  intro c hc
  simp only [codes1, List.mem_cons, List.not_mem_nil, or_false] at hc
  rcases hc with rfl | rfl | rfl | rfl | rfl | rfl | rfl | rfl
  · exact w_c0
  · exact w_c1
  · exact w_c2
  · exact w_c3
  · exact w_c4
  · exact w_c5
  · exact w_c6
  · exact w_c7
set_option maxRecDepth 65536 in
theorem w_t1 : (words1.take 24).all (fun c => isCode c || c.before args0 about1) = true := by decide +kernel
set_option maxRecDepth 65536 in
theorem w_t2 : ((words1.drop 24).take 24).all (fun c => isCode c || c.before args0 about1) = true := by decide +kernel
set_option maxRecDepth 65536 in
theorem w_t3 : ((words1.drop 24).drop 24).all (fun c => isCode c || c.before args0 about1) = true := by decide +kernel
theorem w_tables : (allAtoms (Jvm.Cond.code x code maxLocals ret :: tables_1)).before args0 about1 = true := by
  rw [allAtoms_all]
  show words1.all (fun c => c.before args0 about1) = true
  refine all_split ?_ w_codes
  rw [← List.take_append_drop 24 words1, List.all_append, w_t1, ← List.take_append_drop 24 (words1.drop 24), List.all_append, w_t2, w_t3]
  rfl
set_option maxRecDepth 65536 in
theorem w_rest : rest_1_c.before args0 about1 = true := by decide +kernel
set_option maxRecDepth 65536 in
theorem w_case : (Jvm.Cond.and given_1 narrow_1).before args0 about1 = true := by decide +kernel
theorem w_applies : (headSpec (Jvm.Cond.code x code maxLocals ret :: tables_1) room_1).applies x e0.platform about1 = true :=
  (Spec.applies_iff w_frames).mpr ⟨w_running, w_runnable, w_alone, w_named, w_hears, w_ripe, w_room, w_tables⟩
theorem atStart : AtStart classFile x code maxLocals ret World_1 tables_1 room_1 Calls_1 rest_1 Pre_1 launch0 p0 e0 about1 theMethod args0 below0 :=
  ⟨lists_1, trivial, launch0.admits_env _ _ _, launch0.least_env, fairChoices_fair.cas, fairChoices_fair.clock, w_frames, w_args, w_heap, w_applies, trivial, w_rest, w_case⟩
end start1
theorem witness_1 : WitnessClaimed_1 := ⟨start1.p0, start1.e0, start1.about1, start1.theMethod, start1.args0, start1.below0, start1.atStart⟩
end Jvm.Pilot.@@N@@
