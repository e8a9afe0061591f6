import JvmDerived
import JvmDerived.Pilot.@@N@@Statement
import JvmDerived.Pilot.@@N@@Code
set_option linter.unusedVariables false
set_option linter.unusedSimpArgs false
namespace Jvm.RoadKit
open Sem ClassFile Op Lib Jvm.Stand Jvm.Free Jvm.LawKit
section New
variable {p : Program} {l : Launch} {e : Env} {R : Room} {s : State} {m : MethodId} {args : Array Value} {below : List Frame} {meth : Method} {c : Code} {T : State} {locs : List Loc} {cells slots : Nat}
theorem own_retV (X : Stand p l e R s m args below meth c T locs cells slots) (hx : p.tables.exec = Jvm.exec) {pc : Nat} {Ls : Array Slot} {w : Value} {rest : List Value} {t : FieldType} (hret : meth.sig.returnType = some t) (ht : t.isReference = true) (hw : w.isRef = true)
    (hd : decode c.code pc = .ok (.areturn, 1)) {fs : List Frame} (hl : ∀ (f : JFrame) (acts : List Action), f.method = m → f.locked = none → f.entered = [] → (doReturn e (T.setTop f) acts (some w)).1 = T.setFrames fs) :
    Steps p.tables e below (T.setTop (mkF m pc Ls (w :: rest))) (T.setFrames fs) :=
  retOut X hx hret (by cases t <;> first | rfl | cases ht) (Or.inr (Or.inr (Or.inr (Or.inr ⟨rfl, ht, hw⟩)))) hd hl
theorem own_retI (X : Stand p l e R s m args below meth c T locs cells slots) (hx : p.tables.exec = Jvm.exec) {pc : Nat} {Ls : Array Slot} {z : Int32} {rest : List Value} (hret : meth.sig.returnType = some .int)
    (hd : decode c.code pc = .ok (.ireturn, 1)) {fs : List Frame} (hl : ∀ (f : JFrame) (acts : List Action), f.method = m → f.locked = none → f.entered = [] → (doReturn e (T.setTop f) acts (some (.int z))).1 = T.setFrames fs) :
    Steps p.tables e below (T.setTop (mkF m pc Ls (.int z :: rest))) (T.setFrames fs) :=
  retOut X hx hret rfl (Or.inl ⟨rfl, Or.inl rfl, z, rfl⟩) hd hl
theorem own_retL (X : Stand p l e R s m args below meth c T locs cells slots) (hx : p.tables.exec = Jvm.exec) {pc : Nat} {Ls : Array Slot} {z : Int64} {rest : List Value} (hret : meth.sig.returnType = some .long)
    (hd : decode c.code pc = .ok (.lreturn, 1)) {fs : List Frame} (hl : ∀ (f : JFrame) (acts : List Action), f.method = m → f.locked = none → f.entered = [] → (doReturn e (T.setTop f) acts (some (.long z))).1 = T.setFrames fs) :
    Steps p.tables e below (T.setTop (mkF m pc Ls (.long z :: rest))) (T.setFrames fs) :=
  retOut X hx hret rfl (Or.inr (Or.inl ⟨rfl, rfl, z, rfl⟩)) hd hl
theorem own_go {tb : Tables} {e : Env} {below : List Frame} {A A' : State} {P : State → Outcome → Prop} (st : ∀ t, Steps tb e below A' t → Steps tb e below A t) (h : ∃ s₂ o, Steps tb e below A' s₂ ∧ P s₂ o) : ∃ s₂ o, Steps tb e below A s₂ ∧ P s₂ o :=
  let ⟨s₂, o, h1, h2⟩ := h
  ⟨s₂, o, st _ h1, h2⟩
theorem own_fld_inj {Z : State} {h : Heap} {a : Addr} {C n d : String} {v w : Value} (F : Fld Z h a C n d v) (G : Fld Z h a C n d w) : v = w := by
  obtain ⟨c1, cf1, k1, i1, f1, p1, p2, -, -, -, -, p5⟩ := F
  obtain ⟨c2, cf2, k2, i2, f2, q1, q2, -, -, -, -, q5⟩ := G
  rw [p1] at q1; cases q1
  rw [p2] at q2; cases q2
  have := p5.symm.trans q5
  simpa using this
theorem own_fld_ne {Z : State} {h : Heap} {a b : Addr} {C n d : String} {i j : Int32} (F : Fld Z h a C n d (.int i)) (G : Fld Z h b C n d (.int j)) (hij : ¬ i = j) : ¬ a = b := fun q => by
  subst q
  exact hij (Value.int.inj (own_fld_inj F G))
theorem own_keep_ext {h h' : Heap} (K : Keep h h' []) : Ext h h' := ⟨K.1, fun a c q => K.2.1 a c q nin0⟩
theorem own_sta_keep {Z : State} {h h' : Heap} {C n d K : String} {v : Value} {a : Addr} (F : Sta Z h C n d v) (k : Keep h h' [a]) (E : Exa Z h a K) : Sta Z h' C n d v := by
  obtain ⟨cf, i, kk, f, st, cell, h1, h2, h3, h4, h5, h6, h7⟩ := F
  refine ⟨cf, i, kk, f, st, cell, h1, h2, h3, h4, k.2.1 _ _ h5 (ninS (fun q => ?_) nin0), h6, h7⟩
  obtain ⟨cell', k', g1, -, -, g4, -⟩ := E
  subst q
  cases h5.symm.trans g1
  rw [h6] at g4; cases g4
theorem own_ext_trans {h h' h'' : Heap} (E : Ext h h') (F : Ext h' h'') : Ext h h'' := ⟨Nat.le_trans E.1 F.1, fun a c q => F.2 a c (E.2 a c q)⟩
theorem own_ext_keep {h h' h'' : Heap} {ws : List Addr} (E : Ext h h') (K : Keep h' h'' ws) (q : ∀ x ∈ ws, h.size ≤ x) : Ext h h'' :=
  ⟨Nat.le_trans E.1 K.1, fun a c r => K.2.1 a c (E.2 a c r) fun z => absurd (Array.getElem?_eq_some_iff.mp r).1 (Nat.not_lt.mpr (q a z))⟩
theorem own_ext_wr {h h' h'' : Heap} {b : Addr} {sl : Nat} {v : Value} (E : Ext h h') (W : Wr h' h'' b sl v) (q : h.size ≤ b) : Ext h h'' :=
  own_ext_keep E (Keep.of_wr W) fun x hx => by cases List.mem_singleton.mp hx; exact q
end New
end Jvm.RoadKit
/- laws to paste: Road.backV, Road.eqW, Road.codOf (cut by pick.py; bodies as the Statement names them) -/
namespace Jvm.Pilot.@@N@@
namespace StrChars
open Jvm Sem ClassFile Op Lib Jvm.Stand Jvm.Free.XT Jvm.Free.ALB Jvm.Free.JM Jvm.Free
open Jvm.Lib.Cold (StaticIs)
/-- a char array whose places are chars -/
def Ch (a : Addr) (A : Cell) (U : State) : Prop := Arr .char a A U ∧ Typed .char A
theorem Ch.mv {a : Addr} {A : Cell} {U U' : State} (h : Ch a A U) (hal : U.vm.Alike U'.vm) (hh : U'.heap = U.heap) : Ch a A U' := ⟨h.1.mv hal hh, h.2⟩
theorem Ch.keep {a : Addr} {A : Cell} {U U' : State} (h : Ch a A U) (hal : U.vm.Alike U'.vm) (hk : U'.heap[a]? = some A) : Ch a A U' := ⟨h.1.keep hal hk, h.2⟩
/-- what place i of a char[]'s cell holds -/
def cv (A : Cell) (i : Nat) : Int32 := match A.slots[i]? with | some (.int x) => x | _ => 0
theorem Ch.get {a : Addr} {A : Cell} {U : State} (h : Ch a A U) {i : Nat} (hi : i < A.slots.size) : A.slots[i]? = some (.int (cv A i)) := by
  have e := Array.getElem?_eq_getElem hi
  have f := h.2 i _ e
  unfold cv; rw [e]
  generalize A.slots[i] = v at f
  cases v <;> simp [fits] at f ⊢
/-- the byte that i2b leaves of a char -/
def lo8 (x : Int32) : Int32 := x.toInt8.toInt32
theorem fits_lo8 (y : Int32) : fits .byte (.int (lo8 y)) = true := by
  have h1 := y.toInt8.le_toInt
  have h2 := y.toInt8.toInt_lt
  simp only [lo8, fits, Bool.and_eq_true, decide_eq_true_eq, Int32.le_iff_toInt_le, Int8.toInt_toInt32, show (-128 : Int32).toInt = -128 from by decide, show (127 : Int32).toInt = 127 from by decide]
  omega
/-- A' is A but that each place j of lo .. hi - 1 holds f j -/
def Laid (A A' : Cell) (lo hi : Nat) (f : Nat → Value) : Prop := A'.cls = A.cls ∧ A'.vm = A.vm ∧ A'.slots.size = A.slots.size ∧ ∀ i, A'.slots[i]? = if lo ≤ i ∧ i < hi then some (f i) else A.slots[i]?
theorem Laid.zero (A : Cell) (lo : Nat) (f : Nat → Value) : Laid A A lo (lo + 0) f := ⟨rfl, rfl, rfl, fun i => by rw [if_neg (by omega)]⟩
theorem Laid.step {A Ak : Cell} {lo k : Nat} {f : Nat → Value} {v : Value} (h : Laid A Ak lo k f) (hlo : lo ≤ k) (hk : k < Ak.slots.size) (hv : v = f k) : Laid A (Ak.setSlot k v) lo (k + 1) f := by
  refine ⟨h.1, h.2.1, by simpa [Cell.setSlot] using h.2.2.1, fun i => ?_⟩
  by_cases e : k = i
  · subst e; rw [Cell.slots_setSlot_self v hk, if_pos (by omega), hv]
  · rw [Cell.slots_setSlot_ne v e, h.2.2.2 i]
    by_cases q : lo ≤ i ∧ i < k
    · rw [if_pos q, if_pos (by omega)]
    · rw [if_neg q, if_neg (by omega)]
def U16 : String := "java/lang/StringUTF16"
namespace Cmp5
def yN : MethodName := ⟨"java/lang/StringUTF16", "compress", "([CI[BII)I"⟩
abbrev yB : ByteArray := jdk_52_method_21_code
theorem d0 : decode yB 0 = .ok (.iconst 0, 1) := by decide +kernel
theorem d1 : decode yB 1 = .ok (.istore 5, 2) := by decide +kernel
theorem d3 : decode yB 3 = .ok (.iload 5, 2) := by decide +kernel
theorem d5 : decode yB 5 = .ok (.iload 4, 2) := by decide +kernel
theorem d7 : decode yB 7 = .ok (.if_icmp (.ge) 37, 3) := by decide +kernel
theorem d10 : decode yB 10 = .ok (.aload_n 0, 1) := by decide +kernel
theorem d11 : decode yB 11 = .ok (.iload_n 1, 1) := by decide +kernel
theorem d12 : decode yB 12 = .ok (.caload, 1) := by decide +kernel
theorem d13 : decode yB 13 = .ok (.istore 6, 2) := by decide +kernel
theorem d15 : decode yB 15 = .ok (.iload 6, 2) := by decide +kernel
theorem d17 : decode yB 17 = .ok (.sipush 255, 3) := by decide +kernel
theorem d20 : decode yB 20 = .ok (.if_icmp (.le) 6, 3) := by decide +kernel
theorem d26 : decode yB 26 = .ok (.aload_n 2, 1) := by decide +kernel
theorem d27 : decode yB 27 = .ok (.iload_n 3, 1) := by decide +kernel
theorem d28 : decode yB 28 = .ok (.iload 6, 2) := by decide +kernel
theorem d30 : decode yB 30 = .ok (.i2b, 1) := by decide +kernel
theorem d31 : decode yB 31 = .ok (.bastore, 1) := by decide +kernel
theorem d32 : decode yB 32 = .ok (.iinc 1 1, 3) := by decide +kernel
theorem d35 : decode yB 35 = .ok (.iinc 3 1, 3) := by decide +kernel
theorem d38 : decode yB 38 = .ok (.iinc 5 1, 3) := by decide +kernel
theorem d41 : decode yB 41 = .ok (.goto (-38), 3) := by decide +kernel
theorem d44 : decode yB 44 = .ok (.iload 4, 2) := by decide +kernel
theorem d46 : decode yB 46 = .ok (.ireturn, 1) := by decide +kernel
def site : List Cond := []
def tab : Cond := tabOf yN yB 7 (some .int) site
def P (b : Addr) (A : Cell) (d : Addr) (B : Cell) (o q len : Nat) (args : Array Value) (s : State) : Prop := args = #[.ref b, .int (Int32.ofNat o), .ref d, .int (Int32.ofNat q), .int (Int32.ofNat len)] ∧ Ch b A s ∧ Arr .byte d B s ∧ b ≠ d ∧ o + len ≤ A.slots.size ∧ q + len ≤ B.slots.size ∧ ∀ i, i < len → ¬ 255 < cv A (o + i)
def E (b : Addr) (A : Cell) (d : Addr) (B : Cell) (o q len : Nat) (r : Option Value) (s u : State) : Prop := r = some (.int (Int32.ofNat len)) ∧ ∃ B', Put d B' s u ∧ Laid B B' q (q + len) (fun j => Value.int (lo8 (cv A (o + (j - q)))))
/-- no char of the range above 255: len; the places written hold each char's low byte -/
theorem law (l : Launch) (b : Addr) (A : Cell) (d : Addr) (B : Cell) (o q len : Nat) : Law l yN 5 5 0 0 yB 7 (some .int) site (P b A d B o q len) (E b A d B o q len) (copyLocs d q len) 0 0 := by
  refine Law.of_walk (plainFor_of_name (by decide +kernel)) (by decide +kernel) (by decide +kernel) (by decide) (fun _ _ h => by rw [h.1]; rfl) (fun _ U U' hal hh h => ⟨h.1, h.2.1.mv hal hh, h.2.2.1.mv hal hh, h.2.2.2⟩) (fun r U U' V V' h1 hal h2 h => ⟨h.1, h.2.elim fun B' q => ⟨B', q.1.mv h1 h2, q.2⟩⟩) ?_
  intro p e s m args below meth c s₁ X0 hexec hbytes hml hret hlk hnm hown hh0 W hP
  obtain ⟨rfl, hA, hB, hne, l1, l2, hp⟩ := hP
  have c1 : Steps p.tables e below (s₁.setTop (entryFrame m #[.ref b, .int (Int32.ofNat o), .ref d, .int (Int32.ofNat q), .int (Int32.ofNat len)] 7)) (s₁.setTop (mkF m 0 #[.val (.ref b), .val (.int (Int32.ofNat o)), .val (.ref d), .val (.int (Int32.ofNat q)), .val (.int (Int32.ofNat len)), .unset, .unset] [])) := entry rfl
  have hA0 := hA.1.mv X0.warmed.alike hh0
  have hB0 := hB.mv X0.warmed.alike hh0
  have a31 := hA.1.2.2.2
  have c2 : Steps p.tables e below (s₁.setTop (entryFrame m #[.ref b, .int (Int32.ofNat o), .ref d, .int (Int32.ofNat q), .int (Int32.ofNat len)] 7)) (s₁.setTop (mkF m 3 #[.val (.ref b), .val (.int (Int32.ofNat o)), .val (.ref d), .val (.int (Int32.ofNat q)), .val (.int (Int32.ofNat len)), .val (.int 0), .unset] [])) := c1.trans (by
    refine iconstV X0.here hexec rfl 0 (hb hbytes d0) (by decide) ?_
    refine XS.istore X0.here hexec rfl (hb hbytes d1) rfl rfl ?_
    exact Steps.refl _)
  have loop : ∀ (r i : Nat), i + r = len → ∀ (z : Slot), (z = .unset ∨ ∃ w, z = .val w ∧ w.category = 1) → ∀ (Tl : State) (Bk : Cell), Stand p l e { frames := 0, locals := 0, cells := 0, slots := 0 } s m #[.ref b, .int (Int32.ofNat o), .ref d, .int (Int32.ofNat q), .int (Int32.ofNat len)] below meth c Tl ([] ++ copyLocs d q i) 0 0 → Put d Bk s₁ Tl → Laid B Bk q (q + i) (fun j => Value.int (lo8 (cv A (o + (j - q))))) →
      Steps p.tables e below (s₁.setTop (entryFrame m #[.ref b, .int (Int32.ofNat o), .ref d, .int (Int32.ofNat q), .int (Int32.ofNat len)] 7)) (Tl.setTop (mkF m 3 #[.val (.ref b), .val (.int (Int32.ofNat (o + i))), .val (.ref d), .val (.int (Int32.ofNat (q + i))), .val (.int (Int32.ofNat len)), .val (.int (Int32.ofNat i)), z] [])) → ∃ (T' : State) (B' : Cell) (z' : Slot), Stand p l e { frames := 0, locals := 0, cells := 0, slots := 0 } s m #[.ref b, .int (Int32.ofNat o), .ref d, .int (Int32.ofNat q), .int (Int32.ofNat len)] below meth c T' ([] ++ copyLocs d q len) 0 0 ∧ Put d B' s₁ T' ∧ Laid B B' q (q + len) (fun j => Value.int (lo8 (cv A (o + (j - q))))) ∧
      Steps p.tables e below (s₁.setTop (entryFrame m #[.ref b, .int (Int32.ofNat o), .ref d, .int (Int32.ofNat q), .int (Int32.ofNat len)] 7)) (T'.setTop (mkF m 3 #[.val (.ref b), .val (.int (Int32.ofNat (o + len))), .val (.ref d), .val (.int (Int32.ofNat (q + len))), .val (.int (Int32.ofNat len)), .val (.int (Int32.ofNat len)), z'] [])) := by
    intro r
    induction r with
    | zero =>
      intro i hi z hz Tl Bk Xl pl fl cl
      have hil : i = len := by omega
      rw [hil] at Xl fl cl
      exact ⟨Tl, Bk, z, Xl, pl, fl, cl⟩
    | succ r ih =>
      intro i hi z hz Tl Bk Xl pl fl cl
      have all := X0.warmed.alike.symm.trans Xl.warmed.alike
      have hAl := hA0.keep all (pl.other hne hA0.1)
      have hBk := hB0.like all pl.1 fl.1 fl.2.1 fl.2.2.1
      have hlt : q + i < Bk.slots.size := by rw [fl.2.2.1]; omega
      have c3 : Steps p.tables e below (s₁.setTop (entryFrame m #[.ref b, .int (Int32.ofNat o), .ref d, .int (Int32.ofNat q), .int (Int32.ofNat len)] 7)) (Tl.setTop (mkF m 12 #[.val (.ref b), .val (.int (Int32.ofNat (o + i))), .val (.ref d), .val (.int (Int32.ofNat (q + i))), .val (.int (Int32.ofNat len)), .val (.int (Int32.ofNat i)), z] [.int (Int32.ofNat (o + i)), .ref b])) := cl.trans (by
        refine XS.iload Xl.here hexec rfl (hb hbytes d3) rfl ?_
        refine XS.iload Xl.here hexec rfl (hb hbytes d5) rfl ?_
        refine XS.icmpNo Xl.here hexec rfl (hb hbytes d7) rfl (ii_ge_f (lt32 (by omega) (by omega))) ?_
        refine XS.aloadN Xl.here hexec rfl (hb hbytes d10) rfl rfl ?_
        refine XS.iloadN Xl.here hexec rfl (hb hbytes d11) rfl ?_
        exact Steps.refl _)
      have c4 : Steps p.tables e below (s₁.setTop (entryFrame m #[.ref b, .int (Int32.ofNat o), .ref d, .int (Int32.ofNat q), .int (Int32.ofNat len)] 7)) (Tl.setTop (mkF m 13 #[.val (.ref b), .val (.int (Int32.ofNat (o + i))), .val (.ref d), .val (.int (Int32.ofNat (q + i))), .val (.int (Int32.ofNat len)), .val (.int (Int32.ofNat i)), z] [.int (cv A (o + i))])) := c3.trans (by
        refine Xl.aget hexec hAl rfl (hA.get (i := o + i) (by omega)) rfl rfl (hb hbytes d12) ?_
        exact Steps.refl _)
      have c5 : Steps p.tables e below (s₁.setTop (entryFrame m #[.ref b, .int (Int32.ofNat o), .ref d, .int (Int32.ofNat q), .int (Int32.ofNat len)] 7)) (Tl.setTop (mkF m 15 #[.val (.ref b), .val (.int (Int32.ofNat (o + i))), .val (.ref d), .val (.int (Int32.ofNat (q + i))), .val (.int (Int32.ofNat len)), .val (.int (Int32.ofNat i)), .val (.int (cv A (o + i)))] [])) := c4.trans (by
        refine XS.istoreS Xl.here hexec rfl (hb hbytes d13) rfl rfl hz ?_
        exact Steps.refl _)
      have c6 : Steps p.tables e below (s₁.setTop (entryFrame m #[.ref b, .int (Int32.ofNat o), .ref d, .int (Int32.ofNat q), .int (Int32.ofNat len)] 7)) (Tl.setTop (mkF m 31 #[.val (.ref b), .val (.int (Int32.ofNat (o + i))), .val (.ref d), .val (.int (Int32.ofNat (q + i))), .val (.int (Int32.ofNat len)), .val (.int (Int32.ofNat i)), .val (.int (cv A (o + i)))] [.int (lo8 (cv A (o + i))), .int (Int32.ofNat (q + i)), .ref d])) := c5.trans (by
        refine XS.iload Xl.here hexec rfl (hb hbytes d15) rfl ?_
        refine sipushV Xl.here hexec rfl 255 (hb hbytes d17) (by decide) ?_
        refine XS.icmpYes Xl.here hexec rfl (pc0 := 20) rfl (hb hbytes d20) rfl (ii_le_t (hp i (by omega))) (by decide) rfl ?_
        refine XS.aloadN Xl.here hexec rfl (hb hbytes d26) rfl rfl ?_
        refine XS.iloadN Xl.here hexec rfl (hb hbytes d27) rfl ?_
        refine XS.iload Xl.here hexec rfl (hb hbytes d28) rfl ?_
        refine i2b Xl.here hexec rfl (hb hbytes d30) rfl ?_
        exact Steps.refl _)
      obtain ⟨T7, X7, p7, st7⟩ := Xl.aput hexec hBk rfl hlt rfl (fits_lo8 (cv A (o + i))) (g := (mkF m 31 #[.val (.ref b), .val (.int (Int32.ofNat (o + i))), .val (.ref d), .val (.int (Int32.ofNat (q + i))), .val (.int (Int32.ofNat len)), .val (.int (Int32.ofNat i)), .val (.int (cv A (o + i)))] [.int (lo8 (cv A (o + i))), .int (Int32.ofNat (q + i)), .ref d])) rfl (rest := []) rfl (hb hbytes d31)
      have c8 : Steps p.tables e below (s₁.setTop (entryFrame m #[.ref b, .int (Int32.ofNat o), .ref d, .int (Int32.ofNat q), .int (Int32.ofNat len)] 7)) (T7.setTop (mkF m 32 #[.val (.ref b), .val (.int (Int32.ofNat (o + i))), .val (.ref d), .val (.int (Int32.ofNat (q + i))), .val (.int (Int32.ofNat len)), .val (.int (Int32.ofNat i)), .val (.int (cv A (o + i)))] [])) := c6.trans (st7 _ (Steps.refl _))
      have c9 : Steps p.tables e below (s₁.setTop (entryFrame m #[.ref b, .int (Int32.ofNat o), .ref d, .int (Int32.ofNat q), .int (Int32.ofNat len)] 7)) (T7.setTop (mkF m 3 #[.val (.ref b), .val (.int (Int32.ofNat (o + i) + 1)), .val (.ref d), .val (.int (Int32.ofNat (q + i) + 1)), .val (.int (Int32.ofNat len)), .val (.int (Int32.ofNat i + 1)), .val (.int (cv A (o + i)))] [])) := c8.trans (by
        refine iincV X7.here hexec rfl 1 (hb hbytes d32) (by decide) rfl rfl ?_
        refine iincV X7.here hexec rfl 1 (hb hbytes d35) (by decide) rfl rfl ?_
        refine iincV X7.here hexec rfl 1 (hb hbytes d38) (by decide) rfl rfl ?_
        refine XS.goto X7.here hexec rfl (pc0 := 41) rfl (hb hbytes d41) (by decide) rfl ?_
        exact Steps.refl _)
      have c10 : Steps p.tables e below (s₁.setTop (entryFrame m #[.ref b, .int (Int32.ofNat o), .ref d, .int (Int32.ofNat q), .int (Int32.ofNat len)] 7)) (T7.setTop (mkF m 3 #[.val (.ref b), .val (.int (Int32.ofNat (o + (i + 1)))), .val (.ref d), .val (.int (Int32.ofNat (q + (i + 1)))), .val (.int (Int32.ofNat len)), .val (.int (Int32.ofNat (i + 1))), .val (.int (cv A (o + i)))] [])) := by
        have := c9
        rw [succ32, succ32, succ32] at this
        exact this
      exact ih (i + 1) (by omega) _ (Or.inr ⟨_, rfl, rfl⟩) T7 _ (by rw [copyLocs_step, ← List.append_assoc]; exact X7) (pl.trans p7) (fl.step (by omega) hlt (by simp)) c10
  obtain ⟨T9, B9, z9, X9, p9, f9, g9⟩ := loop len 0 (by omega) .unset (Or.inl rfl) s₁ B (by simpa [copyLocs] using X0) ⟨hB0.1, fun _ _ => rfl, rfl⟩ (Laid.zero _ _ _) c2
  have c11 : Steps p.tables e below (s₁.setTop (entryFrame m #[.ref b, .int (Int32.ofNat o), .ref d, .int (Int32.ofNat q), .int (Int32.ofNat len)] 7)) (T9.setTop (mkF m 46 #[.val (.ref b), .val (.int (Int32.ofNat (o + len))), .val (.ref d), .val (.int (Int32.ofNat (q + len))), .val (.int (Int32.ofNat len)), .val (.int (Int32.ofNat len)), z9] [.int (Int32.ofNat len)])) := g9.trans (by
    refine XS.iload X9.here hexec rfl (hb hbytes d3) rfl ?_
    refine XS.iload X9.here hexec rfl (hb hbytes d5) rfl ?_
    refine XS.icmpYes X9.here hexec rfl (pc0 := 7) rfl (hb hbytes d7) rfl (ii_ge_t (nlt32 (by omega) (Nat.le_refl _))) (by decide) rfl ?_
    refine XS.iload X9.here hexec rfl (hb hbytes d44) rfl ?_
    exact Steps.refl _)
  exact ⟨T9, some (.int (Int32.ofNat len)), _, _, _, X9, by simp, rfl, rfl, (fun h => by cases h), ⟨rfl, B9, p9.from hh0, f9⟩, fun fs hl => c11.trans (X9.ireturnOut hexec hret rfl (Or.inl rfl) (hb hbytes d46) hl)⟩
end Cmp5
namespace Cmp3
def yN : MethodName := ⟨"java/lang/StringUTF16", "compress", "([CII)[B"⟩
abbrev yB : ByteArray := jdk_52_method_16_code
theorem d0 : decode yB 0 = .ok (.iload_n 2, 1) := by decide +kernel
theorem d1 : decode yB 1 = .ok (.newarray .byte, 2) := by decide +kernel
theorem d3 : decode yB 3 = .ok (.astore_n 3, 1) := by decide +kernel
theorem d4 : decode yB 4 = .ok (.aload_n 0, 1) := by decide +kernel
theorem d5 : decode yB 5 = .ok (.iload_n 1, 1) := by decide +kernel
theorem d6 : decode yB 6 = .ok (.aload_n 3, 1) := by decide +kernel
theorem d7 : decode yB 7 = .ok (.iconst 0, 1) := by decide +kernel
theorem d8 : decode yB 8 = .ok (.iload_n 2, 1) := by decide +kernel
theorem d9 : decode yB 9 = .ok (.invokestatic 115, 3) := by decide +kernel
theorem d12 : decode yB 12 = .ok (.istore 4, 2) := by decide +kernel
theorem d14 : decode yB 14 = .ok (.iload 4, 2) := by decide +kernel
theorem d16 : decode yB 16 = .ok (.iload_n 2, 1) := by decide +kernel
theorem d17 : decode yB 17 = .ok (.if_icmp (.eq) 40, 3) := by decide +kernel
theorem d57 : decode yB 57 = .ok (.aload_n 3, 1) := by decide +kernel
theorem d58 : decode yB 58 = .ok (.areturn, 1) := by decide +kernel
def site : List Cond := [.arrayClass .byte, Cmp5.tab] ++ staticW U16 115 Cmp5.yN
def tab : Cond := tabOf yN yB 6 (some (.array .byte)) site
def P (b : Addr) (A : Cell) (o len : Nat) (args : Array Value) (s : State) : Prop := args = #[.ref b, .int (Int32.ofNat o), .int (Int32.ofNat len)] ∧ Ch b A s ∧ o + len ≤ A.slots.size ∧ len ≤ 536870912 ∧ ∀ i, i < len → ¬ 255 < cv A (o + i)
def E (b : Addr) (A : Cell) (o len : Nat) (r : Option Value) (s u : State) : Prop := NewArr .byte "[B" len (fun j => .int (lo8 (cv A (o + j)))) r s u ∧ u.heap.size = s.heap.size + 1
/-- no char of the range above 255: a new byte[] of their low bytes -/
theorem law (l : Launch) (b : Addr) (A : Cell) (o len : Nat) : Law l yN 3 3 1 18 yB 6 (some (.array .byte)) site (P b A o len) (E b A o len) [] 1 len := by
  refine Law.of_walk (plainFor_of_name (by decide +kernel)) (by decide +kernel) (by decide +kernel) (by decide) (fun _ _ h => by rw [h.1]; rfl) (fun _ U U' hal hh h => ⟨h.1, h.2.1.mv hal hh, h.2.2⟩) (fun r U U' V V' h1 hal h2 h => ⟨NewArr.mv r U U' V V' h1 hal h2 h.1, by rw [h1, h2]; exact h.2⟩) ?_
  intro p e s m args below meth c s₁ X0 hexec hbytes hml hret hlk hnm hown hh0 W hP
  obtain ⟨rfl, hA, l1, l2, hp⟩ := hP
  have a31 := hA.1.2.2.2
  have c1 : Steps p.tables e below (s₁.setTop (entryFrame m #[.ref b, .int (Int32.ofNat o), .int (Int32.ofNat len)] 6)) (s₁.setTop (mkF m 0 #[.val (.ref b), .val (.int (Int32.ofNat o)), .val (.int (Int32.ofNat len)), .unset, .unset, .unset] [])) := entry rfl
  have c2 : Steps p.tables e below (s₁.setTop (entryFrame m #[.ref b, .int (Int32.ofNat o), .int (Int32.ofNat len)] 6)) (s₁.setTop (mkF m 1 #[.val (.ref b), .val (.int (Int32.ofNat o)), .val (.int (Int32.ofNat len)), .unset, .unset, .unset] [.int (Int32.ofNat len)])) := c1.trans (by
    refine XS.iloadN X0.here hexec rfl (hb hbytes d0) rfl ?_
    exact Steps.refl _)
  obtain ⟨T3, B3, X3, ba3, bs3, bv3, bh3, bf3, st3⟩ := X0.anew hexec (atype := .byte) (wk W (.arrayClass .byte)) rfl (by show len * 1 ≤ _; omega) (by omega) (g := (mkF m 1 #[.val (.ref b), .val (.int (Int32.ofNat o)), .val (.int (Int32.ofNat len)), .unset, .unset, .unset] [.int (Int32.ofNat len)])) rfl (hb hbytes d1) (rest := []) rfl (Nat.le_refl _) (by show 0 + len ≤ len; omega)
  rw [hh0] at ba3 st3
  have kp3 : XT.Kept s T3 := (XT.Kept.of_eq hh0).push bh3
  have hA3 := hA.keep X3.warmed.alike (kp3 _ _ hA.1.1)
  have hne : b ≠ s.heap.size := hA.1.ne
  have c4 : Steps p.tables e below (s₁.setTop (entryFrame m #[.ref b, .int (Int32.ofNat o), .int (Int32.ofNat len)] 6)) (T3.setTop (mkF m 3 #[.val (.ref b), .val (.int (Int32.ofNat o)), .val (.int (Int32.ofNat len)), .unset, .unset, .unset] [.ref s.heap.size])) := c2.trans (st3 _ (Steps.refl _))
  have c5 : Steps p.tables e below (s₁.setTop (entryFrame m #[.ref b, .int (Int32.ofNat o), .int (Int32.ofNat len)] 6)) (T3.setTop (mkF m 9 #[.val (.ref b), .val (.int (Int32.ofNat o)), .val (.int (Int32.ofNat len)), .val (.ref s.heap.size), .unset, .unset] [.int (Int32.ofNat len), .int 0, .ref s.heap.size, .int (Int32.ofNat o), .ref b])) := c4.trans (by
    refine XS.astoreN X3.here hexec rfl (hb hbytes d3) rfl rfl rfl ?_
    refine XS.aloadN X3.here hexec rfl (hb hbytes d4) rfl rfl ?_
    refine XS.iloadN X3.here hexec rfl (hb hbytes d5) rfl ?_
    refine XS.aloadN X3.here hexec rfl (hb hbytes d6) rfl rfl ?_
    refine iconstV X3.here hexec rfl 0 (hb hbytes d7) (by decide) ?_
    refine XS.iloadN X3.here hexec rfl (hb hbytes d8) rfl ?_
    exact Steps.refl _)
  obtain ⟨v6, T6, X6, E6, g6⟩ := X3.callS hexec (Cmp5.law l b A s.heap.size B3 o 0 len) hown (wks W (staticW U16 115 Cmp5.yN)) (wk W Cmp5.tab) (W := 0) (Nat.le_of_ble_eq_true rfl) (Nat.le_of_ble_eq_true rfl) (Nat.le_refl _) (by show 0 + len + 0 ≤ len; omega) (g := (mkF m 9 #[.val (.ref b), .val (.int (Int32.ofNat o)), .val (.int (Int32.ofNat len)), .val (.ref s.heap.size), .unset, .unset] [.int (Int32.ofNat len), .int (Int32.ofNat 0), .ref s.heap.size, .int (Int32.ofNat o), .ref b])) rfl (by rw [hml]; rfl) c5 (argsL := [.ref b, .int (Int32.ofNat o), .ref s.heap.size, .int (Int32.ofNat 0), .int (Int32.ofNat len)]) (rest := []) rfl rfl (by show 2 * 0 + 0 ≤ _; decide) (hb hbytes d9) (⟨rfl, hA3, ba3, hne, l1, by rw [bs3]; simp, hp⟩)
  obtain ⟨rfl, B6, p6, f6⟩ := E6
  have c7 : Steps p.tables e below (s₁.setTop (entryFrame m #[.ref b, .int (Int32.ofNat o), .int (Int32.ofNat len)] 6)) (T6.setTop (mkF m 12 #[.val (.ref b), .val (.int (Int32.ofNat o)), .val (.int (Int32.ofNat len)), .val (.ref s.heap.size), .unset, .unset] [.int (Int32.ofNat len)])) := g6
  have c8 : Steps p.tables e below (s₁.setTop (entryFrame m #[.ref b, .int (Int32.ofNat o), .int (Int32.ofNat len)] 6)) (T6.setTop (mkF m 58 #[.val (.ref b), .val (.int (Int32.ofNat o)), .val (.int (Int32.ofNat len)), .val (.ref s.heap.size), .val (.int (Int32.ofNat len)), .unset] [.ref s.heap.size])) := c7.trans (by
    refine XS.istore X6.here hexec rfl (hb hbytes d12) rfl rfl ?_
    refine XS.iload X6.here hexec rfl (hb hbytes d14) rfl ?_
    refine XS.iloadN X6.here hexec rfl (hb hbytes d16) rfl ?_
    refine XS.icmpYes X6.here hexec rfl (pc0 := 17) rfl (hb hbytes d17) rfl (ii_eq_t rfl) (by decide) rfl ?_
    refine XS.aloadN X6.here hexec rfl (hb hbytes d57) rfl rfl ?_
    exact Steps.refl _)
  have X8 := X6.wide (L' := []) (cells' := 1) (slots' := len) (fun x hx hlt => by
    simp only [List.nil_append, copyLocs, List.mem_map, List.mem_range] at hx
    obtain ⟨i, -, rfl⟩ := hx
    exact absurd hlt (Nat.lt_irrefl _)) (Nat.le_refl _) (by omega)
  exact ⟨T6, some (.ref s.heap.size), _, _, _, X8, rfl, rfl, rfl, (fun h => by cases h), ⟨⟨rfl, B6, ba3.like (X3.warmed.alike.symm.trans X6.warmed.alike) p6.1 f6.1 f6.2.1 f6.2.2.1, f6.2.1.trans bv3, by rw [X6.warmed.alike.findClass, f6.1]; exact bf3, by rw [f6.2.2.1, bs3]; simp, fun j hj => by rw [f6.2.2.2 j, if_pos (by omega)]; rfl, kp3.put p6 (Nat.le_refl _)⟩, by rw [p6.2.2, bh3, hh0]; simp⟩, fun fs hl => c8.trans (X8.areturnOut hexec rfl hret rfl (hb hbytes d58) hl)⟩
end Cmp3
namespace CodL
def yN : MethodName := ⟨"java/lang/StringUTF16", "coderFromArrayLen", "([BI)B"⟩
abbrev yB : ByteArray := jdk_52_method_15_code
theorem d0 : decode yB 0 = .ok (.iload_n 1, 1) := by decide +kernel
theorem d1 : decode yB 1 = .ok (.aload_n 0, 1) := by decide +kernel
theorem d2 : decode yB 2 = .ok (.arraylength, 1) := by decide +kernel
theorem d3 : decode yB 3 = .ok (.isub, 1) := by decide +kernel
theorem d4 : decode yB 4 = .ok (.bipush 31, 2) := by decide +kernel
theorem d6 : decode yB 6 = .ok (.iushr, 1) := by decide +kernel
theorem d7 : decode yB 7 = .ok (.i2b, 1) := by decide +kernel
theorem d8 : decode yB 8 = .ok (.ireturn, 1) := by decide +kernel
def site : List Cond := []
def tab : Cond := tabOf yN yB 2 (some .byte) site
def P (d : Addr) (B : Cell) (args : Array Value) (s : State) : Prop := args = #[.ref d, .int (Int32.ofNat B.slots.size)] ∧ Arr .byte d B s
def E (r : Option Value) (s u : State) : Prop := XT.PureE (some (.int 0)) r s u
/-- an array as long as the number of chars: LATIN1 -/
theorem law (l : Launch) (d : Addr) (B : Cell) : Law l yN 2 2 0 0 yB 2 (some .byte) site (P d B) E [] 0 0 := by
  refine Law.of_walk (plainFor_of_name (by decide +kernel)) (by decide +kernel) (by decide +kernel) (by decide) (fun _ _ h => by rw [h.1]; rfl) (fun _ U U' hal hh h => ⟨h.1, h.2.mv hal hh⟩) (fun r U U' V V' h1 hal h2 h => XT.PureE.mv r U U' V V' h1 hal h2 h) ?_
  intro p e s m args below meth c s₁ X0 hexec hbytes hml hret hlk hnm hown hh0 W hP
  obtain ⟨rfl, hB⟩ := hP
  have hB0 := hB.mv X0.warmed.alike hh0
  have c1 : Steps p.tables e below (s₁.setTop (entryFrame m #[.ref d, .int (Int32.ofNat B.slots.size)] 2)) (s₁.setTop (mkF m 0 #[.val (.ref d), .val (.int (Int32.ofNat B.slots.size))] [])) := entry rfl
  have c2 : Steps p.tables e below (s₁.setTop (entryFrame m #[.ref d, .int (Int32.ofNat B.slots.size)] 2)) (s₁.setTop (mkF m 2 #[.val (.ref d), .val (.int (Int32.ofNat B.slots.size))] [.ref d, .int (Int32.ofNat B.slots.size)])) := c1.trans (by
    refine XS.iloadN X0.here hexec rfl (hb hbytes d0) rfl ?_
    refine XS.aloadN X0.here hexec rfl (hb hbytes d1) rfl rfl ?_
    exact Steps.refl _)
  have c3 : Steps p.tables e below (s₁.setTop (entryFrame m #[.ref d, .int (Int32.ofNat B.slots.size)] 2)) (s₁.setTop (mkF m 8 #[.val (.ref d), .val (.int (Int32.ofNat B.slots.size))] [.int (lo8 (ushr (Int32.ofNat B.slots.size - Int32.ofNat B.slots.size) 31))])) := c2.trans (by
    refine X0.alen hexec hB0 rfl rfl (hb hbytes d2) ?_
    refine XS.isub X0.here hexec rfl (hb hbytes d3) rfl ?_
    refine bipushV X0.here hexec rfl 31 (hb hbytes d4) (by decide) ?_
    refine iushr X0.here hexec rfl (hb hbytes d6) rfl ?_
    refine i2b X0.here hexec rfl (hb hbytes d7) rfl ?_
    exact Steps.refl _)
  have e0 : lo8 (ushr (Int32.ofNat B.slots.size - Int32.ofNat B.slots.size) 31) = 0 := by rw [Int32.sub_self]; decide
  rw [e0] at c3
  exact ⟨s₁, some (.int 0), _, _, _, X0, rfl, rfl, rfl, (fun h => by cases h), ⟨rfl, hh0⟩, fun fs hl => c3.trans (X0.ireturnOut hexec hret rfl (Or.inr (Or.inr (Or.inl rfl))) (hb hbytes d8) hl)⟩
end CodL
/-- the String at a is Latin-1 over a new byte[] (the heap's one new cell): the low bytes of the len chars of A from o on; every cell but a is kept -/
def Got (a : Addr) (D : Cell) (fV fC : Field) (A : Cell) (o len : Nat) (r : Option Value) (s u : State) : Prop := r = none ∧ ∃ D' V : Cell, Blank "java/lang/String" a D' u ∧ Same D D' [fV.slot, fC.slot] ∧ D'.slots[fV.slot]? = some (.ref s.heap.size) ∧ D'.slots[fC.slot]? = some (.int 0) ∧ Arr .byte s.heap.size V u ∧ V.vm = .none ∧ u.vm.findClass "[B" = some V.cls ∧ V.slots.size = len ∧ (∀ j, j < len → V.slots[j]? = some (.int (lo8 (cv A (o + j))))) ∧ (∀ (y : Addr) (c : Cell), y ≠ a → s.heap[y]? = some c → u.heap[y]? = some c) ∧ u.heap.size = s.heap.size + 1
theorem Got.mv {a : Addr} {D A : Cell} {fV fC : Field} {o len : Nat} : ∀ r (U U' V V' : State), U'.heap = U.heap → V.vm.Alike V'.vm → V'.heap = V.heap → Got a D fV fC A o len r U V → Got a D fV fC A o len r U' V' :=
  fun r U U' V V' h1 hal h2 ⟨e0, D', X, a1, a2, a3, a4, a5, a6, a7, a8, a9, a10, a11⟩ => ⟨e0, D', X, a1.mv hal h2, a2, by rw [h1]; exact a3, a4, by rw [h1]; exact a5.mv hal h2, a6, by rw [hal.findClass]; exact a7, a8, a9, by rw [h1, h2]; exact a10, by rw [h1, h2]; exact a11⟩
namespace New4
def yN : MethodName := ⟨"java/lang/String", "<init>", "([CIILjava/lang/Void;)V"⟩
abbrev yB : ByteArray := jdk_42_method_149_code
theorem d0 : decode yB 0 = .ok (.aload_n 0, 1) := by decide +kernel
theorem d1 : decode yB 1 = .ok (.invokespecial 1, 3) := by decide +kernel
theorem d4 : decode yB 4 = .ok (.iload_n 3, 1) := by decide +kernel
theorem d5 : decode yB 5 = .ok (.ifCond (.ne) 22, 3) := by decide +kernel
theorem d27 : decode yB 27 = .ok (.getstatic 38, 3) := by decide +kernel
theorem d30 : decode yB 30 = .ok (.ifCond (.eq) 28, 3) := by decide +kernel
theorem d33 : decode yB 33 = .ok (.aload_n 1, 1) := by decide +kernel
theorem d34 : decode yB 34 = .ok (.iload_n 2, 1) := by decide +kernel
theorem d35 : decode yB 35 = .ok (.iload_n 3, 1) := by decide +kernel
theorem d36 : decode yB 36 = .ok (.invokestatic 177, 3) := by decide +kernel
theorem d39 : decode yB 39 = .ok (.astore 5, 2) := by decide +kernel
theorem d41 : decode yB 41 = .ok (.aload_n 0, 1) := by decide +kernel
theorem d42 : decode yB 42 = .ok (.aload 5, 2) := by decide +kernel
theorem d44 : decode yB 44 = .ok (.iload_n 3, 1) := by decide +kernel
theorem d45 : decode yB 45 = .ok (.invokestatic 47, 3) := by decide +kernel
theorem d48 : decode yB 48 = .ok (.putfield 15, 3) := by decide +kernel
theorem d51 : decode yB 51 = .ok (.aload_n 0, 1) := by decide +kernel
theorem d52 : decode yB 52 = .ok (.aload 5, 2) := by decide +kernel
theorem d54 : decode yB 54 = .ok (.putfield 9, 3) := by decide +kernel
theorem d57 : decode yB 57 = .ok (.return_, 1) := by decide +kernel
def site : List Cond := [.fieldLink "java/lang/String" 38 "java/lang/String" "COMPACT_STRINGS" "Z", Cmp3.tab, CodL.tab, .laysFinal "java/lang/String" "java/lang/String" "value" "[B", .fieldLink "java/lang/String" 9 "java/lang/String" "value" "[B", .laysFinal "java/lang/String" "java/lang/String" "coder" "B", .fieldLink "java/lang/String" 15 "java/lang/String" "coder" "B"] ++ objW "java/lang/String" 1 ++ staticW "java/lang/String" 177 Cmp3.yN ++ staticW "java/lang/String" 47 CodL.yN
def tab : Cond := tabOf yN yB 6 none site
def P (a : Addr) (D : Cell) (fV fC : Field) (b : Addr) (A : Cell) (z : Int32) (o len : Nat) (args : Array Value) (s : State) : Prop := args = #[.ref a, .ref b, .int (Int32.ofNat o), .int (Int32.ofNat len), .null] ∧ Blank "java/lang/String" a D s ∧ Found "java/lang/String" "value" "[B" fV s ∧ Found "java/lang/String" "coder" "B" fC s ∧ Ch b A s ∧ StaticIs s "java/lang/String" "COMPACT_STRINGS" "Z" (.int z) ∧ ¬ z = 0 ∧ 0 < len ∧ o + len ≤ A.slots.size ∧ len ≤ 536870912 ∧ ∀ i, i < len → ¬ 255 < cv A (o + i)
def E (a : Addr) (D : Cell) (fV fC : Field) (A : Cell) (o len : Nat) (r : Option Value) (s u : State) : Prop := Got a D fV fC A o len r s u
/-- len > 0, no char of the range above 255: a Latin-1 String of their low bytes -/
theorem law (l : Launch) (a : Addr) (D : Cell) (fV fC : Field) (b : Addr) (A : Cell) (z : Int32) (o len : Nat) : Law l yN 5 4 2 35 yB 6 none site (P a D fV fC b A z o len) (E a D fV fC A o len) [⟨a, fC.slot⟩, ⟨a, fV.slot⟩] 1 len := by
  refine Law.of_walk (plainFor_of_name (by decide +kernel)) (by decide +kernel) (by decide +kernel) (by decide) (fun _ _ h => by rw [h.1]; rfl) (fun _ U U' hal hh h => ⟨h.1, h.2.1.mv hal hh, h.2.2.1.al hal, h.2.2.2.1.al hal, h.2.2.2.2.1.mv hal hh, h.2.2.2.2.2.1.there hal hh, h.2.2.2.2.2.2⟩) (fun r U U' V V' h1 hal h2 h => Got.mv r U U' V V' h1 hal h2 h) ?_
  intro p e s m args below meth c s₁ X0 hexec hbytes hml hret hlk hnm hown hh0 W hP
  obtain ⟨rfl, hB, f1, f2, hA, s1, hz, l0, l1, l2, hp⟩ := hP
  have a31 := hA.1.2.2.2
  have c1 : Steps p.tables e below (s₁.setTop (entryFrame m #[.ref a, .ref b, .int (Int32.ofNat o), .int (Int32.ofNat len), .null] 6)) (s₁.setTop (mkF m 0 #[.val (.ref a), .val (.ref b), .val (.int (Int32.ofNat o)), .val (.int (Int32.ofNat len)), .val .null, .unset] [])) := entry rfl
  have c2 : Steps p.tables e below (s₁.setTop (entryFrame m #[.ref a, .ref b, .int (Int32.ofNat o), .int (Int32.ofNat len), .null] 6)) (s₁.setTop (mkF m 1 #[.val (.ref a), .val (.ref b), .val (.int (Int32.ofNat o)), .val (.int (Int32.ofNat len)), .val .null, .unset] [.ref a])) := c1.trans (by
    refine XS.aloadN X0.here hexec rfl (hb hbytes d0) rfl rfl ?_
    exact Steps.refl _)
  obtain ⟨T3, X3, q3, st3⟩ := X0.oinit hexec hown (wks W (objW "java/lang/String" 1)) (g := (mkF m 1 #[.val (.ref a), .val (.ref b), .val (.int (Int32.ofNat o)), .val (.int (Int32.ofNat len)), .val .null, .unset] [.ref a])) rfl (by rw [hml]; rfl) (rest := []) rfl (hb hbytes d1) (W := 0) (by show 2 * 0 + 0 ≤ _; decide) (Nat.le_of_ble_eq_true rfl) (Nat.le_of_ble_eq_true rfl)
  have hh3 := q3.trans hh0
  have c4 : Steps p.tables e below (s₁.setTop (entryFrame m #[.ref a, .ref b, .int (Int32.ofNat o), .int (Int32.ofNat len), .null] 6)) (T3.setTop (mkF m 27 #[.val (.ref a), .val (.ref b), .val (.int (Int32.ofNat o)), .val (.int (Int32.ofNat len)), .val .null, .unset] [])) := (c2.trans (st3 _ (Steps.refl _))).trans (by
    refine XS.iloadN X3.here hexec rfl (hb hbytes d4) rfl ?_
    refine XS.ifYes X3.here hexec rfl (pc0 := 5) rfl (hb hbytes d5) rfl (i0_ne_t (nz32 (by omega) l0)) (by decide) rfl ?_
    exact Steps.refl _)
  obtain ⟨T5, X5, q5, st5⟩ := X3.sget hexec hown (wk W (.fieldLink "java/lang/String" 38 "java/lang/String" "COMPACT_STRINGS" "Z")) s1 (fun _ _ h => by rw [hh3]; exact h) (g := (mkF m 27 #[.val (.ref a), .val (.ref b), .val (.int (Int32.ofNat o)), .val (.int (Int32.ofNat len)), .val .null, .unset] [])) rfl (hb hbytes d27)
  have hh5 := q5.trans hh3
  have c6 : Steps p.tables e below (s₁.setTop (entryFrame m #[.ref a, .ref b, .int (Int32.ofNat o), .int (Int32.ofNat len), .null] 6)) (T5.setTop (mkF m 30 #[.val (.ref a), .val (.ref b), .val (.int (Int32.ofNat o)), .val (.int (Int32.ofNat len)), .val .null, .unset] [.int z])) := c4.trans (st5 _ (Steps.refl _))
  have c7 : Steps p.tables e below (s₁.setTop (entryFrame m #[.ref a, .ref b, .int (Int32.ofNat o), .int (Int32.ofNat len), .null] 6)) (T5.setTop (mkF m 36 #[.val (.ref a), .val (.ref b), .val (.int (Int32.ofNat o)), .val (.int (Int32.ofNat len)), .val .null, .unset] [.int (Int32.ofNat len), .int (Int32.ofNat o), .ref b])) := c6.trans (by
    refine XS.ifNo X5.here hexec rfl (hb hbytes d30) rfl (i0_eq_f hz) ?_
    refine XS.aloadN X5.here hexec rfl (hb hbytes d33) rfl rfl ?_
    refine XS.iloadN X5.here hexec rfl (hb hbytes d34) rfl ?_
    refine XS.iloadN X5.here hexec rfl (hb hbytes d35) rfl ?_
    exact Steps.refl _)
  obtain ⟨v8, T8, X8, E8, g8⟩ := X5.callS hexec (Cmp3.law l b A o len) hown (wks W (staticW "java/lang/String" 177 Cmp3.yN)) (wk W Cmp3.tab) (W := 0) (Nat.le_of_ble_eq_true rfl) (Nat.le_of_ble_eq_true rfl) (Nat.le_refl _) (by show 0 + len ≤ len; omega) (g := (mkF m 36 #[.val (.ref a), .val (.ref b), .val (.int (Int32.ofNat o)), .val (.int (Int32.ofNat len)), .val .null, .unset] [.int (Int32.ofNat len), .int (Int32.ofNat o), .ref b])) rfl (by rw [hml]; rfl) c7 (argsL := [.ref b, .int (Int32.ofNat o), .int (Int32.ofNat len)]) (rest := []) rfl rfl (by show 2 * 0 + 0 ≤ _; decide) (hb hbytes d36) (⟨rfl, hA.mv X5.warmed.alike hh5, l1, l2, hp⟩)
  obtain ⟨e8, z8⟩ := E8
  obtain ⟨rfl, N, n1, n2, n3, n4, n5, n6⟩ := NewArr.mv _ T5 s _ _ hh5.symm (Vm.Alike.refl _) rfl e8
  rw [hh5] at z8
  have hB1 := hB.keep X8.warmed.alike (n6 _ _ hB.1)
  have hne : s.heap.size ≠ a := (Nat.ne_of_lt (Array.getElem?_eq_some_iff.mp hB.1).1).symm
  have c9 : Steps p.tables e below (s₁.setTop (entryFrame m #[.ref a, .ref b, .int (Int32.ofNat o), .int (Int32.ofNat len), .null] 6)) (T8.setTop (mkF m 39 #[.val (.ref a), .val (.ref b), .val (.int (Int32.ofNat o)), .val (.int (Int32.ofNat len)), .val .null, .unset] [.ref s.heap.size])) := g8
  have c10 : Steps p.tables e below (s₁.setTop (entryFrame m #[.ref a, .ref b, .int (Int32.ofNat o), .int (Int32.ofNat len), .null] 6)) (T8.setTop (mkF m 45 #[.val (.ref a), .val (.ref b), .val (.int (Int32.ofNat o)), .val (.int (Int32.ofNat len)), .val .null, .val (.ref s.heap.size)] [.int (Int32.ofNat N.slots.size), .ref s.heap.size, .ref a])) := by
    have hc : Steps p.tables e below (s₁.setTop (entryFrame m #[.ref a, .ref b, .int (Int32.ofNat o), .int (Int32.ofNat len), .null] 6)) (T8.setTop (mkF m 45 #[.val (.ref a), .val (.ref b), .val (.int (Int32.ofNat o)), .val (.int (Int32.ofNat len)), .val .null, .val (.ref s.heap.size)] [.int (Int32.ofNat len), .ref s.heap.size, .ref a])) := c9.trans (by
      refine XS.astore X8.here hexec rfl (hb hbytes d39) rfl rfl rfl ?_
      refine XS.aloadN X8.here hexec rfl (hb hbytes d41) rfl rfl ?_
      refine XS.aload X8.here hexec rfl (hb hbytes d42) rfl rfl ?_
      refine XS.iloadN X8.here hexec rfl (hb hbytes d44) rfl ?_
      exact Steps.refl _)
    rw [n4]; exact hc
  obtain ⟨v11, T11, X11, E11, g11⟩ := X8.callS hexec (CodL.law l s.heap.size N) hown (wks W (staticW "java/lang/String" 47 CodL.yN)) (wk W CodL.tab) (W := 1) (Nat.le_of_ble_eq_true rfl) (Nat.le_of_ble_eq_true rfl) (Nat.le_refl _) (by show 0 + len + 0 ≤ len; omega) (g := (mkF m 45 #[.val (.ref a), .val (.ref b), .val (.int (Int32.ofNat o)), .val (.int (Int32.ofNat len)), .val .null, .val (.ref s.heap.size)] [.int (Int32.ofNat N.slots.size), .ref s.heap.size, .ref a])) rfl (by rw [hml]; rfl) c10 (argsL := [.ref s.heap.size, .int (Int32.ofNat N.slots.size)]) (rest := [.ref a]) rfl rfl (by show 2 * 0 + (1 + 0) ≤ _; decide) (hb hbytes d45) (⟨rfl, n1⟩)
  obtain ⟨rfl, q11⟩ := E11
  have hB11 := hB1.mv (X8.warmed.alike.symm.trans X11.warmed.alike) q11
  have c12 : Steps p.tables e below (s₁.setTop (entryFrame m #[.ref a, .ref b, .int (Int32.ofNat o), .int (Int32.ofNat len), .null] 6)) (T11.setTop (mkF m 48 #[.val (.ref a), .val (.ref b), .val (.int (Int32.ofNat o)), .val (.int (Int32.ofNat len)), .val .null, .val (.ref s.heap.size)] [.int 0, .ref a])) := g11
  obtain ⟨T13, X13, p13, bl13, sl13, st13⟩ := X11.finit hexec hown (wk W (.fieldLink "java/lang/String" 15 "java/lang/String" "coder" "B")) (Or.inr ⟨_, (wk W (.laysFinal "java/lang/String" "java/lang/String" "coder" "B"))⟩) (Or.inl ⟨rfl, hnm⟩) f2 (Or.inl rfl) hB11 (t := .byte) (by decide +kernel) rfl (g := (mkF m 48 #[.val (.ref a), .val (.ref b), .val (.int (Int32.ofNat o)), .val (.int (Int32.ofNat len)), .val .null, .val (.ref s.heap.size)] [.int 0, .ref a])) rfl (rest := []) rfl (hb hbytes d48)
  have c14 : Steps p.tables e below (s₁.setTop (entryFrame m #[.ref a, .ref b, .int (Int32.ofNat o), .int (Int32.ofNat len), .null] 6)) (T13.setTop (mkF m 54 #[.val (.ref a), .val (.ref b), .val (.int (Int32.ofNat o)), .val (.int (Int32.ofNat len)), .val .null, .val (.ref s.heap.size)] [.ref s.heap.size, .ref a])) := (c12.trans (st13 _ (Steps.refl _))).trans (by
    refine XS.aloadN X13.here hexec rfl (hb hbytes d51) rfl rfl ?_
    refine XS.aload X13.here hexec rfl (hb hbytes d52) rfl rfl ?_
    exact Steps.refl _)
  obtain ⟨T15, X15, p15, bl15, sl15, st15⟩ := X13.finit hexec hown (wk W (.fieldLink "java/lang/String" 9 "java/lang/String" "value" "[B")) (Or.inr ⟨_, (wk W (.laysFinal "java/lang/String" "java/lang/String" "value" "[B"))⟩) (Or.inl ⟨rfl, hnm⟩) f1 (Or.inl rfl) bl13 (t := (.array .byte)) (by decide +kernel) rfl (g := (mkF m 54 #[.val (.ref a), .val (.ref b), .val (.int (Int32.ofNat o)), .val (.int (Int32.ofNat len)), .val .null, .val (.ref s.heap.size)] [.ref s.heap.size, .ref a])) rfl (rest := []) rfl (hb hbytes d54)
  have c16 : Steps p.tables e below (s₁.setTop (entryFrame m #[.ref a, .ref b, .int (Int32.ofNat o), .int (Int32.ofNat len), .null] 6)) (T15.setTop (mkF m 57 #[.val (.ref a), .val (.ref b), .val (.int (Int32.ofNat o)), .val (.int (Int32.ofNat len)), .val .null, .val (.ref s.heap.size)] [])) := c14.trans (st15 _ (Steps.refl _))
  have ap := apart (Or.inr ⟨_, (wk W (.laysFinal "java/lang/String" "java/lang/String" "value" "[B"))⟩) (Or.inr ⟨_, (wk W (.laysFinal "java/lang/String" "java/lang/String" "coder" "B"))⟩) f1 f2 (t₁ := .array .byte) (t₂ := .byte) (by decide +kernel) (by decide +kernel) (by decide)
  have al := X8.warmed.alike.symm.trans X15.warmed.alike
  have n7 : T11.heap[s.heap.size]? = some N := by rw [q11]; exact n1.1
  exact ⟨T15, none, _, _, _, X15, by simp, rfl, by omega, (fun _ => rfl), ⟨rfl, _, N, bl15, ((Same.refl D _).set _ (by simp)).set _ (by simp), sl15, (Cell.slots_setSlot_ne _ ap).trans sl13, n1.keep al (p15.other hne (p13.other hne n7)), n2, by rw [al.findClass]; exact n3, n4, n5, fun y c h1 h2 => p15.other h1 (p13.other h1 (by rw [q11]; exact n6 y c h2)), by rw [p15.2.2, p13.2.2, q11]; exact z8⟩, fun fs hl => c16.trans (X15.returnOut hexec hret (hb hbytes d57) hl)⟩
end New4
namespace New1
def yN : MethodName := ⟨"java/lang/String", "<init>", "([C)V"⟩
abbrev yB : ByteArray := jdk_42_method_3_code
theorem d0 : decode yB 0 = .ok (.aload_n 0, 1) := by decide +kernel
theorem d1 : decode yB 1 = .ok (.aload_n 1, 1) := by decide +kernel
theorem d2 : decode yB 2 = .ok (.iconst 0, 1) := by decide +kernel
theorem d3 : decode yB 3 = .ok (.aload_n 1, 1) := by decide +kernel
theorem d4 : decode yB 4 = .ok (.arraylength, 1) := by decide +kernel
theorem d5 : decode yB 5 = .ok (.aconst_null, 1) := by decide +kernel
theorem d6 : decode yB 6 = .ok (.invokespecial 27, 3) := by decide +kernel
theorem d9 : decode yB 9 = .ok (.return_, 1) := by decide +kernel
def site : List Cond := [New4.tab] ++ initW "java/lang/String" 27 New4.yN
def tab : Cond := tabOf yN yB 2 none site
def P (a : Addr) (D : Cell) (fV fC : Field) (b : Addr) (A : Cell) (z : Int32) (args : Array Value) (s : State) : Prop := args = #[.ref a, .ref b] ∧ Blank "java/lang/String" a D s ∧ Found "java/lang/String" "value" "[B" fV s ∧ Found "java/lang/String" "coder" "B" fC s ∧ Ch b A s ∧ StaticIs s "java/lang/String" "COMPACT_STRINGS" "Z" (.int z) ∧ ¬ z = 0 ∧ 0 < A.slots.size ∧ A.slots.size ≤ 536870912 ∧ ∀ i, i < A.slots.size → ¬ 255 < cv A i
def E (a : Addr) (D : Cell) (fV fC : Field) (A : Cell) (r : Option Value) (s u : State) : Prop := Got a D fV fC A 0 A.slots.size r s u
/-- new String(chars), not empty, no char above 255: a Latin-1 String of their low bytes -/
theorem law (l : Launch) (a : Addr) (D : Cell) (fV fC : Field) (b : Addr) (A : Cell) (z : Int32) : Law l yN 2 1 3 52 yB 2 none site (P a D fV fC b A z) (E a D fV fC A) [⟨a, fC.slot⟩, ⟨a, fV.slot⟩] 1 A.slots.size := by
  refine Law.of_walk (plainFor_of_name (by decide +kernel)) (by decide +kernel) (by decide +kernel) (by decide) (fun _ _ h => by rw [h.1]; rfl) (fun _ U U' hal hh h => ⟨h.1, h.2.1.mv hal hh, h.2.2.1.al hal, h.2.2.2.1.al hal, h.2.2.2.2.1.mv hal hh, h.2.2.2.2.2.1.there hal hh, h.2.2.2.2.2.2⟩) (fun r U U' V V' h1 hal h2 h => Got.mv r U U' V V' h1 hal h2 h) ?_
  intro p e s m args below meth c s₁ X0 hexec hbytes hml hret hlk hnm hown hh0 W hP
  obtain ⟨rfl, hB, f1, f2, hA, s1, hz, l0, l2, hp⟩ := hP
  have c1 : Steps p.tables e below (s₁.setTop (entryFrame m #[.ref a, .ref b] 2)) (s₁.setTop (mkF m 0 #[.val (.ref a), .val (.ref b)] [])) := entry rfl
  have c2 : Steps p.tables e below (s₁.setTop (entryFrame m #[.ref a, .ref b] 2)) (s₁.setTop (mkF m 6 #[.val (.ref a), .val (.ref b)] [.null, .int (Int32.ofNat A.slots.size), .int 0, .ref b, .ref a])) := c1.trans (by
    refine XS.aloadN X0.here hexec rfl (hb hbytes d0) rfl rfl ?_
    refine XS.aloadN X0.here hexec rfl (hb hbytes d1) rfl rfl ?_
    refine iconstV X0.here hexec rfl 0 (hb hbytes d2) (by decide) ?_
    refine XS.aloadN X0.here hexec rfl (hb hbytes d3) rfl rfl ?_
    refine X0.alen hexec (hA.1.mv X0.warmed.alike hh0) rfl rfl (hb hbytes d4) ?_
    refine XS.aconstNull X0.here hexec rfl (hb hbytes d5) ?_
    exact Steps.refl _)
  obtain ⟨v3, T3, X3, E3, g3⟩ := X0.callN hexec (New4.law l a D fV fC b A z 0 A.slots.size) rfl hown (wks W (initW "java/lang/String" 27 New4.yN)) (W New4.tab (by simp only [site, List.mem_cons, List.mem_append, true_or, or_true])) (W := 0) (Nat.le_of_ble_eq_true rfl) (Nat.le_of_ble_eq_true rfl) (Nat.le_refl _) (by show 0 + A.slots.size ≤ A.slots.size; omega) (g := (mkF m 6 #[.val (.ref a), .val (.ref b)] [.null, .int (Int32.ofNat A.slots.size), .int (Int32.ofNat 0), .ref b, .ref a])) rfl (by rw [hml]; rfl) c2 (argsL := [.ref b, .int (Int32.ofNat 0), .int (Int32.ofNat A.slots.size), .null]) (rest := []) rfl rfl (by show 2 * 0 + 0 ≤ _; decide) (hb hbytes d6) (⟨rfl, hB.mv X0.warmed.alike hh0, f1.al X0.warmed.alike, f2.al X0.warmed.alike, hA.mv X0.warmed.alike hh0, s1.there X0.warmed.alike hh0, hz, l0, by omega, l2, fun i hi => by rw [Nat.zero_add]; exact hp i hi⟩)
  have e0 := Got.mv _ s₁ s _ _ hh0.symm (Vm.Alike.refl _) rfl E3
  obtain rfl := e0.1
  have c4 : Steps p.tables e below (s₁.setTop (entryFrame m #[.ref a, .ref b] 2)) (T3.setTop (mkF m 9 #[.val (.ref a), .val (.ref b)] [])) := g3
  exact ⟨T3, none, _, _, _, X3, by simp, rfl, by omega, (fun _ => rfl), e0, fun fs hl => c4.trans (X3.returnOut hexec hret (hb hbytes d9) hl)⟩
theorem pays {l : Launch} {R : Room} {p : Program} {e : Env} {below : List Frame} {s : State} {sargs : Array Value} {len W : Nat} (a : Addr) (D : Cell) (fV fC : Field) (b : Addr) (A : Cell) (z : Int32) (htab : tab.before sargs s = true) (hfr : 4 ≤ R.frames) (hlo : W + 65 ≤ R.locals) :
    Back l R p e below s sargs yN len W (fun A₁ a₁ => A₁.cells + 1 ≤ R.cells ∧ A₁.slots + A.slots.size ≤ R.slots ∧ P a D fV fC b A z a₁ A₁.U) (fun A₁ _ v₁ B₁ => E a D fV fC A v₁ A₁.U B₁.U ∧ B₁.locs = A₁.locs ++ [⟨a, fC.slot⟩, ⟨a, fV.slot⟩] ∧ B₁.cells = A₁.cells + 1 ∧ B₁.slots = A₁.slots + A.slots.size) :=
  (law l a D fV fC b A z).pays htab hfr (by omega)
end New1
/-- the byte, read back as charAt reads it, is the char -/
theorem lo8_mask {x : Int32} (h0 : ¬ x < 0) (h1 : ¬ 255 < x) : lo8 x &&& 255 = x := by
  have t : ∀ k : Fin 256, lo8 (Int32.ofNat k.val) &&& 255 = Int32.ofNat k.val := by decide +kernel
  rw [Int32.lt_iff_toInt_lt] at h0 h1
  have e0 : (0 : Int32).toInt = 0 := rfl
  have e1 : (255 : Int32).toInt = 255 := rfl
  obtain ⟨k, hk⟩ : ∃ k : Nat, x.toInt = k := ⟨x.toInt.toNat, by omega⟩
  have hx : x = Int32.ofNat k := Int32.toInt_inj.mp (by rw [hk, Int32.toInt_ofNat_small (by omega)])
  rw [hx]
  exact t ⟨k, by omega⟩
end StrChars
namespace StrChars.Road
open Jvm Sem ClassFile Op Lib Jvm.Stand Jvm.Free Jvm.Free.XT
open Jvm.Lib.Cold (StaticIs)
abbrev ST : String := "java/lang/String"
/-- every table word that New1's law asks, flat -/
abbrev words : List Jvm.Cond := [.code New1.yN New1.yB 2 none, .initialized ST, .methodLink ST 27 New4.yN, .instanceMethod New4.yN,
  .code New4.yN New4.yB 6 none, .fieldLink ST 38 ST "COMPACT_STRINGS" "Z", .laysFinal ST ST "value" "[B", .fieldLink ST 9 ST "value" "[B", .laysFinal ST ST "coder" "B", .fieldLink ST 15 ST "coder" "B",
  .methodLink ST 1 Lib.objectInit, .instanceMethod Lib.objectInit, .code Lib.objectInit ⟨#[0xb1]⟩ 1 none, .methodLink ST 177 Cmp3.yN, .static Cmp3.yN, .methodLink ST 47 CodL.yN, .static CodL.yN,
  .code Cmp3.yN Cmp3.yB 6 (some (.array .byte)), .initialized U16, .arrayClass .byte, .methodLink U16 115 Cmp5.yN, .static Cmp5.yN, .code Cmp5.yN Cmp5.yB 7 (some .int), .code CodL.yN CodL.yB 2 (some .byte)]
theorem tab_of {a : Array Value} {s : State} (h : ∀ w ∈ words, w.before a s = true) : New1.tab.before a s = true := by
  have h5 : Cmp5.tab.before a s = true := unparts (wk h (.code Cmp5.yN Cmp5.yB 7 (some .int))) (wks h (.initialized Cmp5.yN.cls :: Cmp5.site))
  have hc : CodL.tab.before a s = true := unparts (wk h (.code CodL.yN CodL.yB 2 (some .byte))) (wks h (.initialized CodL.yN.cls :: CodL.site))
  have q5 : ∀ w ∈ Cmp5.tab :: words, w.before a s = true := fun w hw => (List.mem_cons.mp hw).elim (fun e => e ▸ h5) (h w)
  have h3 : Cmp3.tab.before a s = true := unparts (wk q5 (.code Cmp3.yN Cmp3.yB 6 (some (.array .byte)))) (wks q5 (.initialized Cmp3.yN.cls :: Cmp3.site))
  have q3 : ∀ w ∈ Cmp3.tab :: CodL.tab :: words, w.before a s = true := fun w hw => (List.mem_cons.mp hw).elim (fun e => e ▸ h3) fun hw => (List.mem_cons.mp hw).elim (fun e => e ▸ hc) (h w)
  have h4 : New4.tab.before a s = true := unparts (wk q3 (.code New4.yN New4.yB 6 none)) (wks q3 (.initialized New4.yN.cls :: New4.site))
  have q4 : ∀ w ∈ New4.tab :: words, w.before a s = true := fun w hw => (List.mem_cons.mp hw).elim (fun e => e ▸ h4) (h w)
  exact unparts (wk q4 (.code New1.yN New1.yB 2 none)) (wks q4 (.initialized New1.yN.cls :: New1.site))
/-- the words ride from the start Z to the walk's own state -/
theorem moved {Z s : State} {a0 args : Array Value} (hZ : Z.Warmed39 s.vm) (hw : ∀ d ∈ words, d.before a0 Z = true) : ∀ d ∈ words, d.before args s = true := fun d hd => by
  have q := hw d hd
  have t : ∀ d ∈ words, d = .arrayClass .byte ∨ (d.onTables && d.keepsFace) = true := by decide +kernel
  rcases t d hd with rfl | t
  · exact RoadKit.mvA hZ q
  · exact RoadKit.mv hZ q t
/-- WHAT COMES BACK, over the tables of the start Z: h the heap at the call, h' behind it -/
def Q (Z : State) (x : Addr) (A : Cell) (h : Heap) (v : Option Value) (h' : Heap) (L : List Loc) : Prop := v = none ∧ (∀ y ∈ L, y.base = x) ∧ RoadKit.Keep h h' [x] ∧ h'.size = h.size + 1 ∧ RoadKit.Exa Z h' x ST ∧ RoadKit.Fld Z h' x ST "value" "[B" (.ref h.size) ∧ RoadKit.Fld Z h' x ST "coder" "B" (.int 0) ∧
  (∃ V : Cell, RoadKit.Arr Z h' h.size V .byte ∧ V.vm = .none ∧ Z.vm.findClass "[B" = some V.cls ∧ V.slots.size = A.slots.size ∧ ∀ j, j < A.slots.size → V.slots[j]? = some (.int (lo8 (cv A j)))) ∧
  ∀ (O n d : String) (w : Value), RoadKit.Fld Z h x O n d w → RoadKit.slotOf Z O n d ≠ RoadKit.slotOf Z ST "value" "[B" → RoadKit.slotOf Z O n d ≠ RoadKit.slotOf Z ST "coder" "B" → RoadKit.Fld Z h' x O n d w
/-- **new String(chars) AT A CALL, IN THE ROAD'S FORM**: for specialBack behind newO: x the fresh String, b the char[] with the cell A -/
theorem back {p : Program} {l : Launch} {e : Env} {R : Room} {s : State} {args : Array Value} {below : List Frame} {len W : Nat} {Z : State} {a0 : Array Value} {h : Heap} (hZ : Z.Warmed39 s.vm) (hw : ∀ d ∈ words, d.before a0 Z = true) {kI : Nat} (wi : (Jvm.Cond.instantiable ST kI).before a0 Z = true)
    {x b : Addr} {A : Cell} {z : Int32} {v0 c0 : Value} (E : RoadKit.Exa Z h x ST) (V : RoadKit.Fld Z h x ST "value" "[B" v0) (C : RoadKit.Fld Z h x ST "coder" "B" c0) (K : RoadKit.Arr Z h b A .char) (hty : Typed .char A) (S : RoadKit.Sta Z h ST "COMPACT_STRINGS" "Z" (.int z)) (hz : ¬ z = 0)
    (l0 : 0 < A.slots.size) (l2 : A.slots.size ≤ 536870912) (hp : ∀ i, i < A.slots.size → ¬ 255 < cv A i) (hfr : 4 ≤ R.frames) (hlo : W + 65 ≤ R.locals) :
    Back l R p e below s args New1.yN len W (fun P a => a = #[.ref x, .ref b] ∧ P.U.heap = h ∧ P.cells + 1 ≤ R.cells ∧ P.slots + A.slots.size ≤ R.slots)
      (fun P _ v B => ∃ L, Q Z x A h v B.U.heap L ∧ B.locs = P.locs ++ L ∧ B.cells = P.cells + 1 ∧ B.slots = P.slots + A.slots.size) := by
  intro m meth c P g ig mk a X hg hsize hdg hW hn hp'
  obtain ⟨rfl, rfl, r1, r2⟩ := hp'
  have al : Z.vm.Alike P.U.vm := hZ.alike.trans X.warmed.alike
  obtain ⟨D, cfV, kV, iV, fV, hD, gV, stV, knV, obV, asV, slV⟩ := id V
  obtain ⟨D', cfC, kC, iC, fC, hD', gC, stC, -, -, asC, slC⟩ := id C
  cases hD.symm.trans hD'
  obtain ⟨D2, kD, e1, e2, e3, e4, e5⟩ := id E
  cases hD.symm.trans e1
  obtain ⟨c2, k2, i1, i2, i3, -⟩ := Cond.instantiable_spec wi
  cases e2.symm.trans i1
  cases e3.symm.trans i2
  obtain ⟨kU, u1, u2⟩ := al.2.2 _ _ e3
  have hB : Blank ST x D P.U := ⟨hD, ⟨knV, fun q hq => by rw [hq] at obV; cases obV⟩, by rw [al.findClass]; exact e2, kU, u1, by rw [u2]; exact i3, by rw [u2]; exact e5 i3⟩
  have F1 : Found ST "value" "[B" fV P.U := ⟨SBG.found_only al ⟨cfV, kV, iV, gV⟩, stV⟩
  have F2 : Found ST "coder" "B" fC P.U := ⟨SBG.found_only al ⟨cfC, kC, iC, gC⟩, stC⟩
  have hA : Ch b A P.U := ⟨⟨K.1, State.isArrayOf_alike al K.2.1, K.2.2, by omega⟩, hty⟩
  have hS : StaticIs P.U ST "COMPACT_STRINGS" "Z" (.int z) := by
    obtain ⟨cfS, iS, kS, fS, st, cS, t1, t2, t3, t4, t5, t6, t7⟩ := S
    exact StaticIs.there (s := { Z with heap := P.U.heap }) ⟨cfS, iS, kS, fS, st, cS, t1, t2, t3, t4, t5, (fun q => by rw [q] at t6; cases t6), t7⟩ al rfl
  obtain ⟨v, B, X', ⟨⟨hv, E', V', q1, q2, q3, q4, q5, q6, q7, q8, q9, q10, q11⟩, hl, hc, hs⟩, st⟩ := New1.pays x D fV fC b A z (tab_of (moved hZ hw)) hfr hlo m meth c P g ig mk _ X hg hsize hdg hW hn ⟨r1, r2, rfl, hB, F1, F2, hA, hS, hz, l0, l2, hp⟩
  have al' : Z.vm.Alike B.U.vm := hZ.alike.trans X'.warmed.alike
  have hsz : E'.slots.size = D.slots.size := by
    obtain ⟨-, -, -, kB, w1, w2, w3⟩ := q1
    obtain ⟨kB', y1, y2⟩ := al'.2.2 _ _ e3
    rw [q2.2.1] at w1
    cases w1.symm.trans y1
    rw [w3, e5 i3, y2]
  refine ⟨v, B, X', ⟨_, ⟨hv, ?_, ⟨by omega, fun y cy hy hn' => q10 y cy (by simpa using hn') hy, fun y cy hy => ?_⟩, q11, ⟨E', _, q1.1, by rw [q2.2.1]; exact e2, by rw [q2.2.1]; exact e3, by rw [q2.1]; exact obV, fun _ => by rw [hsz]; exact e5 i3⟩,
    ⟨E', cfV, kV, iV, fV, q1.1, gV, stV, by rw [q2.1]; exact knV, by rw [q2.1]; exact obV, by rw [q2.2.1]; exact asV, q3⟩, ⟨E', cfC, kC, iC, fC, q1.1, gC, stC, by rw [q2.1]; exact knV, by rw [q2.1]; exact obV, by rw [q2.2.1]; exact asC, q4⟩,
    ⟨V', ⟨q5.1, State.isArrayOf_alike al'.symm q5.2.1, q5.2.2.1⟩, q6, by rw [← al'.findClass]; exact q7, q8, fun j hj => by have := q9 j hj; rwa [Nat.zero_add] at this⟩, fun O n d w F n1 n2 => ?_⟩, hl, hc, hs⟩, st⟩
  · intro y hy
    simp only [List.mem_cons, List.not_mem_nil, or_false] at hy
    rcases hy with rfl | rfl <;> rfl
  · by_cases q : y = x
    · subst q
      cases hD.symm.trans hy
      exact ⟨E', q1.1, q2.2.1, q2.1, hsz⟩
    · exact ⟨cy, q10 y cy q hy, rfl, rfl, rfl⟩
  · obtain ⟨D3, cf, k, i, f, g1, g2, g3, g4, g5, g6, g7⟩ := F
    cases hD.symm.trans g1
    simp only [RoadKit.slotOf, g2, gV, gC, Option.map_some, Option.getD_some] at n1 n2
    exact ⟨E', cf, k, i, f, q1.1, g2, g3, by rw [q2.1]; exact g4, by rw [q2.1]; exact g5, by rw [q2.2.1]; exact g6, by rw [q2.2.2 f.slot (by simp [n1, n2])]; exact g7⟩
end StrChars.Road
namespace StrChars.Road
open Jvm Sem ClassFile Op Lib Jvm.Stand Jvm.Free Jvm.Free.XT
/-- WHAT COMES BACK, the byte[] as a list of values -/
def QA (Z : State) (x : Addr) (zn : Int32) (cs : List Int32) (h : Heap) (v : Option Value) (h' : Heap) (L : List Loc) : Prop := v = none ∧ (∀ y ∈ L, y.base = x) ∧ RoadKit.Keep h h' [x] ∧ h'.size = h.size + 1 ∧ RoadKit.Exa Z h' x ST ∧ RoadKit.Fld Z h' x ST "value" "[B" (.ref h.size) ∧ RoadKit.Fld Z h' x ST "coder" "B" (.int 0) ∧
  (∃ kb, Z.vm.findClass "[B" = some kb ∧ RoadKit.Arv Z h' h.size kb .byte zn (cs.map fun c => .int (lo8 c)) (.int 0)) ∧
  ∀ (O n d : String) (w : Value), RoadKit.Fld Z h x O n d w → RoadKit.slotOf Z O n d ≠ RoadKit.slotOf Z ST "value" "[B" → RoadKit.slotOf Z O n d ≠ RoadKit.slotOf Z ST "coder" "B" → RoadKit.Fld Z h' x O n d w
/-- **new String(chars) AT A CALL, THE ARRAYS AS LISTS**: the char[] at b holds cs, not empty, no char above 255 -/
theorem backArv {p : Program} {l : Launch} {e : Env} {R : Room} {s : State} {args : Array Value} {below : List Frame} {len W : Nat} {Z : State} {a0 : Array Value} {h : Heap} (hZ : Z.Warmed39 s.vm) (hw : ∀ d ∈ words, d.before a0 Z = true) {kI : Nat} (wi : (Jvm.Cond.instantiable ST kI).before a0 Z = true)
    {x b : Addr} {k : ClassId} {zn z : Int32} {cs : List Int32} {dv v0 c0 : Value} (E : RoadKit.Exa Z h x ST) (V : RoadKit.Fld Z h x ST "value" "[B" v0) (C : RoadKit.Fld Z h x ST "coder" "B" c0) (K : RoadKit.Arv Z h b k .char zn (cs.map Value.int) dv) (S : RoadKit.Sta Z h ST "COMPACT_STRINGS" "Z" (.int z)) (hz : ¬ z = 0)
    (hlen : zn.toNatClampNeg = cs.length) (h0 : 0 < cs.length) (hbig : cs.length ≤ 536870912) (hall : ∀ c ∈ cs, ¬ 255 < c) (hfr : 4 ≤ R.frames) (hlo : W + 65 ≤ R.locals) :
    Back l R p e below s args New1.yN len W (fun P a => a = #[.ref x, .ref b] ∧ P.U.heap = h ∧ P.cells + 1 ≤ R.cells ∧ P.slots + cs.length ≤ R.slots)
      (fun P _ v B => ∃ L, QA Z x zn cs h v B.U.heap L ∧ B.locs = P.locs ++ L ∧ B.cells = P.cells + 1 ∧ B.slots = P.slots + cs.length) := by
  obtain ⟨A, K1, K2, K3, K4, K5, K6⟩ := K
  have e : A.slots.size = cs.length := K3.trans hlen
  have hat : ∀ (i : Nat) (hi : i < cs.length), A.slots[i]? = some (.int cs[i]) := fun i hi => by rw [K5 i (by omega)]; simp [List.getD_eq_getElem?_getD, hi]
  have hcv : ∀ (i : Nat) (hi : i < cs.length), cv A i = cs[i] := fun i hi => by unfold cv; rw [hat i hi]
  have hty : Typed .char A := fun i v hv => by
    have hi : i < A.slots.size := (Array.getElem?_eq_some_iff.mp hv).1
    have q := K5 i hi
    rw [hv] at q
    rw [Option.some.inj q]
    exact K6 i hi
  refine Back.mono (back hZ hw wi E V C K1 hty S hz (by omega) (by omega) (fun i hi => by rw [hcv i (by omega)]; exact hall _ (List.getElem_mem _)) hfr hlo) (fun P a hp => ⟨hp.1, hp.2.1, hp.2.2.1, by rw [e]; exact hp.2.2.2⟩) (fun P a v B hp hq => ?_)
  obtain ⟨L, ⟨q1, q2, q3, q4, q5, q6, q7, ⟨V', v1, v2, v3, v4, v5⟩, q9⟩, hl, hc, hs⟩ := hq
  refine ⟨L, ⟨q1, q2, q3, q4, q5, q6, q7, ⟨V'.cls, v3, V', v1, rfl, by rw [v4, e, hlen], K4, fun i hi => ?_, fun i hi => ?_⟩, q9⟩, hl, hc, by rw [hs, e]⟩
  · have hi' : i < cs.length := by omega
    rw [v5 i (by omega), hcv i hi']; simp [List.getD_eq_getElem?_getD, hi']
  · have hi' : i < cs.length := by omega
    simp only [List.getD_eq_getElem?_getD, List.getElem?_map, List.getElem?_eq_getElem hi', Option.map_some, Option.getD_some]
    exact fits_lo8 _
end StrChars.Road
namespace StrChars.Road
open Jvm Sem ClassFile Op Lib Jvm.Stand Jvm.Free Jvm.Free.XT
/-- WHAT COMES BACK, in the writer's own shape -/
def QV (Z : State) (x : Addr) (N : Int32) (bs : List Int32) (h : Heap) (n0 : Nat) (v : Option Value) (h' : Heap) (L : List Loc) : Prop := v = none ∧ RoadKit.Fr n0 L ∧ RoadKit.Keep h h' [x] ∧ RoadKit.Exa Z h' x ST ∧ RoadKit.Fld Z h' x ST "coder" "B" (.int 0) ∧
  ∃ (t : Addr) (kb : ClassId), n0 ≤ t ∧ h.size ≤ t ∧ ¬ t = x ∧ RoadKit.Fld Z h' x ST "value" "[B" (.ref t) ∧ RoadKit.Arv Z h' t kb .byte N (bs.map Value.int) (.int 0)
/-- **new String(chars) AT A CALL, FOR THE WRITER**: a char[] of n known ints, each 0 to 255 -/
theorem backV {p : Program} {l : Launch} {e : Env} {R : Room} {s : State} {args : Array Value} {below : List Frame} {len W : Nat} {Z : State} {a0 : Array Value} {h : Heap} (hZ : Z.Warmed39 s.vm) (hw : ∀ d ∈ words, d.before a0 Z = true) {kI : Nat} (wi : (Jvm.Cond.instantiable ST kI).before a0 Z = true)
    {x b : Addr} {kC : ClassId} {cs bs : List Int32} {d v0 c0 : Value} {z N : Int32} {n n0 : Nat} (hx0 : n0 ≤ x) (hh0 : n0 ≤ h.size) (E : RoadKit.Exa Z h x ST) (V : RoadKit.Fld Z h x ST "value" "[B" v0) (C : RoadKit.Fld Z h x ST "coder" "B" c0) (K : RoadKit.Arv Z h b kC .char N (cs.map Value.int) d) (S : RoadKit.Sta Z h ST "COMPACT_STRINGS" "Z" (.int z)) (hz : ¬ z = 0)
    (hn : cs.length = n) (hN : N = Int32.ofNat n) (l0 : 0 < n) (l2 : n ≤ 4000) (hp : ∀ c ∈ cs, ¬ c < 0 ∧ ¬ (255 : Int32) < c) (hb : bs = cs.map (fun c => c.toInt8.toInt32)) (hfr : 4 ≤ R.frames) (hlo : W + 65 ≤ R.locals) :
    Back l R p e below s args (⟨"java/lang/String", "<init>", "([C)V"⟩ : MethodName) len W (fun P a => a = #[.ref x, .ref b] ∧ P.U.heap = h ∧ P.cells + 1 ≤ R.cells ∧ P.slots + n ≤ R.slots)
      (fun P _ v B => ∃ L, QV Z x N bs h n0 v B.U.heap L ∧ B.locs = P.locs ++ L ∧ B.cells = P.cells + 1 ∧ B.slots = P.slots + n) := by
  subst hn hN hb
  refine Back.mono (backArv hZ hw wi E V C K S hz (n32 (by omega)) l0 (by omega) (fun c hc => (hp c hc).2) hfr hlo) (fun P a hp => hp) (fun P a v B hp hq => ?_)
  obtain ⟨L, ⟨q1, q2, q3, q4, q5, q6, q7, ⟨kb, v1, v2⟩, q9⟩, hl, hc, hs⟩ := hq
  exact ⟨L, ⟨q1, fun y hy => by rw [q2 y hy]; exact hx0, q3, q5, q7, h.size, kb, hh0, Nat.le_refl _, Nat.ne_of_gt E.lt, q6, by rw [List.map_map]; exact v2⟩, hl, hc, hs⟩
end StrChars.Road
namespace StrChars
open Jvm Sem ClassFile Op Lib Jvm.Stand Jvm.Free.XT Jvm.Free.ALB Jvm.Free.JM Jvm.Free
open Jvm.Lib.Cold (StaticIs)
def hi8 (x : Int32) : Int32 := lo8 (x >>> ((8 : Int32) &&& 31))
/-- what StringUTF16.getChar makes of two bytes -/
def pairCh (u v : Int32) : Int32 := (((u &&& 255) <<< ((0 : Int32) &&& 31)) ||| ((v &&& 255) <<< ((8 : Int32) &&& 31))).toUInt32.toUInt16.toUInt32.toInt32
theorem lo8_and (x : Int32) : (lo8 x &&& 255).toBitVec.toNat = x.toBitVec.toNat % 256 := by
  have h : (lo8 x).toBitVec = (x.toBitVec.signExtend 8).signExtend 32 := by rw [lo8, Int8.toBitVec_toInt32, Int32.toBitVec_toInt8]
  rw [Int32.toBitVec_and, BitVec.toNat_and, h]
  have e : ((x.toBitVec.signExtend 8).signExtend 32).toNat % 256 = x.toBitVec.toNat % 256 := by
    rw [BitVec.toNat_signExtend]
    have hlt := x.toBitVec.isLt
    simp only [BitVec.toNat_setWidth, BitVec.toNat_signExtend]
    split <;> split <;> omega
  rw [← e]
  exact Nat.and_two_pow_sub_one_eq_mod _ 8
theorem pair_says {c : Int32} (h0 : ¬ c < 0) (h1 : ¬ 65535 < c) : pairCh (lo8 c) (hi8 c) = c := by
  rw [Int32.lt_iff_toInt_lt] at h0 h1
  have e0 : (0 : Int32).toInt = 0 := rfl
  have e1 : (65535 : Int32).toInt = 65535 := rfl
  have hc : c.toInt = c.toBitVec.toNat := by
    have := c.toBitVec.isLt
    have e : c.toInt = c.toBitVec.toInt := rfl
    rw [e] at h0 h1
    rw [e]
    rw [BitVec.toInt_eq_toNat_cond] at h0 h1 ⊢
    split at h0 <;> split <;> omega
  have hn : c.toBitVec.toNat < 65536 := by omega
  have a1 := lo8_and c
  have a2 : (hi8 c &&& 255).toBitVec.toNat = c.toBitVec.toNat / 256 := by
    rw [hi8, lo8_and]
    have e : ((8 : Int32) &&& 31) = 8 := by decide
    rw [e, Int32.toBitVec_shiftRight]
    have e2 : ((8 : Int32).toBitVec.smod 32) = 8#32 := by decide
    rw [e2, BitVec.sshiftRight_eq', BitVec.toNat_sshiftRight_of_msb_false (by rw [BitVec.msb_eq_false_iff_two_mul_lt]; omega)]
    show c.toBitVec.toNat >>> 8 % 256 = _
    rw [Nat.shiftRight_eq_div_pow]
    omega
  unfold pairCh
  apply Int32.toBitVec_inj.mp
  apply BitVec.eq_of_toNat_eq
  have f0 : ((0 : Int32) &&& 31) = 0 := by decide
  have f8 : ((8 : Int32) &&& 31) = 8 := by decide
  rw [f0, f8]
  have g : (((lo8 c &&& 255) <<< (0 : Int32)) ||| ((hi8 c &&& 255) <<< (8 : Int32))).toBitVec.toNat = c.toBitVec.toNat := by
    rw [Int32.toBitVec_or, Int32.toBitVec_shiftLeft, Int32.toBitVec_shiftLeft]
    have s0 : ((0 : Int32).toBitVec.smod 32) = 0#32 := by decide
    have s8 : ((8 : Int32).toBitVec.smod 32) = 8#32 := by decide
    rw [s0, s8, BitVec.toNat_or]
    simp only [BitVec.shiftLeft_eq', BitVec.toNat_shiftLeft, a1, a2]
    show (c.toBitVec.toNat % 256) <<< 0 % 2 ^ 32 ||| (c.toBitVec.toNat / 256) <<< 8 % 2 ^ 32 = _
    rw [Nat.shiftLeft_zero, Nat.mod_eq_of_lt (show c.toBitVec.toNat % 256 < 2 ^ 32 by omega), Nat.mod_eq_of_lt (show (c.toBitVec.toNat / 256) <<< 8 < 2 ^ 32 by rw [Nat.shiftLeft_eq]; omega), Nat.or_comm, ← Nat.shiftLeft_add_eq_or_of_lt (by omega), Nat.shiftLeft_eq]
    omega
  show BitVec.toNat (((((lo8 c &&& 255) <<< (0 : Int32)) ||| ((hi8 c &&& 255) <<< (8 : Int32))).toBitVec.setWidth 16).setWidth 32) = _
  rw [BitVec.toNat_setWidth, BitVec.toNat_setWidth, g]
  omega
end StrChars
namespace StrChars
open Jvm Sem ClassFile Op Lib Jvm.Stand Jvm.Free.XT Jvm.Free.ALB Jvm.Free.JM Jvm.Free
open Jvm.Lib.Cold (StaticIs)
/-- the array's cell V codes the n chars f 0 .. f (n - 1) by the coder cd, as the JDK does: coder 1 just where some char is above 255 -/
def Cod (cd : Int32) (n : Nat) (f : Nat → Int32) (V : Cell) : Prop := (cd = 0 ∧ V.slots.size = n ∧ ∀ j, j < n → V.slots[j]? = some (.int (lo8 (f j))) ∧ ¬ 255 < f j) ∨ (cd = 1 ∧ V.slots.size = 2 * n ∧ (∀ j, j < n → V.slots[2 * j]? = some (.int (lo8 (f j))) ∧ V.slots[2 * j + 1]? = some (.int (hi8 (f j)))) ∧ ∃ j, j < n ∧ 255 < f j)
/-- **x is a String of the n chars f 0 .. f (n - 1)**, Latin-1 or UTF-16; its array at t has the cell V -/
def Txt (x t : Addr) (V : Cell) (cd : Int32) (n : Nat) (f : Nat → Int32) (U : State) : Prop := Exact "java/lang/String" x U ∧ Has x "java/lang/String" "value" "[B" (.ref t) U ∧ Has x "java/lang/String" "coder" "B" (.int cd) U ∧ XT.Arr .byte t V U ∧ Cod cd n f V ∧ ∀ j, j < n → ¬ f j < 0 ∧ ¬ 65535 < f j
theorem Txt.mv {x t : Addr} {V : Cell} {cd : Int32} {n : Nat} {f : Nat → Int32} {U U' : State} (h : Txt x t V cd n f U) (hal : U.vm.Alike U'.vm) (hh : U'.heap = U.heap) : Txt x t V cd n f U' := ⟨h.1.mv hal hh, h.2.1.mv hal hh, h.2.2.1.mv hal hh, h.2.2.2.1.mv hal hh, h.2.2.2.2⟩
end StrChars
namespace StrChars.Road
open Jvm Sem ClassFile Op Lib Jvm.Stand Jvm.Free Jvm.Free.XT
open Jvm.Lib.Cold (StaticIs)
theorem consq {a : Array Value} {s : State} {c : Jvm.Cond} {L : List Jvm.Cond} (h0 : c.before a s = true) (h : ∀ w ∈ L, w.before a s = true) : ∀ w ∈ c :: L, w.before a s = true := fun w hw => (List.mem_cons.mp hw).elim (fun e => e ▸ h0) (h w)
/-- the bytes of the chars cs, low before high -/
def wideBytes : List Int32 → List Value
  | [] => []
  | c :: cs => .int (lo8 c) :: .int (hi8 c) :: wideBytes cs
theorem wide_lo (d : Value) : ∀ (cs : List Int32) (j : Nat), j < cs.length → (wideBytes cs).getD (2 * j) d = .int (lo8 (cs.getD j 0))
  | [], j, h => absurd h (Nat.not_lt_zero j)
  | c :: cs, 0, _ => rfl
  | c :: cs, j + 1, h => by
    have q := wide_lo d cs j (by simpa using h)
    rw [show 2 * (j + 1) = 2 * j + 1 + 1 from by omega]
    simpa [wideBytes] using q
theorem wide_hi (d : Value) : ∀ (cs : List Int32) (j : Nat), j < cs.length → (wideBytes cs).getD (2 * j + 1) d = .int (hi8 (cs.getD j 0))
  | [], j, h => absurd h (Nat.not_lt_zero j)
  | c :: cs, 0, _ => rfl
  | c :: cs, j + 1, h => by
    have q := wide_hi d cs j (by simpa using h)
    rw [show 2 * (j + 1) + 1 = 2 * j + 1 + 1 + 1 from by omega]
    simpa [wideBytes] using q
theorem low_at (d : Value) (cs : List Int32) (j : Nat) (h : j < cs.length) : (cs.map fun c => Value.int (lo8 c)).getD j d = .int (lo8 (cs.getD j 0)) := by
  simp [List.getD_eq_getElem?_getD, h]
/-- an array of N2 bytes vs codes the chars cs by the coder cd -/
def CodA (cs : List Int32) (cd N2 : Int32) (vs : List Value) : Prop := (cd = 0 ∧ N2 = Int32.ofNat cs.length ∧ vs = (cs.map fun c => Value.int (lo8 c)) ∧ ∀ c ∈ cs, ¬ 255 < c) ∨ (cd = 1 ∧ N2 = Int32.ofNat (2 * cs.length) ∧ vs = wideBytes cs ∧ ∃ c ∈ cs, 255 < c)
theorem CodA.cod {cs : List Int32} {cd N2 : Int32} {vs : List Value} {V : Cell} (h : CodA cs cd N2 vs) (hn : 2 * cs.length < 2 ^ 31) (hs : V.slots.size = N2.toNatClampNeg) (hv : RoadKit.Has V vs (.int 0)) : Cod cd cs.length (fun j => cs.getD j 0) V := by
  rcases h with ⟨rfl, rfl, rfl, h⟩ | ⟨rfl, rfl, rfl, c, hc, hw⟩
  · rw [n32 (by omega)] at hs
    exact Or.inl ⟨rfl, hs, fun j hj => ⟨by rw [hv j (by omega), low_at _ _ _ hj], by
      have e : cs.getD j 0 = cs[j] := by simp [List.getD_eq_getElem?_getD, hj]
      show ¬ 255 < cs.getD j 0
      rw [e]; exact h _ (List.getElem_mem _)⟩⟩
  · rw [n32 (by omega)] at hs
    obtain ⟨j, hj, rfl⟩ := List.getElem_of_mem hc
    exact Or.inr ⟨rfl, hs, fun j hj => ⟨by rw [hv _ (by omega), wide_lo _ _ _ hj], by rw [hv _ (by omega), wide_hi _ _ _ hj]⟩, j, hj, by
      have e : cs.getD j 0 = cs[j] := by simp [List.getD_eq_getElem?_getD, hj]
      show 255 < cs.getD j 0
      rw [e]; exact hw⟩
/-- an object of exactly java/lang/String, its two fields found: as the laws ask it -/
theorem strObj {Z U : State} {a0 : Array Value} {kI : Nat} (wi : (Jvm.Cond.instantiable ST kI).before a0 Z = true) (al : Z.vm.Alike U.vm) {x : Addr} {v0 c0 : Value} (E : RoadKit.Exa Z U.heap x ST) (V : RoadKit.Fld Z U.heap x ST "value" "[B" v0) (C : RoadKit.Fld Z U.heap x ST "coder" "B" c0) :
    ∃ (D : Cell) (fV fC : Field), Blank ST x D U ∧ Found ST "value" "[B" fV U ∧ Found ST "coder" "B" fC U ∧ D.slots[fV.slot]? = some v0 ∧ D.slots[fC.slot]? = some c0 ∧ RoadKit.slotOf Z ST "value" "[B" = fV.slot ∧ RoadKit.slotOf Z ST "coder" "B" = fC.slot := by
  obtain ⟨D, cfV, kV, iV, fV, hD, gV, stV, knV, obV, asV, slV⟩ := V
  obtain ⟨D', cfC, kC, iC, fC, hD', gC, stC, -, -, asC, slC⟩ := C
  cases hD.symm.trans hD'
  obtain ⟨D2, kD, e1, e2, e3, e4, e5⟩ := E
  cases hD.symm.trans e1
  obtain ⟨c2, k2, i1, i2, i3, -⟩ := Cond.instantiable_spec wi
  cases e2.symm.trans i1
  cases e3.symm.trans i2
  obtain ⟨kU, u1, u2⟩ := al.2.2 _ _ e3
  exact ⟨D, fV, fC, ⟨hD, ⟨knV, fun q hq => by rw [hq] at obV; cases obV⟩, by rw [al.findClass]; exact e2, kU, u1, by rw [u2]; exact i3, by rw [u2]; exact e5 i3⟩, ⟨SBG.found_only al ⟨cfV, kV, iV, gV⟩, stV⟩, ⟨SBG.found_only al ⟨cfC, kC, iC, gC⟩, stC⟩, slV, slC, by simp [RoadKit.slotOf, gV], by simp [RoadKit.slotOf, gC]⟩
theorem sta_is {Z U : State} (al : Z.vm.Alike U.vm) {C n d : String} {v : Value} (S : RoadKit.Sta Z U.heap C n d v) : StaticIs U C n d v := by
  obtain ⟨cfS, iS, kS, fS, st, cS, t1, t2, t3, t4, t5, t6, t7⟩ := S
  exact StaticIs.there (s := { Z with heap := U.heap }) ⟨cfS, iS, kS, fS, st, cS, t1, t2, t3, t4, t5, (fun q => by rw [q] at t6; cases t6), t7⟩ al rfl
end StrChars.Road
namespace StrChars
open Jvm Sem ClassFile Op Lib Jvm.Stand Jvm.Free.XT Jvm.Free.ALB Jvm.Free.JM Jvm.Free
open Jvm.Lib.Cold (StaticIs)
/-- what place i of a byte[]'s cell holds -/
def yv (A : Cell) (i : Nat) : Int32 := match A.slots[i]? with | some (.int x) => x | _ => 0
theorem yv_get {a : Addr} {A : Cell} {U : State} (h : XT.Arr .byte a A U) (ht : Typed .byte A) {i : Nat} (hi : i < A.slots.size) : A.slots[i]? = some (.int (yv A i)) := by
  have e := Array.getElem?_eq_getElem hi
  have f := ht i _ e
  unfold yv; rw [e]
  generalize A.slots[i] = v at f
  cases v <;> simp [fits] at f ⊢
/-- the two arrays are equal, place for place -/
def EqC (A B : Cell) : Prop := A.slots.size = B.slots.size ∧ ∀ i, i < A.slots.size → yv A i = yv B i
/-- a boolean that says whether p -/
def Says01 (q : Prop) (r : Option Value) (s u : State) : Prop := ∃ v : Int32, r = some (.int v) ∧ u.heap = s.heap ∧ ((v = 1 ∧ q) ∨ (v = 0 ∧ ¬ q))
theorem Says01.mv {q : Prop} : ∀ r (U U' V V' : State), U'.heap = U.heap → V.vm.Alike V'.vm → V'.heap = V.heap → Says01 q r U V → Says01 q r U' V' :=
  fun r U U' V V' h1 _ h2 ⟨v, a, b, c⟩ => ⟨v, a, by rw [h1, h2]; exact b, c⟩
namespace LEq
def yN : MethodName := ⟨"java/lang/StringLatin1", "equals", "([B[B)Z"⟩
abbrev yB : ByteArray := jdk_43_method_13_code
theorem d0 : decode yB 0 = .ok (.aload_n 0, 1) := by decide +kernel
theorem d1 : decode yB 1 = .ok (.arraylength, 1) := by decide +kernel
theorem d2 : decode yB 2 = .ok (.aload_n 1, 1) := by decide +kernel
theorem d3 : decode yB 3 = .ok (.arraylength, 1) := by decide +kernel
theorem d4 : decode yB 4 = .ok (.if_icmp (.ne) 30, 3) := by decide +kernel
theorem d7 : decode yB 7 = .ok (.iconst 0, 1) := by decide +kernel
theorem d8 : decode yB 8 = .ok (.istore_n 2, 1) := by decide +kernel
theorem d9 : decode yB 9 = .ok (.iload_n 2, 1) := by decide +kernel
theorem d10 : decode yB 10 = .ok (.aload_n 0, 1) := by decide +kernel
theorem d11 : decode yB 11 = .ok (.arraylength, 1) := by decide +kernel
theorem d12 : decode yB 12 = .ok (.if_icmp (.ge) 20, 3) := by decide +kernel
theorem d15 : decode yB 15 = .ok (.aload_n 0, 1) := by decide +kernel
theorem d16 : decode yB 16 = .ok (.iload_n 2, 1) := by decide +kernel
theorem d17 : decode yB 17 = .ok (.baload, 1) := by decide +kernel
theorem d18 : decode yB 18 = .ok (.aload_n 1, 1) := by decide +kernel
theorem d19 : decode yB 19 = .ok (.iload_n 2, 1) := by decide +kernel
theorem d20 : decode yB 20 = .ok (.baload, 1) := by decide +kernel
theorem d21 : decode yB 21 = .ok (.if_icmp (.eq) 5, 3) := by decide +kernel
theorem d24 : decode yB 24 = .ok (.iconst 0, 1) := by decide +kernel
theorem d25 : decode yB 25 = .ok (.ireturn, 1) := by decide +kernel
theorem d26 : decode yB 26 = .ok (.iinc 2 1, 3) := by decide +kernel
theorem d29 : decode yB 29 = .ok (.goto (-20), 3) := by decide +kernel
theorem d32 : decode yB 32 = .ok (.iconst 1, 1) := by decide +kernel
theorem d33 : decode yB 33 = .ok (.ireturn, 1) := by decide +kernel
theorem d34 : decode yB 34 = .ok (.iconst 0, 1) := by decide +kernel
theorem d35 : decode yB 35 = .ok (.ireturn, 1) := by decide +kernel
def site : List Cond := []
def tab : Cond := tabOf yN yB 3 (some .boolean) site
def P (a : Addr) (A : Cell) (b : Addr) (B : Cell) (args : Array Value) (s : State) : Prop := args = #[.ref a, .ref b] ∧ XT.Arr .byte a A s ∧ Typed .byte A ∧ XT.Arr .byte b B s ∧ Typed .byte B
/-- whether two byte[] are equal, place for place -/
theorem law (l : Launch) (a : Addr) (A : Cell) (b : Addr) (B : Cell) : Law l yN 2 2 0 0 yB 3 (some .boolean) site (P a A b B) (Says01 (EqC A B)) [] 0 0 := by
  refine Law.of_walk (plainFor_of_name (by decide +kernel)) (by decide +kernel) (by decide +kernel) (by decide) (fun _ _ h => by rw [h.1]; rfl) (fun _ U U' hal hh h => ⟨h.1, h.2.1.mv hal hh, h.2.2.1, h.2.2.2.1.mv hal hh, h.2.2.2.2⟩) (fun r U U' V V' h1 hal h2 h => Says01.mv r U U' V V' h1 hal h2 h) ?_
  intro p e s m args below meth c s₁ X0 hexec hbytes hml hret hlk hnm hown hh0 W hP
  obtain ⟨rfl, hA, tA, hB, tB⟩ := hP
  have a31 := hA.2.2.2
  have b31 := hB.2.2.2
  have hA0 := hA.mv X0.warmed.alike hh0
  have hB0 := hB.mv X0.warmed.alike hh0
  have c1 : Steps p.tables e below (s₁.setTop (entryFrame m #[.ref a, .ref b] 3)) (s₁.setTop (mkF m 0 #[.val (.ref a), .val (.ref b), .unset] [])) := entry rfl
  have c2 : Steps p.tables e below (s₁.setTop (entryFrame m #[.ref a, .ref b] 3)) (s₁.setTop (mkF m 4 #[.val (.ref a), .val (.ref b), .unset] [.int (Int32.ofNat B.slots.size), .int (Int32.ofNat A.slots.size)])) := c1.trans (by
    refine XS.aloadN X0.here hexec rfl (hb hbytes d0) rfl rfl ?_
    refine X0.alen hexec hA0 rfl rfl (hb hbytes d1) ?_
    refine XS.aloadN X0.here hexec rfl (hb hbytes d2) rfl rfl ?_
    refine X0.alen hexec hB0 rfl rfl (hb hbytes d3) ?_
    exact Steps.refl _)
  by_cases hs : A.slots.size = B.slots.size
  · have c3 : Steps p.tables e below (s₁.setTop (entryFrame m #[.ref a, .ref b] 3)) (s₁.setTop (mkF m 9 #[.val (.ref a), .val (.ref b), .val (.int 0)] [])) := c2.trans (by
      refine XS.icmpNo X0.here hexec rfl (hb hbytes d4) rfl (ii_ne_f (by rw [hs])) ?_
      refine iconstV X0.here hexec rfl 0 (hb hbytes d7) (by decide) ?_
      refine XS.istoreN X0.here hexec rfl (hb hbytes d8) rfl rfl ?_
      exact Steps.refl _)
    have loop : ∀ (r i : Nat), i + r = A.slots.size → (∀ j, j < i → yv A j = yv B j) → Steps p.tables e below (s₁.setTop (entryFrame m #[.ref a, .ref b] 3)) (s₁.setTop (mkF m 9 #[.val (.ref a), .val (.ref b), .val (.int (Int32.ofNat i))] [])) → ∃ (pc : Nat) (Ls : Array Slot) (v : Int32), (pc = 25 ∨ pc = 33) ∧ ((v = 1 ∧ EqC A B) ∨ (v = 0 ∧ ¬ EqC A B)) ∧ Steps p.tables e below (s₁.setTop (entryFrame m #[.ref a, .ref b] 3)) (s₁.setTop (mkF m pc Ls [.int v])) := by
      intro r
      induction r with
      | zero =>
        intro i hi he cl
        exact ⟨33, _, 1, Or.inr rfl, Or.inl ⟨rfl, hs, fun j hj => he j (by omega)⟩, cl.trans (by
          refine XS.iloadN X0.here hexec rfl (hb hbytes d9) rfl ?_
          refine XS.aloadN X0.here hexec rfl (hb hbytes d10) rfl rfl ?_
          refine X0.alen hexec hA0 rfl rfl (hb hbytes d11) ?_
          refine XS.icmpYes X0.here hexec rfl (pc0 := 12) rfl (hb hbytes d12) rfl (ii_ge_t (nlt32 (by omega) (by omega))) (by decide) rfl ?_
          refine iconstV X0.here hexec rfl 1 (hb hbytes d32) (by decide) ?_
          exact Steps.refl _)⟩
      | succ r ih =>
        intro i hi he cl
        have c4 : Steps p.tables e below (s₁.setTop (entryFrame m #[.ref a, .ref b] 3)) (s₁.setTop (mkF m 21 #[.val (.ref a), .val (.ref b), .val (.int (Int32.ofNat i))] [.int (yv B i), .int (yv A i)])) := cl.trans (by
          refine XS.iloadN X0.here hexec rfl (hb hbytes d9) rfl ?_
          refine XS.aloadN X0.here hexec rfl (hb hbytes d10) rfl rfl ?_
          refine X0.alen hexec hA0 rfl rfl (hb hbytes d11) ?_
          refine XS.icmpNo X0.here hexec rfl (hb hbytes d12) rfl (ii_ge_f (lt32 (by omega) (by omega))) ?_
          refine XS.aloadN X0.here hexec rfl (hb hbytes d15) rfl rfl ?_
          refine XS.iloadN X0.here hexec rfl (hb hbytes d16) rfl ?_
          refine X0.aget hexec hA0 rfl (yv_get hA tA (i := i) (by omega)) rfl rfl (hb hbytes d17) ?_
          refine XS.aloadN X0.here hexec rfl (hb hbytes d18) rfl rfl ?_
          refine XS.iloadN X0.here hexec rfl (hb hbytes d19) rfl ?_
          refine X0.aget hexec hB0 rfl (yv_get hB tB (i := i) (by omega)) rfl rfl (hb hbytes d20) ?_
          exact Steps.refl _)
        by_cases hv : yv A i = yv B i
        · have c5 : Steps p.tables e below (s₁.setTop (entryFrame m #[.ref a, .ref b] 3)) (s₁.setTop (mkF m 9 #[.val (.ref a), .val (.ref b), .val (.int (Int32.ofNat i + 1))] [])) := c4.trans (by
            refine XS.icmpYes X0.here hexec rfl (pc0 := 21) rfl (hb hbytes d21) rfl (ii_eq_t hv) (by decide) rfl ?_
            refine iincV X0.here hexec rfl 1 (hb hbytes d26) (by decide) rfl rfl ?_
            refine XS.goto X0.here hexec rfl (pc0 := 29) rfl (hb hbytes d29) (by decide) rfl ?_
            exact Steps.refl _)
          rw [succ32] at c5
          exact ih (i + 1) (by omega) (fun j hj => by
            by_cases e : j = i
            · rw [e]; exact hv
            · exact he j (by omega)) c5
        · exact ⟨25, _, 0, Or.inl rfl, Or.inr ⟨rfl, fun q => hv (q.2 i (by omega))⟩, c4.trans (by
            refine XS.icmpNo X0.here hexec rfl (hb hbytes d21) rfl (ii_eq_f hv) ?_
            refine iconstV X0.here hexec rfl 0 (hb hbytes d24) (by decide) ?_
            exact Steps.refl _)⟩
    obtain ⟨pc, Ls, v, hpc, hv, cz⟩ := loop A.slots.size 0 (by omega) (fun j hj => absurd hj (Nat.not_lt_zero j)) c3
    have nv : narrow .boolean (.int v) = .int v := by rcases hv with ⟨rfl, -⟩ | ⟨rfl, -⟩ <;> rfl
    rcases hpc with rfl | rfl
    · exact ⟨s₁, some (.int v), _, _, _, X0, rfl, rfl, rfl, (fun h => by cases h), ⟨v, rfl, hh0, hv⟩, fun fs hl => cz.trans (X0.ireturnOut hexec hret nv (Or.inr (Or.inl rfl)) (hb hbytes d25) hl)⟩
    · exact ⟨s₁, some (.int v), _, _, _, X0, rfl, rfl, rfl, (fun h => by cases h), ⟨v, rfl, hh0, hv⟩, fun fs hl => cz.trans (X0.ireturnOut hexec hret nv (Or.inr (Or.inl rfl)) (hb hbytes d33) hl)⟩
  · have c3 : Steps p.tables e below (s₁.setTop (entryFrame m #[.ref a, .ref b] 3)) (s₁.setTop (mkF m 35 #[.val (.ref a), .val (.ref b), .unset] [.int 0])) := c2.trans (by
      refine XS.icmpYes X0.here hexec rfl (pc0 := 4) rfl (hb hbytes d4) rfl (ii_ne_t (ne32 a31 b31 hs)) (by decide) rfl ?_
      refine iconstV X0.here hexec rfl 0 (hb hbytes d34) (by decide) ?_
      exact Steps.refl _)
    exact ⟨s₁, some (.int 0), _, _, _, X0, rfl, rfl, rfl, (fun h => by cases h), ⟨0, rfl, hh0, Or.inr ⟨rfl, fun q => hs q.1⟩⟩, fun fs hl => c3.trans (X0.ireturnOut hexec hret rfl (Or.inr (Or.inl rfl)) (hb hbytes d35) hl)⟩
end LEq
theorem Cod.ty {cd : Int32} {n : Nat} {f : Nat → Int32} {V : Cell} (h : Cod cd n f V) : Typed .byte V := fun i v hv => by
  have hi : i < V.slots.size := (Array.getElem?_eq_some_iff.mp hv).1
  rcases h with ⟨-, k1, k2⟩ | ⟨-, k1, k2, -⟩
  · rw [(k2 i (by omega)).1] at hv; cases hv; exact fits_lo8 _
  · rcases Nat.mod_two_eq_zero_or_one i with e | e
    · obtain ⟨j, rfl⟩ : ∃ j, i = 2 * j := ⟨i / 2, by omega⟩
      rw [(k2 j (by omega)).1] at hv; cases hv; exact fits_lo8 _
    · obtain ⟨j, rfl⟩ : ∃ j, i = 2 * j + 1 := ⟨i / 2, by omega⟩
      rw [(k2 j (by omega)).2] at hv; cases hv; exact fits_lo8 _
/-- the same text -/
def SameT (n : Nat) (f : Nat → Int32) (k : Nat) (g : Nat → Int32) : Prop := n = k ∧ ∀ j, j < n → f j = g j
theorem lo8_inj {x y : Int32} (h0 : ¬ x < 0) (h1 : ¬ 255 < x) (k0 : ¬ y < 0) (k1 : ¬ 255 < y) (h : lo8 x = lo8 y) : x = y := by
  rw [← lo8_mask h0 h1, ← lo8_mask k0 k1, h]
/-- arrays coded by one coder are equal just where the texts are -/
theorem Cod.eqv {cd : Int32} {n k : Nat} {f g : Nat → Int32} {V V' : Cell} (h : Cod cd n f V) (h' : Cod cd k g V') (hf : ∀ j, j < n → ¬ f j < 0 ∧ ¬ 65535 < f j) (hg : ∀ j, j < k → ¬ g j < 0 ∧ ¬ 65535 < g j) : EqC V V' ↔ SameT n f k g := by
  have yvv : ∀ {W : Cell} {i : Nat} {x : Int32}, W.slots[i]? = some (.int x) → yv W i = x := fun q => by unfold yv; rw [q]
  rcases h with ⟨rfl, k1, k2⟩ | ⟨rfl, k1, k2, -⟩
  · rcases h' with ⟨-, m1, m2⟩ | ⟨e, -⟩
    · constructor
      · rintro ⟨e1, e2⟩
        refine ⟨by omega, fun j hj => ?_⟩
        have q := e2 j (by omega)
        rw [yvv (k2 j hj).1, yvv (m2 j (by omega)).1] at q
        exact lo8_inj (hf j hj).1 (k2 j hj).2 (hg j (by omega)).1 (m2 j (by omega)).2 q
      · rintro ⟨rfl, e2⟩
        refine ⟨by omega, fun j hj => ?_⟩
        rw [yvv (k2 j (by omega)).1, yvv (m2 j (by omega)).1, e2 j (by omega)]
    · exact absurd e (by decide)
  · rcases h' with ⟨e, -⟩ | ⟨-, m1, m2, -⟩
    · exact absurd e (by decide)
    · constructor
      · rintro ⟨e1, e2⟩
        refine ⟨by omega, fun j hj => ?_⟩
        have q1 := e2 (2 * j) (by omega)
        have q2 := e2 (2 * j + 1) (by omega)
        rw [yvv (k2 j hj).1, yvv (m2 j (by omega)).1] at q1
        rw [yvv (k2 j hj).2, yvv (m2 j (by omega)).2] at q2
        rw [← pair_says (hf j hj).1 (hf j hj).2, ← pair_says (hg j (by omega)).1 (hg j (by omega)).2, q1, q2]
      · rintro ⟨rfl, e2⟩
        refine ⟨by omega, fun i hi => ?_⟩
        rcases Nat.mod_two_eq_zero_or_one i with e | e
        · obtain ⟨j, rfl⟩ : ∃ j, i = 2 * j := ⟨i / 2, by omega⟩
          rw [yvv (k2 j (by omega)).1, yvv (m2 j (by omega)).1, e2 j (by omega)]
        · obtain ⟨j, rfl⟩ : ∃ j, i = 2 * j + 1 := ⟨i / 2, by omega⟩
          rw [yvv (k2 j (by omega)).2, yvv (m2 j (by omega)).2, e2 j (by omega)]
/-- two codings differ: so do the texts -/
theorem Cod.dif {cd cd' : Int32} {n k : Nat} {f g : Nat → Int32} {V V' : Cell} (h : Cod cd n f V) (h' : Cod cd' k g V') (hne : ¬ cd = cd') : ¬ SameT n f k g := by
  rintro ⟨rfl, e⟩
  rcases h with ⟨rfl, -, k2⟩ | ⟨rfl, -, -, j, hj, hw⟩
  · rcases h' with ⟨rfl, -⟩ | ⟨-, -, -, j, hj, hw⟩
    · exact hne rfl
    · exact (k2 j hj).2 (by rw [e j hj]; exact hw)
  · rcases h' with ⟨-, -, m2⟩ | ⟨rfl, -⟩
    · exact (m2 j hj).2 (by rw [← e j hj]; exact hw)
    · exact hne rfl
/-- an object of exactly C is an instance of C -/
theorem cinst {p : Program} {l : Launch} {e : Env} {R : Room} {s : State} {m : MethodId} {args : Array Value} {below : List Frame} {meth : Method} {c : Code} {T : State} {locs : List Loc} {cells slots : Nat} (X : Stand p l e R s m args below meth c T locs cells slots) (hexec : p.tables.exec = Jvm.exec) {own C : String} {index : Nat} (hown : s.vm.findClass own = some m.cls) (hlink : (Cond.classLink own index C).before args s = true) {a : Addr} (hE : Exact C a T)
    {g : JFrame} (hg : g.method = m) {rest : List Value} (hstack : g.stack = .ref a :: rest) (hdg : decode c.code g.pc = .ok (.instanceof index, 3)) :
    ∃ T', Stand p l e R s m args below meth c T' locs cells slots ∧ T'.heap = T.heap ∧ ∀ target, Steps p.tables e below (T'.setTop { g with pc := g.pc + 3, stack := .int 1 :: rest }) target → Steps p.tables e below (T.setTop g) target := by
  obtain ⟨cB, h1, D, h2, h3, h4⟩ := hE
  have h1' : s.vm.findClass C = some cB := by rw [← X.warmed.alike.findClass]; exact h1
  obtain ⟨vm', X', st⟩ := X.instanceofYes hexec hown hlink h2 h4 h1' (by rw [h3]; exact Jvm.Free.SB.assignable_self _ _) hg hstack hdg
  exact ⟨_, X', rfl, st⟩
theorem cself {p : Program} {l : Launch} {e : Env} {R : Room} {s : State} {m : MethodId} {args : Array Value} {below : List Frame} {meth : Method} {c : Code} {T : State} {locs : List Loc} {cells slots : Nat} (X : Stand p l e R s m args below meth c T locs cells slots) (hexec : p.tables.exec = Jvm.exec) {own C : String} {index : Nat} (hown : s.vm.findClass own = some m.cls) (hlink : (Cond.classLink own index C).before args s = true) {a : Addr} (hE : Exact C a T)
    {g : JFrame} (hg : g.method = m) {rest : List Value} (hstack : g.stack = .ref a :: rest) (hdg : decode c.code g.pc = .ok (.checkcast index, 3)) :
    ∃ T', Stand p l e R s m args below meth c T' locs cells slots ∧ T'.heap = T.heap ∧ ∀ target, Steps p.tables e below (T'.setTop { g with pc := g.pc + 3, stack := .ref a :: rest }) target → Steps p.tables e below (T.setTop g) target := by
  obtain ⟨cB, h1, D, h2, h3, h4⟩ := hE
  have h1' : s.vm.findClass C = some cB := by rw [← X.warmed.alike.findClass]; exact h1
  obtain ⟨vm', X', st⟩ := X.checkcastYes hexec hown hlink h2 h4 h1' (by rw [h3]; exact Jvm.Free.SB.assignable_self _ _) hg hstack hdg
  exact ⟨_, X', rfl, fun t h => st t (by rw [← hstack] at h; exact h)⟩
namespace SEq
def yN : MethodName := ⟨"java/lang/String", "equals", "(Ljava/lang/Object;)Z"⟩
abbrev yB : ByteArray := jdk_42_method_66_code
theorem d0 : decode yB 0 = .ok (.aload_n 0, 1) := by decide +kernel
theorem d1 : decode yB 1 = .ok (.aload_n 1, 1) := by decide +kernel
theorem d2 : decode yB 2 = .ok (.if_acmp (.ne) 5, 3) := by decide +kernel
theorem d5 : decode yB 5 = .ok (.iconst 1, 1) := by decide +kernel
theorem d6 : decode yB 6 = .ok (.ireturn, 1) := by decide +kernel
theorem d7 : decode yB 7 = .ok (.aload_n 1, 1) := by decide +kernel
theorem d8 : decode yB 8 = .ok (.instanceof 10, 3) := by decide +kernel
theorem d11 : decode yB 11 = .ok (.ifCond (.eq) 43, 3) := by decide +kernel
theorem d14 : decode yB 14 = .ok (.aload_n 1, 1) := by decide +kernel
theorem d15 : decode yB 15 = .ok (.checkcast 10, 3) := by decide +kernel
theorem d18 : decode yB 18 = .ok (.astore_n 2, 1) := by decide +kernel
theorem d19 : decode yB 19 = .ok (.getstatic 38, 3) := by decide +kernel
theorem d22 : decode yB 22 = .ok (.ifCond (.eq) 14, 3) := by decide +kernel
theorem d25 : decode yB 25 = .ok (.aload_n 0, 1) := by decide +kernel
theorem d26 : decode yB 26 = .ok (.getfield 15, 3) := by decide +kernel
theorem d29 : decode yB 29 = .ok (.aload_n 2, 1) := by decide +kernel
theorem d30 : decode yB 30 = .ok (.getfield 15, 3) := by decide +kernel
theorem d33 : decode yB 33 = .ok (.if_icmp (.ne) 21, 3) := by decide +kernel
theorem d36 : decode yB 36 = .ok (.aload_n 0, 1) := by decide +kernel
theorem d37 : decode yB 37 = .ok (.getfield 9, 3) := by decide +kernel
theorem d40 : decode yB 40 = .ok (.aload_n 2, 1) := by decide +kernel
theorem d41 : decode yB 41 = .ok (.getfield 9, 3) := by decide +kernel
theorem d44 : decode yB 44 = .ok (.invokestatic 541, 3) := by decide +kernel
theorem d47 : decode yB 47 = .ok (.ifCond (.eq) 7, 3) := by decide +kernel
theorem d50 : decode yB 50 = .ok (.iconst 1, 1) := by decide +kernel
theorem d51 : decode yB 51 = .ok (.goto 4, 3) := by decide +kernel
theorem d54 : decode yB 54 = .ok (.iconst 0, 1) := by decide +kernel
theorem d55 : decode yB 55 = .ok (.ireturn, 1) := by decide +kernel
def site : List Cond := [.classLink "java/lang/String" 10 "java/lang/String", .fieldLink "java/lang/String" 38 "java/lang/String" "COMPACT_STRINGS" "Z", .fieldLink "java/lang/String" 15 "java/lang/String" "coder" "B", .fieldLink "java/lang/String" 9 "java/lang/String" "value" "[B", LEq.tab] ++ staticW "java/lang/String" 541 LEq.yN
def tab : Cond := tabOf yN yB 3 (some .boolean) site
def P (x t : Addr) (V : Cell) (cd : Int32) (n : Nat) (f : Nat → Int32) (y t' : Addr) (V' : Cell) (cd' : Int32) (k : Nat) (g : Nat → Int32) (z : Int32) (args : Array Value) (s : State) : Prop := args = #[.ref x, .ref y] ∧ Txt x t V cd n f s ∧ Txt y t' V' cd' k g s ∧ StaticIs s "java/lang/String" "COMPACT_STRINGS" "Z" (.int z) ∧ ¬ z = 0
/-- equals(Object) of two Strings: whether the texts are the same -/
theorem law (l : Launch) (x t : Addr) (V : Cell) (cd : Int32) (n : Nat) (f : Nat → Int32) (y t' : Addr) (V' : Cell) (cd' : Int32) (k : Nat) (g : Nat → Int32) (z : Int32) : Law l yN 2 1 1 14 yB 3 (some .boolean) site (P x t V cd n f y t' V' cd' k g z) (Says01 (SameT n f k g)) [] 0 0 := by
  refine Law.of_walk (plainFor_of_name (by decide +kernel)) (by decide +kernel) (by decide +kernel) (by decide) (fun _ _ h => by rw [h.1]; rfl) (fun _ U U' hal hh h => ⟨h.1, h.2.1.mv hal hh, h.2.2.1.mv hal hh, h.2.2.2.1.there hal hh, h.2.2.2.2⟩) (fun r U U' V V' h1 hal h2 h => Says01.mv r U U' V V' h1 hal h2 h) ?_
  intro p e s m args below meth c s₁ X0 hexec hbytes hml hret hlk hnm hown hh0 W hP
  obtain ⟨rfl, hx, hy, s1, hz⟩ := hP
  have c1 : Steps p.tables e below (s₁.setTop (entryFrame m #[.ref x, .ref y] 3)) (s₁.setTop (mkF m 2 #[.val (.ref x), .val (.ref y), .unset] [.ref y, .ref x])) := Steps.trans (entry rfl) (by
    show Steps p.tables e below (s₁.setTop (mkF m 0 #[.val (.ref x), .val (.ref y), .unset] [])) _
    refine XS.aloadN X0.here hexec rfl (hb hbytes d0) rfl rfl ?_
    refine XS.aloadN X0.here hexec rfl (hb hbytes d1) rfl rfl ?_
    exact Steps.refl _)
  by_cases hxy : x = y
  · have c2 : Steps p.tables e below (s₁.setTop (entryFrame m #[.ref x, .ref y] 3)) (s₁.setTop (mkF m 6 #[.val (.ref x), .val (.ref y), .unset] [.int 1])) := c1.trans (by
      refine acmpNo X0.here hexec rfl (hb hbytes d2) rfl rfl rfl (by simp [acmp, hxy]) ?_
      refine iconstV X0.here hexec rfl 1 (hb hbytes d5) (by decide) ?_
      exact Steps.refl _)
    subst hxy
    have ec : cd = cd' := by
      obtain ⟨D, fd, a1, a2, a3⟩ := hx.2.2.1
      obtain ⟨D', fd', b1, b2, b3⟩ := hy.2.2.1
      cases a1.symm.trans b1
      obtain ⟨q1, q2, q3, q4⟩ := a2.1
      obtain ⟨r1, r2, r3, r4⟩ := b2.1
      cases q4.symm.trans r4
      cases a3.symm.trans b3; rfl
    have et : t = t' := by
      obtain ⟨D, fd, a1, a2, a3⟩ := hx.2.1
      obtain ⟨D', fd', b1, b2, b3⟩ := hy.2.1
      cases a1.symm.trans b1
      obtain ⟨q1, q2, q3, q4⟩ := a2.1
      obtain ⟨r1, r2, r3, r4⟩ := b2.1
      cases q4.symm.trans r4
      cases a3.symm.trans b3; rfl
    subst ec et
    have ev : V = V' := by cases hx.2.2.2.1.1.symm.trans hy.2.2.2.1.1; rfl
    subst ev
    have hs : SameT n f k g := (Cod.eqv hx.2.2.2.2.1 hy.2.2.2.2.1 hx.2.2.2.2.2 hy.2.2.2.2.2).mp ⟨rfl, fun _ _ => rfl⟩
    exact ⟨s₁, some (.int 1), _, _, _, X0, rfl, rfl, rfl, (fun h => by cases h), ⟨1, rfl, hh0, Or.inl ⟨rfl, hs⟩⟩, fun fs hl => c2.trans (X0.ireturnOut hexec hret rfl (Or.inr (Or.inl rfl)) (hb hbytes d6) hl)⟩
  · have c2 : Steps p.tables e below (s₁.setTop (entryFrame m #[.ref x, .ref y] 3)) (s₁.setTop (mkF m 8 #[.val (.ref x), .val (.ref y), .unset] [.ref y])) := c1.trans (by
      refine acmpYes X0.here hexec rfl (pc0 := 2) rfl (hb hbytes d2) rfl rfl rfl (by simp [acmp, hxy]) (by decide) rfl ?_
      refine XS.aloadN X0.here hexec rfl (hb hbytes d7) rfl rfl ?_
      exact Steps.refl _)
    obtain ⟨T3, X3, q3, st3⟩ := cinst X0 hexec hown (wk W (.classLink "java/lang/String" 10 "java/lang/String")) (hy.mv X0.warmed.alike hh0).1 (g := (mkF m 8 #[.val (.ref x), .val (.ref y), .unset] [.ref y])) rfl (rest := []) rfl (hb hbytes d8)
    have hh3 := q3.trans hh0
    have c4 : Steps p.tables e below (s₁.setTop (entryFrame m #[.ref x, .ref y] 3)) (T3.setTop (mkF m 15 #[.val (.ref x), .val (.ref y), .unset] [.ref y])) := (c2.trans (st3 _ (Steps.refl _))).trans (by
      refine XS.ifNo X3.here hexec rfl (hb hbytes d11) rfl (i0_eq_f (by decide)) ?_
      refine XS.aloadN X3.here hexec rfl (hb hbytes d14) rfl rfl ?_
      exact Steps.refl _)
    obtain ⟨T5, X5, q5, st5⟩ := cself X3 hexec hown (wk W (.classLink "java/lang/String" 10 "java/lang/String")) (hy.mv X3.warmed.alike hh3).1 (g := (mkF m 15 #[.val (.ref x), .val (.ref y), .unset] [.ref y])) rfl (rest := []) rfl (hb hbytes d15)
    have hh5 := q5.trans hh3
    have c6 : Steps p.tables e below (s₁.setTop (entryFrame m #[.ref x, .ref y] 3)) (T5.setTop (mkF m 19 #[.val (.ref x), .val (.ref y), .val (.ref y)] [])) := (c4.trans (st5 _ (Steps.refl _))).trans (by
      refine XS.astoreN X5.here hexec rfl (hb hbytes d18) rfl rfl rfl ?_
      exact Steps.refl _)
    obtain ⟨T7, X7, q7, st7⟩ := X5.sget hexec hown (wk W (.fieldLink "java/lang/String" 38 "java/lang/String" "COMPACT_STRINGS" "Z")) s1 (fun _ _ h => by rw [hh5]; exact h) (g := (mkF m 19 #[.val (.ref x), .val (.ref y), .val (.ref y)] [])) rfl (hb hbytes d19)
    have hh7 := q7.trans hh5
    have c8 : Steps p.tables e below (s₁.setTop (entryFrame m #[.ref x, .ref y] 3)) (T7.setTop (mkF m 26 #[.val (.ref x), .val (.ref y), .val (.ref y)] [.ref x])) := (c6.trans (st7 _ (Steps.refl _))).trans (by
      refine XS.ifNo X7.here hexec rfl (hb hbytes d22) rfl (i0_eq_f hz) ?_
      refine XS.aloadN X7.here hexec rfl (hb hbytes d25) rfl rfl ?_
      exact Steps.refl _)
    obtain ⟨T9, X9, q9, st9⟩ := X7.hget hexec hown (wk W (.fieldLink "java/lang/String" 15 "java/lang/String" "coder" "B")) (hx.mv X7.warmed.alike hh7).2.2.1 (g := (mkF m 26 #[.val (.ref x), .val (.ref y), .val (.ref y)] [.ref x])) rfl (rest := []) rfl (hb hbytes d26)
    have hh9 := q9.trans hh7
    have c10 : Steps p.tables e below (s₁.setTop (entryFrame m #[.ref x, .ref y] 3)) (T9.setTop (mkF m 30 #[.val (.ref x), .val (.ref y), .val (.ref y)] [.ref y, .int cd])) := (c8.trans (st9 _ (Steps.refl _))).trans (by
      refine XS.aloadN X9.here hexec rfl (hb hbytes d29) rfl rfl ?_
      exact Steps.refl _)
    obtain ⟨T11, X11, q11, st11⟩ := X9.hget hexec hown (wk W (.fieldLink "java/lang/String" 15 "java/lang/String" "coder" "B")) (hy.mv X9.warmed.alike hh9).2.2.1 (g := (mkF m 30 #[.val (.ref x), .val (.ref y), .val (.ref y)] [.ref y, .int cd])) rfl (rest := [.int cd]) rfl (hb hbytes d30)
    have hh11 := q11.trans hh9
    have c12 : Steps p.tables e below (s₁.setTop (entryFrame m #[.ref x, .ref y] 3)) (T11.setTop (mkF m 33 #[.val (.ref x), .val (.ref y), .val (.ref y)] [.int cd', .int cd])) := c10.trans (st11 _ (Steps.refl _))
    by_cases hcd : cd = cd'
    · subst hcd
      have c13 : Steps p.tables e below (s₁.setTop (entryFrame m #[.ref x, .ref y] 3)) (T11.setTop (mkF m 37 #[.val (.ref x), .val (.ref y), .val (.ref y)] [.ref x])) := c12.trans (by
        refine XS.icmpNo X11.here hexec rfl (hb hbytes d33) rfl (ii_ne_f rfl) ?_
        refine XS.aloadN X11.here hexec rfl (hb hbytes d36) rfl rfl ?_
        exact Steps.refl _)
      obtain ⟨T14, X14, q14, st14⟩ := X11.hget hexec hown (wk W (.fieldLink "java/lang/String" 9 "java/lang/String" "value" "[B")) (hx.mv X11.warmed.alike hh11).2.1 (g := (mkF m 37 #[.val (.ref x), .val (.ref y), .val (.ref y)] [.ref x])) rfl (rest := []) rfl (hb hbytes d37)
      have hh14 := q14.trans hh11
      have c15 : Steps p.tables e below (s₁.setTop (entryFrame m #[.ref x, .ref y] 3)) (T14.setTop (mkF m 41 #[.val (.ref x), .val (.ref y), .val (.ref y)] [.ref y, .ref t])) := (c13.trans (st14 _ (Steps.refl _))).trans (by
        refine XS.aloadN X14.here hexec rfl (hb hbytes d40) rfl rfl ?_
        exact Steps.refl _)
      obtain ⟨T16, X16, q16, st16⟩ := X14.hget hexec hown (wk W (.fieldLink "java/lang/String" 9 "java/lang/String" "value" "[B")) (hy.mv X14.warmed.alike hh14).2.1 (g := (mkF m 41 #[.val (.ref x), .val (.ref y), .val (.ref y)] [.ref y, .ref t])) rfl (rest := [.ref t]) rfl (hb hbytes d41)
      have hh16 := q16.trans hh14
      have c17 : Steps p.tables e below (s₁.setTop (entryFrame m #[.ref x, .ref y] 3)) (T16.setTop (mkF m 44 #[.val (.ref x), .val (.ref y), .val (.ref y)] [.ref t', .ref t])) := c15.trans (st16 _ (Steps.refl _))
      obtain ⟨v18, T18, X18, E18, g18⟩ := X16.callS hexec (LEq.law l t V t' V') hown (wks W (staticW "java/lang/String" 541 LEq.yN)) (wk W LEq.tab) (W := 0) (Nat.le_of_ble_eq_true rfl) (Nat.le_of_ble_eq_true rfl) (Nat.le_refl _) (Nat.le_refl _) (g := (mkF m 44 #[.val (.ref x), .val (.ref y), .val (.ref y)] [.ref t', .ref t])) rfl (by rw [hml]; rfl) c17 (argsL := [.ref t, .ref t']) (rest := []) rfl rfl (by show 2 * 0 + 0 ≤ _; decide) (hb hbytes d44) (⟨rfl, hx.2.2.2.1.mv X16.warmed.alike hh16, hx.2.2.2.2.1.ty, hy.2.2.2.1.mv X16.warmed.alike hh16, hy.2.2.2.2.1.ty⟩)
      obtain ⟨v, rfl, q18, hv⟩ := E18
      have iff := Cod.eqv hx.2.2.2.2.1 hy.2.2.2.2.1 hx.2.2.2.2.2 hy.2.2.2.2.2
      rcases hv with ⟨rfl, he⟩ | ⟨rfl, he⟩
      · have c19 : Steps p.tables e below (s₁.setTop (entryFrame m #[.ref x, .ref y] 3)) (T18.setTop (mkF m 55 #[.val (.ref x), .val (.ref y), .val (.ref y)] [.int 1])) := Steps.trans g18 (by
          refine XS.ifNo X18.here hexec rfl (hb hbytes d47) rfl (i0_eq_f (by decide)) ?_
          refine iconstV X18.here hexec rfl 1 (hb hbytes d50) (by decide) ?_
          refine XS.goto X18.here hexec rfl (pc0 := 51) rfl (hb hbytes d51) (by decide) rfl ?_
          exact Steps.refl _)
        exact ⟨T18, some (.int 1), _, _, _, X18, rfl, rfl, rfl, (fun h => by cases h), ⟨1, rfl, q18.trans hh16, Or.inl ⟨rfl, iff.mp he⟩⟩, fun fs hl => c19.trans (X18.ireturnOut hexec hret rfl (Or.inr (Or.inl rfl)) (hb hbytes d55) hl)⟩
      · have c19 : Steps p.tables e below (s₁.setTop (entryFrame m #[.ref x, .ref y] 3)) (T18.setTop (mkF m 55 #[.val (.ref x), .val (.ref y), .val (.ref y)] [.int 0])) := Steps.trans g18 (by
          refine XS.ifYes X18.here hexec rfl (pc0 := 47) rfl (hb hbytes d47) rfl (i0_eq_t rfl) (by decide) rfl ?_
          refine iconstV X18.here hexec rfl 0 (hb hbytes d54) (by decide) ?_
          exact Steps.refl _)
        exact ⟨T18, some (.int 0), _, _, _, X18, rfl, rfl, rfl, (fun h => by cases h), ⟨0, rfl, q18.trans hh16, Or.inr ⟨rfl, fun q => he (iff.mpr q)⟩⟩, fun fs hl => c19.trans (X18.ireturnOut hexec hret rfl (Or.inr (Or.inl rfl)) (hb hbytes d55) hl)⟩
    · have c13 : Steps p.tables e below (s₁.setTop (entryFrame m #[.ref x, .ref y] 3)) (T11.setTop (mkF m 55 #[.val (.ref x), .val (.ref y), .val (.ref y)] [.int 0])) := c12.trans (by
        refine XS.icmpYes X11.here hexec rfl (pc0 := 33) rfl (hb hbytes d33) rfl (ii_ne_t hcd) (by decide) rfl ?_
        refine iconstV X11.here hexec rfl 0 (hb hbytes d54) (by decide) ?_
        exact Steps.refl _)
      exact ⟨T11, some (.int 0), _, _, _, X11, rfl, rfl, rfl, (fun h => by cases h), ⟨0, rfl, hh11, Or.inr ⟨rfl, Cod.dif hx.2.2.2.2.1 hy.2.2.2.2.1 hcd⟩⟩, fun fs hl => c13.trans (X11.ireturnOut hexec hret rfl (Or.inr (Or.inl rfl)) (hb hbytes d55) hl)⟩
theorem pays {l : Launch} {R : Room} {p : Program} {e : Env} {below : List Frame} {s : State} {sargs : Array Value} {len W : Nat} (x t : Addr) (V : Cell) (cd : Int32) (n : Nat) (f : Nat → Int32) (y t' : Addr) (V' : Cell) (cd' : Int32) (k : Nat) (g : Nat → Int32) (z : Int32) (htab : tab.before sargs s = true) (hfr : 2 ≤ R.frames) (hlo : W + 28 ≤ R.locals) :
    Back l R p e below s sargs yN len W (fun A₁ a₁ => A₁.cells + 0 ≤ R.cells ∧ A₁.slots + 0 ≤ R.slots ∧ P x t V cd n f y t' V' cd' k g z a₁ A₁.U) (fun A₁ _ v₁ B₁ => Says01 (SameT n f k g) v₁ A₁.U B₁.U ∧ B₁.locs = A₁.locs ++ [] ∧ B₁.cells = A₁.cells + 0 ∧ B₁.slots = A₁.slots + 0) :=
  (law l x t V cd n f y t' V' cd' k g z).pays htab hfr (by omega)
end SEq
end StrChars
namespace StrChars.Road
open Jvm Sem ClassFile Op Lib Jvm.Stand Jvm.Free Jvm.Free.XT
open Jvm.Lib.Cold (StaticIs)
/-- the words of String.equals(Object) -/
abbrev wordsEq : List Jvm.Cond := [.code SEq.yN SEq.yB 3 (some .boolean), .initialized ST, .classLink ST 10 ST, .fieldLink ST 38 ST "COMPACT_STRINGS" "Z", .fieldLink ST 15 ST "coder" "B", .fieldLink ST 9 ST "value" "[B", .methodLink ST 541 LEq.yN, .static LEq.yN, .code LEq.yN LEq.yB 3 (some .boolean), .initialized "java/lang/StringLatin1"]
theorem tabEq_of {a : Array Value} {s : State} (h : ∀ w ∈ wordsEq, w.before a s = true) : SEq.tab.before a s = true := by
  have hl : LEq.tab.before a s = true := unparts (wk h (.code LEq.yN LEq.yB 3 (some .boolean))) (wks h (.initialized LEq.yN.cls :: LEq.site))
  have q := consq hl h
  exact unparts (wk q (.code SEq.yN SEq.yB 3 (some .boolean))) (wks q (.initialized SEq.yN.cls :: SEq.site))
theorem movedEq {Z s : State} {a0 args : Array Value} (hZ : Z.Warmed39 s.vm) (hw : ∀ d ∈ wordsEq, d.before a0 Z = true) : ∀ d ∈ wordsEq, d.before args s = true := fun d hd => by
  have t : ∀ d ∈ wordsEq, (d.onTables && d.keepsFace) = true := by decide +kernel
  exact RoadKit.mv hZ (hw d hd) (t d hd)
/-- the road's facts of a String, as the laws ask it -/
theorem txt_of {Z U : State} {a0 : Array Value} {kI : Nat} (wi : (Jvm.Cond.instantiable ST kI).before a0 Z = true) (al : Z.vm.Alike U.vm) {x t : Addr} {kb : ClassId} {cs : List Int32} {cd N2 : Int32} {vs : List Value} (E : RoadKit.Exa Z U.heap x ST) (V : RoadKit.Fld Z U.heap x ST "value" "[B" (.ref t)) (C : RoadKit.Fld Z U.heap x ST "coder" "B" (.int cd)) (K : RoadKit.Arv Z U.heap t kb .byte N2 vs (.int 0)) (hc : CodA cs cd N2 vs) (hb : ∀ c ∈ cs, ¬ c < 0 ∧ ¬ (65535 : Int32) < c) (l2 : cs.length ≤ 4000) :
    ∃ A, Txt x t A cd cs.length (fun j => cs.getD j 0) U := by
  obtain ⟨A, K1, K2, K3, K4, K5, K6⟩ := K
  have hcod := hc.cod (by omega) K3 K5
  obtain ⟨D, fV, fC, hB, F1, F2, g1, g2, -, -⟩ := strObj wi al E V C
  exact ⟨A, ⟨_, hB.2.2.1, D, hB.1, rfl, by cases q : D.vm <;> first | rfl | exact absurd q (hB.2.1.2 _)⟩, Has.of hB F1 g1, Has.of hB F2 g2, ⟨K1.1, State.isArrayOf_alike al K1.2.1, K1.2.2, by rcases hcod with ⟨-, q, -⟩ | ⟨-, q, -⟩ <;> omega⟩, hcod, fun j hj => by
    have e : cs.getD j 0 = cs[j] := by simp [List.getD_eq_getElem?_getD, hj]
    show ¬ cs.getD j 0 < 0 ∧ ¬ 65535 < cs.getD j 0
    rw [e]; exact hb _ (List.getElem_mem _)⟩
theorem same_list (cs ds : List Int32) : SameT cs.length (fun j => cs.getD j 0) ds.length (fun j => ds.getD j 0) ↔ cs = ds := by
  constructor
  · rintro ⟨e, q⟩
    refine List.ext_getElem e fun j h1 h2 => ?_
    have := q j h1
    simpa [List.getD_eq_getElem?_getD, h1, h2] using this
  · rintro rfl
    exact ⟨rfl, fun _ _ => rfl⟩
/-- **equals(Object) OF TWO SUCH STRINGS**: 1 just where the chars are the same -/
theorem eqW {p : Program} {l : Launch} {e : Env} {R : Room} {s : State} {args : Array Value} {below : List Frame} {len W : Nat} {Z : State} {a0 : Array Value} {h : Heap} (hZ : Z.Warmed39 s.vm) (hw : ∀ d ∈ wordsEq, d.before a0 Z = true) {kI : Nat} (wi : (Jvm.Cond.instantiable ST kI).before a0 Z = true)
    {x t : Addr} {kb : ClassId} {cs : List Int32} {cd N2 : Int32} {vs : List Value} (E : RoadKit.Exa Z h x ST) (V : RoadKit.Fld Z h x ST "value" "[B" (.ref t)) (C : RoadKit.Fld Z h x ST "coder" "B" (.int cd)) (K : RoadKit.Arv Z h t kb .byte N2 vs (.int 0)) (hc : CodA cs cd N2 vs) (hb : ∀ c ∈ cs, ¬ c < 0 ∧ ¬ (65535 : Int32) < c) (l2 : cs.length ≤ 4000)
    {y t' : Addr} {kb' : ClassId} {ds : List Int32} {cd' N2' : Int32} {vs' : List Value} (E' : RoadKit.Exa Z h y ST) (V' : RoadKit.Fld Z h y ST "value" "[B" (.ref t')) (C' : RoadKit.Fld Z h y ST "coder" "B" (.int cd')) (K' : RoadKit.Arv Z h t' kb' .byte N2' vs' (.int 0)) (hc' : CodA ds cd' N2' vs') (hb' : ∀ c ∈ ds, ¬ c < 0 ∧ ¬ (65535 : Int32) < c) (l2' : ds.length ≤ 4000)
    {z : Int32} (S : RoadKit.Sta Z h ST "COMPACT_STRINGS" "Z" (.int z)) (hz : ¬ z = 0) (hfr : 2 ≤ R.frames) (hlo : W + 28 ≤ R.locals) :
    Back l R p e below s args (⟨"java/lang/String", "equals", "(Ljava/lang/Object;)Z"⟩ : MethodName) len W (fun P a => a = #[.ref x, .ref y] ∧ P.U.heap = h ∧ P.cells + 0 ≤ R.cells ∧ P.slots + 0 ≤ R.slots)
      (fun P _ v B => ∃ L, (((v = some (.int 1) ∧ cs = ds) ∨ (v = some (.int 0) ∧ ¬ cs = ds)) ∧ L = [] ∧ B.U.heap = h) ∧ B.locs = P.locs ++ L ∧ B.cells = P.cells + 0 ∧ B.slots = P.slots + 0) := by
  intro m meth c P g ig mk a X hg hsize hdg hW hn hp'
  obtain ⟨rfl, rfl, r1, r2⟩ := hp'
  have al : Z.vm.Alike P.U.vm := hZ.alike.trans X.warmed.alike
  obtain ⟨A, hx⟩ := txt_of wi al E V C K hc hb l2
  obtain ⟨A', hy⟩ := txt_of wi al E' V' C' K' hc' hb' l2'
  obtain ⟨v, B, X', ⟨⟨w, hv, hh, hq⟩, hl, hk, hs⟩, st⟩ := SEq.pays x t A cd cs.length (fun j => cs.getD j 0) y t' A' cd' ds.length (fun j => ds.getD j 0) z (tabEq_of (movedEq hZ hw)) hfr hlo m meth c P g ig mk _ X hg hsize hdg hW hn ⟨r1, r2, rfl, hx, hy, sta_is al S, hz⟩
  refine ⟨v, B, X', ⟨[], ⟨?_, rfl, hh⟩, hl, hk, hs⟩, st⟩
  rcases hq with ⟨rfl, q⟩ | ⟨rfl, q⟩
  · exact Or.inl ⟨hv, (same_list cs ds).mp q⟩
  · exact Or.inr ⟨hv, fun e => q ((same_list cs ds).mpr e)⟩
end StrChars.Road
namespace StrChars.Road
open Jvm Sem ClassFile Op Lib Jvm.Stand Jvm.Free Jvm.Free.XT
open Jvm.Lib.Cold (StaticIs)
/-- what backV says of its String, as the contracts of this text ask it: cs's low bytes, coder 0 -/
theorem codOf {cs : List Int32} {n : Nat} (hn : cs.length = n) (hb : ∀ c ∈ cs, ¬ 255 < c) : CodA cs 0 (Int32.ofNat n) ((cs.map lo8).map Value.int) := Or.inl ⟨rfl, by rw [hn], by simp [List.map_map, Function.comp_def], hb⟩
end StrChars.Road
end Jvm.Pilot.@@N@@
namespace Jvm.Pilot.@@N@@
open Jvm Jvm.ClassFile Sem Op Lib Jvm.Free Jvm.Stand Jvm.LawKit Jvm.RoadKit Bundle Jvm.Pilot.@@N@@.Jvm.D
theorem own_wS {Z : State} {a0 : Array Value} (hw : ∀ d ∈ tables_1, d.before a0 Z = true) : ∀ a ∈ Bundle.stringAtoms, a.before a0 Z = true := fun d hd => hw d ((by decide +kernel : ∀ d ∈ Bundle.stringAtoms, d ∈ tables_1) d hd)
theorem own_EL {Z : State} {a0 : Array Value} (hw : ∀ d ∈ tables_1, d.before a0 Z = true) : EW Z a0 consts_1 := (EW.cons (hw _ (List.mem_of_getElem? (i := 37) rfl)) (by decide +kernel) (EW.cons (hw _ (List.mem_of_getElem? (i := 80) rfl)) (by decide +kernel) (EW.cons (hw _ (List.mem_of_getElem? (i := 83) rfl)) (by decide +kernel) EW.nil)))
theorem own_safe_arv {Z : State} {EL : List (String × Nat)} {vm : Vm} {h : Heap} {x : Addr} {k : ClassId} {ty : FieldType} {z : Int32} {vs : List Value} {dv : Value} (hal : Z.vm.Alike vm) (A : Arv Z h x k ty z vs dv) (ht : ty ≠ .byte) : Safe Z EL vm h x := by
  obtain ⟨c, Ar, -⟩ := A
  exact Safe.arr hal Ar ht
theorem own_safe_null {Z : State} {EL : List (String × Nat)} {vm : Vm} {h : Heap} {x : Addr} (hal : Z.vm.Alike vm) (E : Exa Z h x "java/lang/String") (F : Fld Z h x "java/lang/String" "value" "[B" .null) : Safe Z EL vm h x := fun B => by
  obtain ⟨p, -, u, a, -, q, -, G, rfl | rfl⟩ := B
  · obtain ⟨cell, cf, k, i, f, f1, f2, -, -, -, -, f7⟩ := F
    cases (show h[q.sa]? = some q.sC from G.ha).symm.trans f1
    obtain ⟨cS, ⟨⟨-, -, -, ⟨cv, kv, iv, s4, -⟩, -, -, -, s8, -⟩, -, -⟩, -⟩ := G
    obtain ⟨kv', z4⟩ := ff_back (U := Wst Z vm h) hal s4
    cases z4.symm.trans f2
    cases s8.symm.trans f7
  · obtain ⟨cell, k, e1, e2, -⟩ := E
    cases (show h[q.sd]? = some q.SA from G.hd).symm.trans e1
    obtain ⟨cS, -, -, f, -⟩ := G
    have f' : vm.findClass "[B" = some q.SA.cls := f
    rw [hal.findClass] at f'
    exact ids_ne f' e2 (by decide) rfl
def sha : List Int32 := ([83, 72, 65, 45, 50, 53, 54] : List Int32)
def md5 : List Int32 := ([77, 68, 53] : List Int32)
def eqI (cs ds : List Int32) : Int32 := if cs = ds then 1 else 0
/-- the String at x spells cs -/
def SF (Z : State) (h : Heap) (x : Addr) (cs : List Int32) : Prop := Exa Z h x "java/lang/String" ∧ Fld Z h x "java/lang/String" "coder" "B" (.int 0) ∧ (∀ c ∈ cs, ¬ c < 0 ∧ ¬ (255 : Int32) < c) ∧ cs.length ≤ 8 ∧ ∃ (t : Addr) (kb : ClassId), Fld Z h x "java/lang/String" "value" "[B" (.ref t) ∧ Arv Z h t kb .byte (Int32.ofNat cs.length) ((cs.map StrChars.lo8).map Value.int) (.int 0)
theorem SF.ext {Z : State} {h h' : Heap} {x : Addr} {cs : List Int32} (F : SF Z h x cs) (E : Ext h h') : SF Z h' x cs := by
  obtain ⟨f1, f2, f3, f4, t, kb, f5, f6⟩ := F
  exact ⟨f1.ext E, f2.ext E, f3, f4, t, kb, f5.ext E, f6.ext E⟩
theorem SF.keep {Z : State} {h h' : Heap} {x : Addr} {cs : List Int32} (F : SF Z h x cs) (K : Keep h h' []) (q : x ∉ ([] : List Addr)) : SF Z h' x cs := F.ext (own_keep_ext K)
theorem SF.lt {Z : State} {h : Heap} {x : Addr} {cs : List Int32} (F : SF Z h x cs) : x < h.size := F.1.lt
theorem own_up {cs : List Int32} (h : ∀ c ∈ cs, ¬ c < 0 ∧ ¬ (255 : Int32) < c) : ∀ c ∈ cs, ¬ c < 0 ∧ ¬ (65535 : Int32) < c := fun c hc => ⟨(h c hc).1, fun q => (h c hc).2 (by
  have e1 : (255 : Int32).toInt = 255 := by decide
  have e2 : (65535 : Int32).toInt = 65535 := by decide
  rw [Int32.lt_iff_toInt_lt] at q ⊢
  omega)⟩
theorem own_eqI {v : Option Value} {cs ds : List Int32} (h : (v = some (.int 1) ∧ cs = ds) ∨ (v = some (.int 0) ∧ ¬ cs = ds)) : v = some (.int (eqI cs ds)) := by
  rcases h with ⟨rfl, h⟩ | ⟨rfl, h⟩
  · rw [eqI, if_pos h]
  · rw [eqI, if_neg h]
theorem own_eqB {p : Program} {l : Launch} {e : Env} {R : Room} {s : State} {args : Array Value} {below : List Frame} {len W : Nat} {Z : State} {a0 : Array Value} {h : Heap} (hZ : Z.Warmed39 s.vm) (hw : ∀ d ∈ tables_1, d.before a0 Z = true)
    {x y : Addr} {cs ds : List Int32} (F : SF Z h x cs) (G : SF Z h y ds) {z : Int32} (S : Sta Z h "java/lang/String" "COMPACT_STRINGS" "Z" (.int z)) (hz : ¬ z = 0) (hfr : 2 ≤ R.frames) (hlo : W + 28 ≤ R.locals) :
    Back l R p e below s args (⟨"java/lang/String", "equals", "(Ljava/lang/Object;)Z"⟩ : MethodName) len W (fun P a => a = #[.ref x, .ref y] ∧ P.U.heap = h ∧ P.cells + 0 ≤ R.cells ∧ P.slots + 0 ≤ R.slots)
      (fun P _ v B => ∃ L, (((v = some (.int 1) ∧ cs = ds) ∨ (v = some (.int 0) ∧ ¬ cs = ds)) ∧ L = [] ∧ B.U.heap = h) ∧ B.locs = P.locs ++ L ∧ B.cells = P.cells + 0 ∧ B.slots = P.slots + 0) := by
  obtain ⟨f1, f2, f3, f4, t, kb, f5, f6⟩ := F
  obtain ⟨g1, g2, g3, g4, t', kb', g5, g6⟩ := G
  exact StrChars.Road.eqW hZ (fun d hd => hw d ((by decide +kernel : ∀ d ∈ StrChars.Road.wordsEq, d ∈ tables_1) d hd)) (kI := 4) (hw _ (List.mem_of_getElem? (i := 9) rfl)) f1 f5 f2 f6 (StrChars.Road.codOf rfl fun c hc => (f3 c hc).2) (own_up f3) (Nat.le_trans f4 (by decide)) g1 g5 g2 g6 (StrChars.Road.codOf rfl fun c hc => (g3 c hc).2) (own_up g3) (Nat.le_trans g4 (by decide)) S hz hfr hlo
theorem d9_0 : decode jdk_42_method_66_code 0 = .ok (.aload_n 0, 1) := by decide +kernel
theorem d9_1 : decode jdk_42_method_66_code 1 = .ok (.aload_n 1, 1) := by decide +kernel
theorem d9_2 : decode jdk_42_method_66_code 2 = .ok (.if_acmp .ne 5, 3) := by decide +kernel
theorem d9_7 : decode jdk_42_method_66_code 7 = .ok (.aload_n 1, 1) := by decide +kernel
theorem d9_8 : decode jdk_42_method_66_code 8 = .ok (.instanceof 10, 3) := by decide +kernel
theorem d9_11 : decode jdk_42_method_66_code 11 = .ok (.ifCond .eq 43, 3) := by decide +kernel
theorem d9_54 : decode jdk_42_method_66_code 54 = .ok (.iconst 0, 1) := by decide +kernel
theorem d9_55 : decode jdk_42_method_66_code 55 = .ok (.ireturn, 1) := by decide +kernel
theorem pn_9 : plainName "java/lang/String" = true := by first | (simp [plainName, overriddenIn]; done) | decide +kernel
theorem ef_9n (m : MethodId) (r0 : Addr) : entryFrame m #[(.ref r0), .null] 3 = mkF m 0 #[.val (.ref r0), .val .null, .unset] [] := by first | (simp [entryFrame, mkF, argsToLocals, Value.category]; done) | rfl
def Q9n (Z : State) (r0 : Addr)  (h0 : Heap) (n0 : Nat) (v : Option Value) (h : Heap) (L : List Loc) : Prop := v = some (.int (0 : Int32)) ∧ Fr n0 L ∧ h = h0
set_option maxRecDepth 65536 in
set_option maxHeartbeats 40000000 in
theorem rm9n (l : Launch) (Z : State) (a0 : Array Value) (hw : ∀ d ∈ tables_1, d.before a0 Z = true) (ws : List Jvm.Cond) (r0 : Addr)  (h0 : Heap) (n0 : Nat) (Z0 : n0 ≤ h0.size)  :
    MetFree l (⟨"java/lang/String", "equals", "(Ljava/lang/Object;)Z"⟩ : MethodName) (head1 (Jvm.Cond.code (⟨"java/lang/String", "equals", "(Ljava/lang/Object;)Z"⟩ : MethodName) jdk_42_method_66_code 3 (some .boolean) :: ws) ({ frames := 0, cells := 0, slots := 0, locals := 0 } : Room)) (fun a U => a = #[(.ref r0), .null] ∧ Z.Warmed39 U.vm ∧ U.heap = h0) (fun _ _ _ _ _ => True) (fun _ U o U' => ∃ v L, o = .returned v ∧ Q9n Z r0 h0 n0 v U'.heap L ∧ FrameEnd U o U' L ({ frames := 0, cells := 0, slots := 0, locals := 0 } : Room).cells ({ frames := 0, cells := 0, slots := 0, locals := 0 } : Room).slots) := by
  refine MetFree.of_bodySF (plainFor_of_name pn_9) hisR ?_
  intro p e s m args below meth c s₁ Bd hml0 hP hK
  obtain ⟨rfl, hZ, hh⟩ := hP
  have hx := Bd.exec
  have hlk : meth.locks = false := BodyLoose.notSynchronized Bd
  have hby := Bd.bytes
  have hml : c.maxLocals = 3 := hml0
  have hown : s.vm.findClass "java/lang/String" = some m.cls := findClass_of_methodNamed Bd.named
  have hnm := (name_of_methodNamed Bd.named Bd.method).1
  have X0 : Stand p l e ({ frames := 0, cells := 0, slots := 0, locals := 0 } : Room) s m #[(.ref r0), .null] below meth c s₁ [] 0 0 := Stand.of_body Bd
  have e0 : s₁.heap = h0 := by rw [← hh, Bd.state]; rfl
  have N0 := Fr.nil n0
  refine own_go (A' := (s₁.setTop (mkF m 0 #[.val (.ref r0), .val .null, .unset] []))) (fun t k => castTop (ef_9n m r0) k) ?_
  refine own_go (A' := (s₁.setTop (mkF m 2 #[.val (.ref r0), .val .null, .unset] [.null, (.ref r0)]))) (fun t k => ?_) ?_
  · show Steps p.tables e below (s₁.setTop (mkF m 0 #[.val (.ref r0), .val .null, .unset] [])) _
    refine XS.aloadN X0.here hx rfl (hb hby d9_0) rfl rfl ?_
    show Steps p.tables e below (s₁.setTop (mkF m 1 #[.val (.ref r0), .val .null, .unset] [(.ref r0)])) _
    refine XS.aloadN X0.here hx rfl (hb hby d9_1) rfl rfl ?_
    exact k
  refine own_go (A' := (s₁.setTop (mkF m 7 #[.val (.ref r0), .val .null, .unset] []))) (fun t k => Jvm.RoadKit.acmp (g := (mkF m 2 #[.val (.ref r0), .val .null, .unset] [.null, (.ref r0)])) X0 hx rfl rfl rfl (pc0 := 2) (pc' := 7) (same := false) rfl (hb hby d9_2) rfl (decide_eq_false nofun) (by decide) (by decide) k) ?_
  refine own_go (A' := (s₁.setTop (mkF m 11 #[.val (.ref r0), .val .null, .unset] [(.int (0 : Int32))]))) (fun t k => ?_) ?_
  · show Steps p.tables e below (s₁.setTop (mkF m 7 #[.val (.ref r0), .val .null, .unset] [])) _
    refine XS.aloadN X0.here hx rfl (hb hby d9_7) rfl rfl ?_
    show Steps p.tables e below (s₁.setTop (mkF m 8 #[.val (.ref r0), .val .null, .unset] [.null])) _
    refine X0.instanceofNull hx (g := (mkF m 8 #[.val (.ref r0), .val .null, .unset] [.null])) rfl rfl (hb hby d9_8) _ ?_
    exact k
  refine own_go (A' := (s₁.setTop (mkF m 54 #[.val (.ref r0), .val .null, .unset] []))) (fun t k => XS.ifYes X0.here hx rfl (pc0 := 11) (pc' := 54) rfl (hb hby d9_11) rfl ((if0 _ _).trans (teq (by decide : (0 : Int32) = (0 : Int32))).1) (by decide) (by decide) k) ?_
  refine own_go (A' := (s₁.setTop (mkF m 55 #[.val (.ref r0), .val .null, .unset] [(.int (0 : Int32))]))) (fun t k => ?_) ?_
  · show Steps p.tables e below (s₁.setTop (mkF m 54 #[.val (.ref r0), .val .null, .unset] [])) _
    refine XS.iconst X0.here hx rfl (hb hby d9_54) ?_
    exact k
  obtain ⟨fs, hr, hrun, hended, hW, hsame⟩ := X0.leave (v := some (.int (0 : Int32))) (fun h => by rw [Bd.returns] at h; cases h) hlk
  refine ⟨_, _, ?_, hrun, hended, _, _, rfl, ?_, ⟨_, rfl⟩, hW, hsame.mono (by decide) (by decide)⟩
  · show Steps p.tables e below (s₁.setTop (mkF m 55 #[.val (.ref r0), .val .null, .unset] [(.int (0 : Int32))])) _
    exact retN X0 hx (t := .boolean) Bd.returns (by simp) (hb hby d9_55) hr
  · show Q9n Z r0 h0 n0 _ s₁.heap _
    exact ⟨rfl, N0, e0⟩
theorem d13_0 : decode prog_62_method_4_code 0 = .ok (.aload_n 0, 1) := by decide +kernel
theorem d13_1 : decode prog_62_method_4_code 1 = .ok (.getfield 29, 3) := by decide +kernel
theorem d13_4 : decode prog_62_method_4_code 4 = .ok (.areturn, 1) := by decide +kernel
theorem pn_13 : plainName "com/example/lading/lading/packaging/ChecksumAlgorithm" = true := by first | (simp [plainName, overriddenIn]; done) | decide +kernel
theorem ef_13 (m : MethodId) (r0 : Addr) : entryFrame m #[(.ref r0)] 1 = mkF m 0 #[.val (.ref r0)] [] := by first | (simp [entryFrame, mkF, argsToLocals, Value.category]; done) | rfl
def Q13 (Z : State) (r0 : Addr) (kx : Addr) (h0 : Heap) (n0 : Nat) (v : Option Value) (h : Heap) (L : List Loc) : Prop := v = some (.ref kx) ∧ Fr n0 L ∧ h = h0
set_option maxRecDepth 65536 in
set_option maxHeartbeats 40000000 in
theorem rm13 (l : Launch) (Z : State) (a0 : Array Value) (hw : ∀ d ∈ tables_1, d.before a0 Z = true) (ws : List Jvm.Cond) (r0 : Addr) (kx : Addr) (h0 : Heap) (n0 : Nat) (Z0 : n0 ≤ h0.size) (F1 : Fld Z h0 r0 "com/example/lading/lading/packaging/ChecksumAlgorithm" "manifestName" "Ljava/lang/String;" (.ref kx)) :
    MetFree l (⟨"com/example/lading/lading/packaging/ChecksumAlgorithm", "manifestName", "()Ljava/lang/String;"⟩ : MethodName) (head1 (Jvm.Cond.code (⟨"com/example/lading/lading/packaging/ChecksumAlgorithm", "manifestName", "()Ljava/lang/String;"⟩ : MethodName) prog_62_method_4_code 1 (some (.object "java/lang/String")) :: ws) ({ frames := 0, cells := 0, slots := 0, locals := 0 } : Room)) (fun a U => a = #[(.ref r0)] ∧ Z.Warmed39 U.vm ∧ U.heap = h0) (fun _ _ _ _ _ => True) (fun _ U o U' => ∃ v L, o = .returned v ∧ Q13 Z r0 kx h0 n0 v U'.heap L ∧ FrameEnd U o U' L ({ frames := 0, cells := 0, slots := 0, locals := 0 } : Room).cells ({ frames := 0, cells := 0, slots := 0, locals := 0 } : Room).slots) := by
  refine MetFree.of_bodySF (plainFor_of_name pn_13) hisR ?_
  intro p e s m args below meth c s₁ Bd hml0 hP hK
  obtain ⟨rfl, hZ, hh⟩ := hP
  have hx := Bd.exec
  have hlk : meth.locks = false := BodyLoose.notSynchronized Bd
  have hby := Bd.bytes
  have hml : c.maxLocals = 1 := hml0
  have hown : s.vm.findClass "com/example/lading/lading/packaging/ChecksumAlgorithm" = some m.cls := findClass_of_methodNamed Bd.named
  have hnm := (name_of_methodNamed Bd.named Bd.method).1
  have X0 : Stand p l e ({ frames := 0, cells := 0, slots := 0, locals := 0 } : Room) s m #[(.ref r0)] below meth c s₁ [] 0 0 := Stand.of_body Bd
  have e0 : s₁.heap = h0 := by rw [← hh, Bd.state]; rfl
  have N0 := Fr.nil n0
  refine own_go (A' := (s₁.setTop (mkF m 0 #[.val (.ref r0)] []))) (fun t k => castTop (ef_13 m r0) k) ?_
  obtain ⟨T1, X1, e1, st1⟩ := getF X0 hx hZ hown (host := "") (Or.inl (hw _ (List.mem_of_getElem? (i := 72) rfl))) Via.refl e0 F1 (g := (mkF m 1 #[.val (.ref r0)] [(.ref r0)])) rfl rfl (hb hby d13_1)
  refine own_go (A' := (T1.setTop (mkF m 4 #[.val (.ref r0)] [(.ref kx)]))) (fun t k => ?_) ?_
  · show Steps p.tables e below (s₁.setTop (mkF m 0 #[.val (.ref r0)] [])) _
    refine XS.aloadN X0.here hx rfl (hb hby d13_0) rfl rfl ?_
    show Steps p.tables e below (s₁.setTop (mkF m 1 #[.val (.ref r0)] [(.ref r0)])) _
    refine st1 _ ?_
    exact k
  obtain ⟨fs, hr, hrun, hended, hW, hsame⟩ := X1.leave (v := some (.ref kx)) (fun h => by rw [Bd.returns] at h; cases h) hlk
  refine ⟨_, _, ?_, hrun, hended, _, _, rfl, ?_, ⟨_, rfl⟩, hW, hsame.mono (by decide) (by decide)⟩
  · show Steps p.tables e below (T1.setTop (mkF m 4 #[.val (.ref r0)] [(.ref kx)])) _
    exact own_retV X1 hx Bd.returns rfl rfl (hb hby d13_4) hr
  · show Q13 Z r0 kx h0 n0 _ T1.heap _
    exact ⟨rfl, N0, e1⟩
def bF (x i : Int32) : Int32 := ((((x.toUInt32 >>> (((8 : Int32) * i) &&& 31).toUInt32).toInt32) &&& (255 : Int32)).toUInt32.toUInt16.toUInt32.toInt32)
def rg (c : Int32) : Prop := 0 ≤ c.toInt ∧ c.toInt < 256
theorem own_bF (x i : Int32) : rg (bF x i) := by
  have h := c_mask ((x.toUInt32 >>> (((8 : Int32) * i) &&& 31).toUInt32).toInt32) 255 8 (by decide) (by decide)
  have a := c_i2c (((x.toUInt32 >>> (((8 : Int32) * i) &&& 31).toUInt32).toInt32) &&& (255 : Int32))
  unfold rg bF
  omega
theorem own_nn (y : Int32) : y.toUInt32.toUInt16.toUInt32.toInt32.toUInt32.toUInt16.toUInt32.toInt32 = y.toUInt32.toUInt16.toUInt32.toInt32 := by
  have a := c_i2c y
  have b := c_i2c (y.toUInt32.toUInt16.toUInt32.toInt32)
  rw [← Int32.toInt_inj]
  omega
theorem own_rgn {c : Int32} (h : rg c) : nar .char c = c := by
  have b := c_i2c c
  unfold rg at h
  rw [← Int32.toInt_inj]
  show c.toUInt32.toUInt16.toUInt32.toInt32.toInt = c.toInt
  omega
theorem own_rgr {c : Int32} (h : rg c) : rg (nar .char c) := by rw [own_rgn h]; exact h
theorem own_rgl {c : Int32} (h : rg c) : ¬ c < 0 ∧ ¬ (255 : Int32) < c := by
  have e0 : (0 : Int32).toInt = 0 := by decide
  have e1 : (255 : Int32).toInt = 255 := by decide
  unfold rg at h
  rw [Int32.lt_iff_toInt_lt, Int32.lt_iff_toInt_lt, e0, e1]
  omega
theorem d1_0 : decode method_2_code 0 = .ok (.iload_n 0, 1) := by decide +kernel
theorem d1_1 : decode method_2_code 1 = .ok (.bipush 8, 2) := by decide +kernel
theorem d1_3 : decode method_2_code 3 = .ok (.iload_n 1, 1) := by decide +kernel
theorem d1_4 : decode method_2_code 4 = .ok (.imul, 1) := by decide +kernel
theorem d1_5 : decode method_2_code 5 = .ok (.iushr, 1) := by decide +kernel
theorem d1_6 : decode method_2_code 6 = .ok (.sipush 255, 3) := by decide +kernel
theorem d1_9 : decode method_2_code 9 = .ok (.iand, 1) := by decide +kernel
theorem d1_10 : decode method_2_code 10 = .ok (.i2c, 1) := by decide +kernel
theorem d1_11 : decode method_2_code 11 = .ok (.ireturn, 1) := by decide +kernel
theorem pn_1 : plainName "com/example/lading/lading/packaging/ChecksumAlgorithmNamedPinLaw" = true := by first | (simp [plainName, overriddenIn]; done) | decide +kernel
theorem ef_1 (m : MethodId) (p0 : Int32) (p1 : Int32) : entryFrame m #[(.int p0), (.int p1)] 2 = mkF m 0 #[.val (.int p0), .val (.int p1)] [] := by first | (simp [entryFrame, mkF, argsToLocals, Value.category]; done) | rfl
def Q1 (Z : State) (p0 : Int32) (p1 : Int32)  (h0 : Heap) (n0 : Nat) (v : Option Value) (h : Heap) (L : List Loc) : Prop := v = some (.int (bF p0 p1)) ∧ Fr n0 L ∧ h = h0
set_option maxRecDepth 65536 in
set_option maxHeartbeats 40000000 in
theorem rm1 (l : Launch) (Z : State) (a0 : Array Value) (hw : ∀ d ∈ tables_1, d.before a0 Z = true) (ws : List Jvm.Cond) (p0 : Int32) (p1 : Int32)  (h0 : Heap) (n0 : Nat) (Z0 : n0 ≤ h0.size)  :
    MetFree l (⟨"com/example/lading/lading/packaging/ChecksumAlgorithmNamedPinLaw", "b", "(II)C"⟩ : MethodName) (head1 (Jvm.Cond.code (⟨"com/example/lading/lading/packaging/ChecksumAlgorithmNamedPinLaw", "b", "(II)C"⟩ : MethodName) method_2_code 2 (some .char) :: ws) ({ frames := 0, cells := 0, slots := 0, locals := 0 } : Room)) (fun a U => a = #[(.int p0), (.int p1)] ∧ Z.Warmed39 U.vm ∧ U.heap = h0) (fun _ _ _ _ _ => True) (fun _ U o U' => ∃ v L, o = .returned v ∧ Q1 Z p0 p1 h0 n0 v U'.heap L ∧ FrameEnd U o U' L ({ frames := 0, cells := 0, slots := 0, locals := 0 } : Room).cells ({ frames := 0, cells := 0, slots := 0, locals := 0 } : Room).slots) := by
  refine MetFree.of_bodySF (plainFor_of_name pn_1) hisR ?_
  intro p e s m args below meth c s₁ Bd hml0 hP hK
  obtain ⟨rfl, hZ, hh⟩ := hP
  have hx := Bd.exec
  have hlk : meth.locks = false := BodyLoose.notSynchronized Bd
  have hby := Bd.bytes
  have hml : c.maxLocals = 2 := hml0
  have hown : s.vm.findClass "com/example/lading/lading/packaging/ChecksumAlgorithmNamedPinLaw" = some m.cls := findClass_of_methodNamed Bd.named
  have hnm := (name_of_methodNamed Bd.named Bd.method).1
  have X0 : Stand p l e ({ frames := 0, cells := 0, slots := 0, locals := 0 } : Room) s m #[(.int p0), (.int p1)] below meth c s₁ [] 0 0 := Stand.of_body Bd
  have e0 : s₁.heap = h0 := by rw [← hh, Bd.state]; rfl
  have N0 := Fr.nil n0
  refine own_go (A' := (s₁.setTop (mkF m 0 #[.val (.int p0), .val (.int p1)] []))) (fun t k => castTop (ef_1 m p0 p1) k) ?_
  refine own_go (A' := (s₁.setTop (mkF m 11 #[.val (.int p0), .val (.int p1)] [(.int ((((p0.toUInt32 >>> (((8 : Int32) * p1) &&& 31).toUInt32).toInt32) &&& (255 : Int32)).toUInt32.toUInt16.toUInt32.toInt32))]))) (fun t k => ?_) ?_
  · show Steps p.tables e below (s₁.setTop (mkF m 0 #[.val (.int p0), .val (.int p1)] [])) _
    refine XS.iloadN X0.here hx rfl (hb hby d1_0) rfl ?_
    show Steps p.tables e below (s₁.setTop (mkF m 1 #[.val (.int p0), .val (.int p1)] [(.int p0)])) _
    refine XS.bipush X0.here hx rfl (hb hby d1_1) ?_
    show Steps p.tables e below (s₁.setTop (mkF m 3 #[.val (.int p0), .val (.int p1)] [(.int (8 : Int32)), (.int p0)])) _
    refine XS.iloadN X0.here hx rfl (hb hby d1_3) rfl ?_
    show Steps p.tables e below (s₁.setTop (mkF m 4 #[.val (.int p0), .val (.int p1)] [(.int p1), (.int (8 : Int32)), (.int p0)])) _
    refine XS.imul X0.here hx rfl (hb hby d1_4) rfl ?_
    show Steps p.tables e below (s₁.setTop (mkF m 5 #[.val (.int p0), .val (.int p1)] [(.int ((8 : Int32) * p1)), (.int p0)])) _
    refine XS.iushr X0.here hx rfl (hb hby d1_5) rfl ?_
    show Steps p.tables e below (s₁.setTop (mkF m 6 #[.val (.int p0), .val (.int p1)] [(.int ((p0.toUInt32 >>> (((8 : Int32) * p1) &&& 31).toUInt32).toInt32))])) _
    refine XS.sipush X0.here hx rfl (hb hby d1_6) ?_
    show Steps p.tables e below (s₁.setTop (mkF m 9 #[.val (.int p0), .val (.int p1)] [(.int (255 : Int32)), (.int ((p0.toUInt32 >>> (((8 : Int32) * p1) &&& 31).toUInt32).toInt32))])) _
    refine XS.iand X0.here hx rfl (hb hby d1_9) rfl ?_
    show Steps p.tables e below (s₁.setTop (mkF m 10 #[.val (.int p0), .val (.int p1)] [(.int (((p0.toUInt32 >>> (((8 : Int32) * p1) &&& 31).toUInt32).toInt32) &&& (255 : Int32)))])) _
    refine XS.i2c X0.here hx rfl (hb hby d1_10) rfl ?_
    exact k
  obtain ⟨fs, hr, hrun, hended, hW, hsame⟩ := X0.leave (v := some (.int ((((p0.toUInt32 >>> (((8 : Int32) * p1) &&& 31).toUInt32).toInt32) &&& (255 : Int32)).toUInt32.toUInt16.toUInt32.toInt32))) (fun h => by rw [Bd.returns] at h; cases h) hlk
  refine ⟨_, _, ?_, hrun, hended, _, _, rfl, ?_, ⟨_, rfl⟩, hW, hsame.mono (by decide) (by decide)⟩
  · show Steps p.tables e below (s₁.setTop (mkF m 11 #[.val (.int p0), .val (.int p1)] [(.int ((((p0.toUInt32 >>> (((8 : Int32) * p1) &&& 31).toUInt32).toInt32) &&& (255 : Int32)).toUInt32.toUInt16.toUInt32.toInt32))])) _
    exact retOut (w := (.int ((((p0.toUInt32 >>> (((8 : Int32) * p1) &&& 31).toUInt32).toInt32) &&& (255 : Int32)).toUInt32.toUInt16.toUInt32.toInt32))) X0 hx Bd.returns (congrArg Value.int (own_nn _)) (Or.inl ⟨rfl, by simp, _, rfl⟩) (hb hby d1_11) hr
  · show Q1 Z p0 p1 h0 n0 _ s₁.heap _
    exact ⟨rfl, N0, e0⟩
theorem d4_0 : decode jdk_42_method_149_code 0 = .ok (.aload_n 0, 1) := by decide +kernel
theorem d4_1 : decode jdk_42_method_149_code 1 = .ok (.invokespecial 1, 3) := by decide +kernel
theorem d4_4 : decode jdk_42_method_149_code 4 = .ok (.iload_n 3, 1) := by decide +kernel
theorem d4_5 : decode jdk_42_method_149_code 5 = .ok (.ifCond .ne 22, 3) := by decide +kernel
theorem d4_8 : decode jdk_42_method_149_code 8 = .ok (.aload_n 0, 1) := by decide +kernel
theorem d4_9 : decode jdk_42_method_149_code 9 = .ok (.ldc 7, 2) := by decide +kernel
theorem d4_11 : decode jdk_42_method_149_code 11 = .ok (.getfield 9, 3) := by decide +kernel
theorem d4_14 : decode jdk_42_method_149_code 14 = .ok (.putfield 9, 3) := by decide +kernel
theorem d4_17 : decode jdk_42_method_149_code 17 = .ok (.aload_n 0, 1) := by decide +kernel
theorem d4_18 : decode jdk_42_method_149_code 18 = .ok (.ldc 7, 2) := by decide +kernel
theorem d4_20 : decode jdk_42_method_149_code 20 = .ok (.getfield 15, 3) := by decide +kernel
theorem d4_23 : decode jdk_42_method_149_code 23 = .ok (.putfield 15, 3) := by decide +kernel
theorem d4_26 : decode jdk_42_method_149_code 26 = .ok (.return_, 1) := by decide +kernel
theorem pn_4 : plainName "java/lang/String" = true := by first | (simp [plainName, overriddenIn]; done) | decide +kernel
theorem ef_4e (m : MethodId) (r0 : Addr) (r1 : Addr) (p2 : Int32) (p3 : Int32) : entryFrame m #[(.ref r0), (.ref r1), (.int p2), (.int p3), .null] 6 = mkF m 0 #[.val (.ref r0), .val (.ref r1), .val (.int p2), .val (.int p3), .val .null, .unset] [] := by first | (simp [entryFrame, mkF, argsToLocals, Value.category]; done) | rfl
def Q4e (Z : State) (r0 : Addr) (r1 : Addr) (p2 : Int32) (p3 : Int32)  (h0 : Heap) (n0 : Nat) (v : Option Value) (h : Heap) (L : List Loc) : Prop := v = none ∧ Fr n0 L ∧ Keep h0 h [r0] ∧ Exa Z h r0 "java/lang/String" ∧ Fld Z h r0 "java/lang/String" "coder" "B" (.int 0) ∧ ∃ (t : Addr) (kb : ClassId), Fld Z h r0 "java/lang/String" "value" "[B" (.ref t) ∧ Arv Z h t kb .byte (0 : Int32) [] (.int 0)
set_option maxRecDepth 65536 in
set_option maxHeartbeats 40000000 in
theorem rm4e (l : Launch) (Z : State) (a0 : Array Value) (hw : ∀ d ∈ tables_1, d.before a0 Z = true) (ws : List Jvm.Cond) (r0 : Addr) (r1 : Addr) (p2 : Int32) (p3 : Int32)  (h0 : Heap) (n0 : Nat) (Z0 : n0 ≤ h0.size) (E0_r0 : Exa Z h0 r0 "java/lang/String") (F0_value : Fld Z h0 r0 "java/lang/String" "value" "[B" .null) (F0_coder : Fld Z h0 r0 "java/lang/String" "coder" "B" (.int (0 : Int32))) (g_r0 : n0 ≤ r0) (hp3 : p3 = (0 : Int32)) :
    MetFree l (⟨"java/lang/String", "<init>", "([CIILjava/lang/Void;)V"⟩ : MethodName) (head1 (Jvm.Cond.code (⟨"java/lang/String", "<init>", "([CIILjava/lang/Void;)V"⟩ : MethodName) jdk_42_method_149_code 6 none :: ws) ({ frames := 1, cells := 4, slots := 8, locals := 12 } : Room)) (fun a U => a = #[(.ref r0), (.ref r1), (.int p2), (.int p3), .null] ∧ Z.Warmed39 U.vm ∧ U.heap = h0 ∧ CHv Z consts_1 U.vm h0) (fun _ _ _ _ _ => True) (fun _ U o U' => ∃ v L, o = .returned v ∧ Q4e Z r0 r1 p2 p3 h0 n0 v U'.heap L ∧ CHr Z consts_1 U.vm U.heap U'.vm U'.heap ∧ ReturnedEndW U o U' L ({ frames := 1, cells := 4, slots := 8, locals := 12 } : Room).cells ({ frames := 1, cells := 4, slots := 8, locals := 12 } : Room).slots) := by
  refine MetFree.of_bodySF (plainFor_of_name pn_4) hisR ?_
  intro p e s m args below meth c s₁ Bd hml0 hP hK
  obtain ⟨rfl, hZ, hh, hC0⟩ := hP
  have hx := Bd.exec
  have hlk : meth.locks = false := BodyLoose.notSynchronized Bd
  have hby := Bd.bytes
  have hml : c.maxLocals = 6 := hml0
  have hown : s.vm.findClass "java/lang/String" = some m.cls := findClass_of_methodNamed Bd.named
  have hnm := (name_of_methodNamed Bd.named Bd.method).1
  have X0 : Stand p l e ({ frames := 1, cells := 4, slots := 8, locals := 12 } : Room) (s.setVm s.vm) m #[(.ref r0), (.ref r1), (.int p2), (.int p3), .null] below meth c s₁ [] 0 0 := Stand.of_body Bd
  have e0 : s₁.heap = h0 := by rw [← hh, Bd.state]; rfl
  have N0 := Fr.nil n0
  have hEL := own_EL hw
  have wS := own_wS hw
  have hS0 : s.Since s.vm h0.size := (State.WarmedH.refl s).since _
  have hk0 : h0.size ≤ h0.size := Nat.le_refl _
  have Cx0 : CHr Z consts_1 s.vm h0 s.vm h0 := CHr.refl hC0
  refine own_go (A' := (s₁.setTop (mkF m 0 #[.val (.ref r0), .val (.ref r1), .val (.int p2), .val (.int p3), .val .null, .unset] []))) (fun t k => castTop (ef_4e m r0 r1 p2 p3) k) ?_
  have Sf0 : Safe Z consts_1 s.vm h0 r0 := own_safe_null hZ.alike E0_r0 F0_value
  obtain ⟨T2, X2, e2, st2⟩ := initO X0 hx hZ hown (hw _ (List.mem_of_getElem? (i := 18) rfl)) (hw _ (List.mem_of_getElem? (i := 19) rfl)) (hw _ (List.mem_of_getElem? (i := 20) rfl)) e0 (g := (mkF m 1 #[.val (.ref r0), .val (.ref r1), .val (.int p2), .val (.int p3), .val .null, .unset] [(.ref r0)])) rfl (by rw [hml]; rfl) rfl (hb hby d4_1) (by decide) (W := 0) (by show 2 * 0 + _ ≤ _; exact Nat.le_of_eq rfl) (by decide)
  refine own_go (A' := (T2.setTop (mkF m 5 #[.val (.ref r0), .val (.ref r1), .val (.int p2), .val (.int p3), .val .null, .unset] [(.int p3)]))) (fun t k => ?_) ?_
  · show Steps p.tables e below (s₁.setTop (mkF m 0 #[.val (.ref r0), .val (.ref r1), .val (.int p2), .val (.int p3), .val .null, .unset] [])) _
    refine XS.aloadN X0.here hx rfl (hb hby d4_0) rfl rfl ?_
    show Steps p.tables e below (s₁.setTop (mkF m 1 #[.val (.ref r0), .val (.ref r1), .val (.int p2), .val (.int p3), .val .null, .unset] [(.ref r0)])) _
    refine st2 _ ?_
    show Steps p.tables e below (T2.setTop (mkF m 4 #[.val (.ref r0), .val (.ref r1), .val (.int p2), .val (.int p3), .val .null, .unset] [])) _
    refine XS.iloadN X2.here hx rfl (hb hby d4_4) rfl ?_
    exact k
  refine own_go (A' := (T2.setTop (mkF m 8 #[.val (.ref r0), .val (.ref r1), .val (.int p2), .val (.int p3), .val .null, .unset] []))) (fun t k => XS.ifNo X2.here hx rfl (hb hby d4_5) rfl ((if0 _ _).trans (teq hp3).2) k) ?_
  obtain ⟨a3, T3, h3, kk3, b3, kc3, X3, e3, E3, hS3, hk3, hZ3, hown3, A3, Cd3, Vl3, V3, la3, lb3, Cr3, Lt3, ns3, st3⟩ := ldcCH X2 hx hZ hown (hw _ (List.mem_of_getElem? (i := 83) rfl)) wS e2 hS0 hk0 hEL (List.mem_of_getElem? (i := 2) rfl) Cx0.1 (vs := []) (z := (0 : Int32)) ⟨by decide +kernel, by decide +kernel⟩ (by decide) (by decide) (g := (mkF m 9 #[.val (.ref r0), .val (.ref r1), .val (.int p2), .val (.int p3), .val .null, .unset] [(.ref r0)])) rfl (hb hby d4_9) (n := 0) (by decide +kernel) (by decide) (by decide) (by decide)
  have Cx3 := Cx0.trans Cr3
  have K3 : Keep h0 h3 [r0] := (Keep.refl h0 [r0]).ext E3
  obtain ⟨T4, X4, e4, st4⟩ := getF X3 hx hZ3 hown3 (host := "") (Or.inl (hw _ (List.mem_of_getElem? (i := 35) rfl))) Via.refl e3 Vl3 (g := (mkF m 11 #[.val (.ref r0), .val (.ref r1), .val (.int p2), .val (.int p3), .val .null, .unset] [(.ref a3), (.ref r0)])) rfl rfl (hb hby d4_11)
  obtain ⟨T5, h5, X5, e5, W5, st5⟩ := putF X4 hx hZ3 hown3 (host := "") (Or.inl (hw _ (List.mem_of_getElem? (i := 35) rfl))) Via.refl e4 (F0_value.ext E3) (E0_r0.ext E3) (Or.inr ⟨(hw _ (List.mem_of_getElem? (i := 36) rfl)), rfl, hnm⟩) (hw _ (List.mem_of_getElem? (i := 9) rfl)) (ty := (.array .byte)) (by decide) rfl rfl (g := (mkF m 14 #[.val (.ref r0), .val (.ref r1), .val (.int p2), .val (.int p3), .val .null, .unset] [(.ref b3), (.ref r0)])) rfl rfl (hb hby d4_14)
  have Sf5 : Safe Z consts_1 T3.vm h3 r0 := (CHr.safe Cr3 E0_r0.lt Sf0)
  have hk5 := Nat.le_trans hk3 (Keep.of_wr W5).1
  have Cx5 := Cx3.trans (CHr.wr W5 Sf5 Cx3.1)
  have K5 : Keep h0 h5 [r0] := K3.wr W5 (Or.inl (List.mem_of_getElem? (i := 0) rfl))
  have N5 := Fr.snoc X5 N0 g_r0
  obtain ⟨a6, T6, h6, kk6, b6, kc6, X6, e6, E6, hS6, hk6, hZ6, hown6, A6, Cd6, Vl6, V6, la6, lb6, Cr6, Lt6, ns6, st6⟩ := ldcCH X5 hx hZ3 hown3 (hw _ (List.mem_of_getElem? (i := 83) rfl)) wS e5 hS3 hk5 hEL (List.mem_of_getElem? (i := 2) rfl) Cx5.1 (vs := []) (z := (0 : Int32)) ⟨by decide +kernel, by decide +kernel⟩ (by decide) (by decide) (g := (mkF m 18 #[.val (.ref r0), .val (.ref r1), .val (.int p2), .val (.int p3), .val .null, .unset] [(.ref r0)])) rfl (hb hby d4_18) (n := 0) (by decide +kernel) (by decide) (by decide) (by decide)
  have Cx6 := Cx5.trans Cr6
  have K6 : Keep h0 h6 [r0] := K5.ext E6
  obtain ⟨T7, X7, e7, st7⟩ := getF X6 hx hZ6 hown6 (host := "") (Or.inl (hw _ (List.mem_of_getElem? (i := 33) rfl))) Via.refl e6 Cd6 (g := (mkF m 20 #[.val (.ref r0), .val (.ref r1), .val (.int p2), .val (.int p3), .val .null, .unset] [(.ref a6), (.ref r0)])) rfl rfl (hb hby d4_20)
  obtain ⟨T8, h8, X8, e8, W8, st8⟩ := putFN X7 hx hZ6 hown6 (hw _ (List.mem_of_getElem? (i := 33) rfl)) Via.refl e7 (((F0_coder.ext E3).other W5 (Or.inr (slot_ne (Or.inr (hw _ (List.mem_of_getElem? (i := 34) rfl))) (Or.inr (hw _ (List.mem_of_getElem? (i := 36) rfl))) (by decide) (t := .byte) (t' := (.array .byte)) (by decide) (by decide)))).ext E6) (((E0_r0.ext E3).wr W5).ext E6) (Or.inr ⟨(hw _ (List.mem_of_getElem? (i := 34) rfl)), rfl, hnm⟩) (hw _ (List.mem_of_getElem? (i := 9) rfl)) (ty := .byte) (v' := (.int (nar .byte (0 : Int32)))) (by decide) rfl (fits_nar_byte _) (g := (mkF m 23 #[.val (.ref r0), .val (.ref r1), .val (.int p2), .val (.int p3), .val .null, .unset] [(.int (0 : Int32)), (.ref r0)])) rfl rfl (hb hby d4_23)
  have Sf8 : Safe Z consts_1 T6.vm h6 r0 := (CHr.safe Cr6 ((E0_r0.ext E3).wr W5).lt (Safe.wr W5 Sf5 Cx3.1 (CHr.safe Cr3 E0_r0.lt Sf0)))
  have hk8 := Nat.le_trans hk6 (Keep.of_wr W8).1
  have Cx8 := Cx6.trans (CHr.wr W8 Sf8 Cx6.1)
  have K8 : Keep h0 h8 [r0] := K6.wr W8 (Or.inl (List.mem_of_getElem? (i := 0) rfl))
  have N8 := Fr.snoc X8 N5 g_r0
  refine own_go (A' := (T8.setTop (mkF m 26 #[.val (.ref r0), .val (.ref r1), .val (.int p2), .val (.int p3), .val .null, .unset] []))) (fun t k => ?_) ?_
  · show Steps p.tables e below (T2.setTop (mkF m 8 #[.val (.ref r0), .val (.ref r1), .val (.int p2), .val (.int p3), .val .null, .unset] [])) _
    refine XS.aloadN X2.here hx rfl (hb hby d4_8) rfl rfl ?_
    show Steps p.tables e below (T2.setTop (mkF m 9 #[.val (.ref r0), .val (.ref r1), .val (.int p2), .val (.int p3), .val .null, .unset] [(.ref r0)])) _
    refine st3 _ ?_
    show Steps p.tables e below (T3.setTop (mkF m 11 #[.val (.ref r0), .val (.ref r1), .val (.int p2), .val (.int p3), .val .null, .unset] [(.ref a3), (.ref r0)])) _
    refine st4 _ ?_
    show Steps p.tables e below (T4.setTop (mkF m 14 #[.val (.ref r0), .val (.ref r1), .val (.int p2), .val (.int p3), .val .null, .unset] [(.ref b3), (.ref r0)])) _
    refine st5 _ ?_
    show Steps p.tables e below (T5.setTop (mkF m 17 #[.val (.ref r0), .val (.ref r1), .val (.int p2), .val (.int p3), .val .null, .unset] [])) _
    refine XS.aloadN X5.here hx rfl (hb hby d4_17) rfl rfl ?_
    show Steps p.tables e below (T5.setTop (mkF m 18 #[.val (.ref r0), .val (.ref r1), .val (.int p2), .val (.int p3), .val .null, .unset] [(.ref r0)])) _
    refine st6 _ ?_
    show Steps p.tables e below (T6.setTop (mkF m 20 #[.val (.ref r0), .val (.ref r1), .val (.int p2), .val (.int p3), .val .null, .unset] [(.ref a6), (.ref r0)])) _
    refine st7 _ ?_
    show Steps p.tables e below (T7.setTop (mkF m 23 #[.val (.ref r0), .val (.ref r1), .val (.int p2), .val (.int p3), .val .null, .unset] [(.int (0 : Int32)), (.ref r0)])) _
    refine st8 _ ?_
    exact k
  obtain ⟨fs, hr, hrun, hended, hend⟩ := X8.leaveW (v := none) hS6 (by rw [e8]; exact hk8) (fun _ => rfl) hlk
  refine ⟨_, _, ?_, hrun, hended, _, _, rfl, ?_, ?_, ⟨_, rfl⟩, hend.2.1, hend.2.2.1, hend.2.2.2.mono (by decide) (by decide)⟩
  · show Steps p.tables e below (T8.setTop (mkF m 26 #[.val (.ref r0), .val (.ref r1), .val (.int p2), .val (.int p3), .val .null, .unset] [])) _
    exact X8.returnOut hx Bd.returns (hb hby d4_26) hr
  · show Q4e Z r0 r1 p2 p3 h0 n0 _ T8.heap _
    rw [e8]
    exact ⟨rfl, N8, K8, ((((E0_r0.ext E3).wr W5).ext E6).wr W8), ((((F0_coder.ext E3).other W5 (Or.inr (slot_ne (Or.inr (hw _ (List.mem_of_getElem? (i := 34) rfl))) (Or.inr (hw _ (List.mem_of_getElem? (i := 36) rfl))) (by decide) (t := .byte) (t' := (.array .byte)) (by decide) (by decide)))).ext E6).same W8), b3, _, ((((F0_value.ext E3).same W5).ext E6).other W8 (Or.inr (slot_ne (Or.inr (hw _ (List.mem_of_getElem? (i := 36) rfl))) (Or.inr (hw _ (List.mem_of_getElem? (i := 34) rfl))) (by decide) (t := (.array .byte)) (t' := .byte) (by decide) (by decide)))), (((V3.other W5 (Ne.symm (ns3 _ (CHr.safe Cr3 E0_r0.lt Sf0)).2)).ext E6).other W8 (Ne.symm (ns3 _ (CHr.safe Cr3 E0_r0.lt Sf0)).2))⟩
  · show CHr Z consts_1 s.vm s.heap T8.vm T8.heap
    rw [hh, e8]
    exact Cx8.trans (CHv.at X8 hZ6 hEL Cx8.1)
theorem pd_0 : parseMethodDescriptor "([CIILjava/lang/Void;)V" = some ⟨[(.array .char), .int, .int, (.object "java/lang/Void")], none⟩ := by decide +kernel
theorem d3_0 : decode jdk_42_method_3_code 0 = .ok (.aload_n 0, 1) := by decide +kernel
theorem d3_1 : decode jdk_42_method_3_code 1 = .ok (.aload_n 1, 1) := by decide +kernel
theorem d3_2 : decode jdk_42_method_3_code 2 = .ok (.iconst 0, 1) := by decide +kernel
theorem d3_3 : decode jdk_42_method_3_code 3 = .ok (.aload_n 1, 1) := by decide +kernel
theorem d3_4 : decode jdk_42_method_3_code 4 = .ok (.arraylength, 1) := by decide +kernel
theorem d3_5 : decode jdk_42_method_3_code 5 = .ok (.aconst_null, 1) := by decide +kernel
theorem d3_6 : decode jdk_42_method_3_code 6 = .ok (.invokespecial 27, 3) := by decide +kernel
theorem d3_9 : decode jdk_42_method_3_code 9 = .ok (.return_, 1) := by decide +kernel
theorem pn_3 : plainName "java/lang/String" = true := by first | (simp [plainName, overriddenIn]; done) | decide +kernel
theorem ef_3e (m : MethodId) (r0 : Addr) (r1 : Addr) : entryFrame m #[(.ref r0), (.ref r1)] 2 = mkF m 0 #[.val (.ref r0), .val (.ref r1)] [] := by first | (simp [entryFrame, mkF, argsToLocals, Value.category]; done) | rfl
def Q3e (Z : State) (r0 : Addr) (r1 : Addr) (kC : ClassId) (dC : Value) (h0 : Heap) (n0 : Nat) (v : Option Value) (h : Heap) (L : List Loc) : Prop := v = none ∧ Fr n0 L ∧ Keep h0 h [r0] ∧ Exa Z h r0 "java/lang/String" ∧ Fld Z h r0 "java/lang/String" "coder" "B" (.int 0) ∧ ∃ (t : Addr) (kb : ClassId), Fld Z h r0 "java/lang/String" "value" "[B" (.ref t) ∧ Arv Z h t kb .byte (0 : Int32) [] (.int 0)
set_option maxRecDepth 65536 in
set_option maxHeartbeats 40000000 in
theorem rm3e (l : Launch) (Z : State) (a0 : Array Value) (hw : ∀ d ∈ tables_1, d.before a0 Z = true) (ws : List Jvm.Cond) (r0 : Addr) (r1 : Addr) (kC : ClassId) (dC : Value) (h0 : Heap) (n0 : Nat) (Z0 : n0 ≤ h0.size) (E0_r0 : Exa Z h0 r0 "java/lang/String") (F0_value : Fld Z h0 r0 "java/lang/String" "value" "[B" .null) (F0_coder : Fld Z h0 r0 "java/lang/String" "coder" "B" (.int (0 : Int32))) (g_r0 : n0 ≤ r0) (V_r1 : Arv Z h0 r1 kC .char (0 : Int32) [] dC) :
    MetFree l (⟨"java/lang/String", "<init>", "([C)V"⟩ : MethodName) (head1 (Jvm.Cond.code (⟨"java/lang/String", "<init>", "([C)V"⟩ : MethodName) jdk_42_method_3_code 2 none :: ws) ({ frames := 2, cells := 4, slots := 8, locals := 29 } : Room)) (fun a U => a = #[(.ref r0), (.ref r1)] ∧ Z.Warmed39 U.vm ∧ U.heap = h0 ∧ CHv Z consts_1 U.vm h0) (fun _ _ _ _ _ => True) (fun _ U o U' => ∃ v L, o = .returned v ∧ Q3e Z r0 r1 kC dC h0 n0 v U'.heap L ∧ CHr Z consts_1 U.vm U.heap U'.vm U'.heap ∧ ReturnedEndW U o U' L ({ frames := 2, cells := 4, slots := 8, locals := 29 } : Room).cells ({ frames := 2, cells := 4, slots := 8, locals := 29 } : Room).slots) := by
  refine MetFree.of_bodySF (plainFor_of_name pn_3) hisR ?_
  intro p e s m args below meth c s₁ Bd hml0 hP hK
  obtain ⟨rfl, hZ, hh, hC0⟩ := hP
  have hx := Bd.exec
  have hlk : meth.locks = false := BodyLoose.notSynchronized Bd
  have hby := Bd.bytes
  have hml : c.maxLocals = 2 := hml0
  have hown : s.vm.findClass "java/lang/String" = some m.cls := findClass_of_methodNamed Bd.named
  have hnm := (name_of_methodNamed Bd.named Bd.method).1
  have X0 : Stand p l e ({ frames := 2, cells := 4, slots := 8, locals := 29 } : Room) (s.setVm s.vm) m #[(.ref r0), (.ref r1)] below meth c s₁ [] 0 0 := Stand.of_body Bd
  have e0 : s₁.heap = h0 := by rw [← hh, Bd.state]; rfl
  have N0 := Fr.nil n0
  have hEL := own_EL hw
  have wS := own_wS hw
  have hS0 : s.Since s.vm h0.size := (State.WarmedH.refl s).since _
  have hk0 : h0.size ≤ h0.size := Nat.le_refl _
  have Cx0 : CHr Z consts_1 s.vm h0 s.vm h0 := CHr.refl hC0
  refine own_go (A' := (s₁.setTop (mkF m 0 #[.val (.ref r0), .val (.ref r1)] []))) (fun t k => castTop (ef_3e m r0 r1) k) ?_
  have Sf0 : Safe Z consts_1 s.vm h0 r0 := own_safe_null hZ.alike E0_r0 F0_value
  obtain ⟨cl9, Ar9, q9, S9, N9, H9, G9⟩ := id V_r1
  obtain ⟨_, _, ⟨T10, L10, k10, n10⟩, -, Xs10, hSs10, gl10, ⟨Lc10, hQ10, l10, y10, z10, Cr10⟩, st10⟩ := X0.specialBackS hx (y := (⟨"java/lang/String", "<init>", "([CIILjava/lang/Void;)V"⟩ : MethodName)) rfl hown (mvT hZ (hw _ (List.mem_of_getElem? (i := 14) rfl))) (mvT hZ (hw _ (List.mem_of_getElem? (i := 15) rfl))) (mvT hZ (hw _ (List.mem_of_getElem? (i := 17) rfl))) (by decide) (backOfSH (W := 0) (rm4e l Z a0 hw [] r0 r1 (0 : Int32) (0 : Int32)  h0 n0 Z0 E0_r0 F0_value F0_coder g_r0 rfl) hZ (hw _ (List.mem_of_getElem? (i := 17) rfl)) (hw _ (List.mem_of_getElem? (i := 10) rfl)) (by decide) (by decide) hEL Cx0.1) (g := (mkF m 6 #[.val (.ref r0), .val (.ref r1)] [.null, (.int (0 : Int32)), (.int (0 : Int32)), (.ref r1), (.ref r0)])) rfl (by rw [hml]; rfl) (Steps.refl _) (a := r0) (argsL := [(.ref r1), (.int (0 : Int32)), (.int (0 : Int32)), .null]) (rest := []) (lenOf pd_0 rfl) rfl (by show 2 * 0 + _ ≤ _; exact Nat.le_of_eq rfl) (hb hby d3_6) (fun _ _ => ⟨rfl, e0, (by decide : 0 + 4 ≤ _), (by decide : 0 + 8 ≤ _)⟩)
  dsimp only [Pt.U, Pt.locs, Pt.cells, Pt.slots] at Xs10 hSs10 gl10 Cr10 l10 y10 z10 st10 hQ10
  subst l10 y10 z10
  obtain ⟨X10, hS10, hZ10, hown10⟩ := rebS (n1 := s₁.heap.size) hS0 (by rw [e0]; exact hk0) Xs10 hSs10 gl10 hZ hown
  have hk10 : T10.heap.size ≤ T10.heap.size := Nat.le_refl _
  have Cx10 := Cx0.trans Cr10
  obtain ⟨rfl, N10q, K10q, E10q, C10q, t10, kb10, V10q, A10q⟩ := hQ10
  have N10 := Fr.app N0 N10q
  have K10 : Keep h0 T10.heap [r0] := (Keep.refl h0 [r0]).trans K10q (allS (Or.inl (List.mem_of_getElem? (i := 0) rfl)) all0)
  refine own_go (A' := (T10.setTop (mkF m 9 #[.val (.ref r0), .val (.ref r1)] []))) (fun t k => ?_) ?_
  · show Steps p.tables e below (s₁.setTop (mkF m 0 #[.val (.ref r0), .val (.ref r1)] [])) _
    refine XS.aloadN X0.here hx rfl (hb hby d3_0) rfl rfl ?_
    show Steps p.tables e below (s₁.setTop (mkF m 1 #[.val (.ref r0), .val (.ref r1)] [(.ref r0)])) _
    refine XS.aloadN X0.here hx rfl (hb hby d3_1) rfl rfl ?_
    show Steps p.tables e below (s₁.setTop (mkF m 2 #[.val (.ref r0), .val (.ref r1)] [(.ref r1), (.ref r0)])) _
    refine XS.iconst X0.here hx rfl (hb hby d3_2) ?_
    show Steps p.tables e below (s₁.setTop (mkF m 3 #[.val (.ref r0), .val (.ref r1)] [(.int (0 : Int32)), (.ref r1), (.ref r0)])) _
    refine XS.aloadN X0.here hx rfl (hb hby d3_3) rfl rfl ?_
    show Steps p.tables e below (s₁.setTop (mkF m 4 #[.val (.ref r0), .val (.ref r1)] [(.ref r1), (.int (0 : Int32)), (.ref r1), (.ref r0)])) _
    refine X0.arraylength hx (by rw [e0]; exact Ar9.1) (State.isArrayOf_alike hZ.alike Ar9.2.1) (g := (mkF m 4 #[.val (.ref r0), .val (.ref r1)] [(.ref r1), (.int (0 : Int32)), (.ref r1), (.ref r0)])) rfl rfl (hb hby d3_4) _ ?_
    rw [len_of S9 N9]
    show Steps p.tables e below (s₁.setTop (mkF m 5 #[.val (.ref r0), .val (.ref r1)] [(.int (0 : Int32)), (.int (0 : Int32)), (.ref r1), (.ref r0)])) _
    refine XS.aconstNull X0.here hx rfl (hb hby d3_5) ?_
    show Steps p.tables e below (s₁.setTop (mkF m 6 #[.val (.ref r0), .val (.ref r1)] [.null, (.int (0 : Int32)), (.int (0 : Int32)), (.ref r1), (.ref r0)])) _
    refine st10.trans ?_
    exact k
  obtain ⟨fs, hr, hrun, hended, hend⟩ := X10.leaveW (v := none) hS10 hk10 (fun _ => rfl) hlk
  refine ⟨_, _, ?_, hrun, hended, _, _, rfl, ?_, ?_, ⟨_, rfl⟩, hend.2.1, hend.2.2.1, hend.2.2.2.mono (by decide) (by decide)⟩
  · show Steps p.tables e below (T10.setTop (mkF m 9 #[.val (.ref r0), .val (.ref r1)] [])) _
    exact X10.returnOut hx Bd.returns (hb hby d3_9) hr
  · show Q3e Z r0 r1 kC dC h0 n0 _ T10.heap _
    exact ⟨rfl, N10, K10, E10q, C10q, t10, _, V10q, A10q⟩
  · show CHr Z consts_1 s.vm s.heap T10.vm T10.heap
    rw [hh]
    exact Cx10.trans (CHv.at X10 hZ10 hEL Cx10.1)
theorem pd_1 : parseMethodDescriptor "([C)V" = some ⟨[(.array .char)], none⟩ := by decide +kernel
theorem d2_0 : decode method_3_code 0 = .ok (.iload_n 1, 1) := by decide +kernel
theorem d2_1 : decode method_3_code 1 = .ok (.ifCond .gt 14, 3) := by decide +kernel
theorem d2_4 : decode method_3_code 4 = .ok (.new 7, 3) := by decide +kernel
theorem d2_7 : decode method_3_code 7 = .ok (.dup, 1) := by decide +kernel
theorem d2_8 : decode method_3_code 8 = .ok (.iconst 0, 1) := by decide +kernel
theorem d2_9 : decode method_3_code 9 = .ok (.newarray .char, 2) := by decide +kernel
theorem d2_11 : decode method_3_code 11 = .ok (.invokespecial 9, 3) := by decide +kernel
theorem d2_14 : decode method_3_code 14 = .ok (.areturn, 1) := by decide +kernel
theorem d2_15 : decode method_3_code 15 = .ok (.iload_n 1, 1) := by decide +kernel
theorem d2_16 : decode method_3_code 16 = .ok (.iconst 1, 1) := by decide +kernel
theorem d2_17 : decode method_3_code 17 = .ok (.if_icmp .ne 20, 3) := by decide +kernel
theorem d2_20 : decode method_3_code 20 = .ok (.new 7, 3) := by decide +kernel
theorem d2_23 : decode method_3_code 23 = .ok (.dup, 1) := by decide +kernel
theorem d2_24 : decode method_3_code 24 = .ok (.iconst 1, 1) := by decide +kernel
theorem d2_25 : decode method_3_code 25 = .ok (.newarray .char, 2) := by decide +kernel
theorem d2_27 : decode method_3_code 27 = .ok (.dup, 1) := by decide +kernel
theorem d2_28 : decode method_3_code 28 = .ok (.iconst 0, 1) := by decide +kernel
theorem d2_29 : decode method_3_code 29 = .ok (.aload_n 0, 1) := by decide +kernel
theorem d2_30 : decode method_3_code 30 = .ok (.iconst 0, 1) := by decide +kernel
theorem d2_31 : decode method_3_code 31 = .ok (.caload, 1) := by decide +kernel
theorem d2_32 : decode method_3_code 32 = .ok (.castore, 1) := by decide +kernel
theorem d2_33 : decode method_3_code 33 = .ok (.invokespecial 9, 3) := by decide +kernel
theorem d2_36 : decode method_3_code 36 = .ok (.areturn, 1) := by decide +kernel
theorem d2_37 : decode method_3_code 37 = .ok (.iload_n 1, 1) := by decide +kernel
theorem d2_38 : decode method_3_code 38 = .ok (.iconst 2, 1) := by decide +kernel
theorem d2_39 : decode method_3_code 39 = .ok (.if_icmp .ne 26, 3) := by decide +kernel
theorem d2_42 : decode method_3_code 42 = .ok (.new 7, 3) := by decide +kernel
theorem d2_45 : decode method_3_code 45 = .ok (.dup, 1) := by decide +kernel
theorem d2_46 : decode method_3_code 46 = .ok (.iconst 2, 1) := by decide +kernel
theorem d2_47 : decode method_3_code 47 = .ok (.newarray .char, 2) := by decide +kernel
theorem d2_49 : decode method_3_code 49 = .ok (.dup, 1) := by decide +kernel
theorem d2_50 : decode method_3_code 50 = .ok (.iconst 0, 1) := by decide +kernel
theorem d2_51 : decode method_3_code 51 = .ok (.aload_n 0, 1) := by decide +kernel
theorem d2_52 : decode method_3_code 52 = .ok (.iconst 0, 1) := by decide +kernel
theorem d2_53 : decode method_3_code 53 = .ok (.caload, 1) := by decide +kernel
theorem d2_54 : decode method_3_code 54 = .ok (.castore, 1) := by decide +kernel
theorem d2_55 : decode method_3_code 55 = .ok (.dup, 1) := by decide +kernel
theorem d2_56 : decode method_3_code 56 = .ok (.iconst 1, 1) := by decide +kernel
theorem d2_57 : decode method_3_code 57 = .ok (.aload_n 0, 1) := by decide +kernel
theorem d2_58 : decode method_3_code 58 = .ok (.iconst 1, 1) := by decide +kernel
theorem d2_59 : decode method_3_code 59 = .ok (.caload, 1) := by decide +kernel
theorem d2_60 : decode method_3_code 60 = .ok (.castore, 1) := by decide +kernel
theorem d2_61 : decode method_3_code 61 = .ok (.invokespecial 9, 3) := by decide +kernel
theorem d2_64 : decode method_3_code 64 = .ok (.areturn, 1) := by decide +kernel
theorem d2_65 : decode method_3_code 65 = .ok (.iload_n 1, 1) := by decide +kernel
theorem d2_66 : decode method_3_code 66 = .ok (.iconst 3, 1) := by decide +kernel
theorem d2_67 : decode method_3_code 67 = .ok (.if_icmp .ne 32, 3) := by decide +kernel
theorem d2_70 : decode method_3_code 70 = .ok (.new 7, 3) := by decide +kernel
theorem d2_73 : decode method_3_code 73 = .ok (.dup, 1) := by decide +kernel
theorem d2_74 : decode method_3_code 74 = .ok (.iconst 3, 1) := by decide +kernel
theorem d2_75 : decode method_3_code 75 = .ok (.newarray .char, 2) := by decide +kernel
theorem d2_77 : decode method_3_code 77 = .ok (.dup, 1) := by decide +kernel
theorem d2_78 : decode method_3_code 78 = .ok (.iconst 0, 1) := by decide +kernel
theorem d2_79 : decode method_3_code 79 = .ok (.aload_n 0, 1) := by decide +kernel
theorem d2_80 : decode method_3_code 80 = .ok (.iconst 0, 1) := by decide +kernel
theorem d2_81 : decode method_3_code 81 = .ok (.caload, 1) := by decide +kernel
theorem d2_82 : decode method_3_code 82 = .ok (.castore, 1) := by decide +kernel
theorem d2_83 : decode method_3_code 83 = .ok (.dup, 1) := by decide +kernel
theorem d2_84 : decode method_3_code 84 = .ok (.iconst 1, 1) := by decide +kernel
theorem d2_85 : decode method_3_code 85 = .ok (.aload_n 0, 1) := by decide +kernel
theorem d2_86 : decode method_3_code 86 = .ok (.iconst 1, 1) := by decide +kernel
theorem d2_87 : decode method_3_code 87 = .ok (.caload, 1) := by decide +kernel
theorem d2_88 : decode method_3_code 88 = .ok (.castore, 1) := by decide +kernel
theorem d2_89 : decode method_3_code 89 = .ok (.dup, 1) := by decide +kernel
theorem d2_90 : decode method_3_code 90 = .ok (.iconst 2, 1) := by decide +kernel
theorem d2_91 : decode method_3_code 91 = .ok (.aload_n 0, 1) := by decide +kernel
theorem d2_92 : decode method_3_code 92 = .ok (.iconst 2, 1) := by decide +kernel
theorem d2_93 : decode method_3_code 93 = .ok (.caload, 1) := by decide +kernel
theorem d2_94 : decode method_3_code 94 = .ok (.castore, 1) := by decide +kernel
theorem d2_95 : decode method_3_code 95 = .ok (.invokespecial 9, 3) := by decide +kernel
theorem d2_98 : decode method_3_code 98 = .ok (.areturn, 1) := by decide +kernel
theorem d2_99 : decode method_3_code 99 = .ok (.iload_n 1, 1) := by decide +kernel
theorem d2_100 : decode method_3_code 100 = .ok (.iconst 4, 1) := by decide +kernel
theorem d2_101 : decode method_3_code 101 = .ok (.if_icmp .ne 38, 3) := by decide +kernel
theorem d2_104 : decode method_3_code 104 = .ok (.new 7, 3) := by decide +kernel
theorem d2_107 : decode method_3_code 107 = .ok (.dup, 1) := by decide +kernel
theorem d2_108 : decode method_3_code 108 = .ok (.iconst 4, 1) := by decide +kernel
theorem d2_109 : decode method_3_code 109 = .ok (.newarray .char, 2) := by decide +kernel
theorem d2_111 : decode method_3_code 111 = .ok (.dup, 1) := by decide +kernel
theorem d2_112 : decode method_3_code 112 = .ok (.iconst 0, 1) := by decide +kernel
theorem d2_113 : decode method_3_code 113 = .ok (.aload_n 0, 1) := by decide +kernel
theorem d2_114 : decode method_3_code 114 = .ok (.iconst 0, 1) := by decide +kernel
theorem d2_115 : decode method_3_code 115 = .ok (.caload, 1) := by decide +kernel
theorem d2_116 : decode method_3_code 116 = .ok (.castore, 1) := by decide +kernel
theorem d2_117 : decode method_3_code 117 = .ok (.dup, 1) := by decide +kernel
theorem d2_118 : decode method_3_code 118 = .ok (.iconst 1, 1) := by decide +kernel
theorem d2_119 : decode method_3_code 119 = .ok (.aload_n 0, 1) := by decide +kernel
theorem d2_120 : decode method_3_code 120 = .ok (.iconst 1, 1) := by decide +kernel
theorem d2_121 : decode method_3_code 121 = .ok (.caload, 1) := by decide +kernel
theorem d2_122 : decode method_3_code 122 = .ok (.castore, 1) := by decide +kernel
theorem d2_123 : decode method_3_code 123 = .ok (.dup, 1) := by decide +kernel
theorem d2_124 : decode method_3_code 124 = .ok (.iconst 2, 1) := by decide +kernel
theorem d2_125 : decode method_3_code 125 = .ok (.aload_n 0, 1) := by decide +kernel
theorem d2_126 : decode method_3_code 126 = .ok (.iconst 2, 1) := by decide +kernel
theorem d2_127 : decode method_3_code 127 = .ok (.caload, 1) := by decide +kernel
theorem d2_128 : decode method_3_code 128 = .ok (.castore, 1) := by decide +kernel
theorem d2_129 : decode method_3_code 129 = .ok (.dup, 1) := by decide +kernel
theorem d2_130 : decode method_3_code 130 = .ok (.iconst 3, 1) := by decide +kernel
theorem d2_131 : decode method_3_code 131 = .ok (.aload_n 0, 1) := by decide +kernel
theorem d2_132 : decode method_3_code 132 = .ok (.iconst 3, 1) := by decide +kernel
theorem d2_133 : decode method_3_code 133 = .ok (.caload, 1) := by decide +kernel
theorem d2_134 : decode method_3_code 134 = .ok (.castore, 1) := by decide +kernel
theorem d2_135 : decode method_3_code 135 = .ok (.invokespecial 9, 3) := by decide +kernel
theorem d2_138 : decode method_3_code 138 = .ok (.areturn, 1) := by decide +kernel
theorem d2_139 : decode method_3_code 139 = .ok (.iload_n 1, 1) := by decide +kernel
theorem d2_140 : decode method_3_code 140 = .ok (.iconst 5, 1) := by decide +kernel
theorem d2_141 : decode method_3_code 141 = .ok (.if_icmp .ne 44, 3) := by decide +kernel
theorem d2_144 : decode method_3_code 144 = .ok (.new 7, 3) := by decide +kernel
theorem d2_147 : decode method_3_code 147 = .ok (.dup, 1) := by decide +kernel
theorem d2_148 : decode method_3_code 148 = .ok (.iconst 5, 1) := by decide +kernel
theorem d2_149 : decode method_3_code 149 = .ok (.newarray .char, 2) := by decide +kernel
theorem d2_151 : decode method_3_code 151 = .ok (.dup, 1) := by decide +kernel
theorem d2_152 : decode method_3_code 152 = .ok (.iconst 0, 1) := by decide +kernel
theorem d2_153 : decode method_3_code 153 = .ok (.aload_n 0, 1) := by decide +kernel
theorem d2_154 : decode method_3_code 154 = .ok (.iconst 0, 1) := by decide +kernel
theorem d2_155 : decode method_3_code 155 = .ok (.caload, 1) := by decide +kernel
theorem d2_156 : decode method_3_code 156 = .ok (.castore, 1) := by decide +kernel
theorem d2_157 : decode method_3_code 157 = .ok (.dup, 1) := by decide +kernel
theorem d2_158 : decode method_3_code 158 = .ok (.iconst 1, 1) := by decide +kernel
theorem d2_159 : decode method_3_code 159 = .ok (.aload_n 0, 1) := by decide +kernel
theorem d2_160 : decode method_3_code 160 = .ok (.iconst 1, 1) := by decide +kernel
theorem d2_161 : decode method_3_code 161 = .ok (.caload, 1) := by decide +kernel
theorem d2_162 : decode method_3_code 162 = .ok (.castore, 1) := by decide +kernel
theorem d2_163 : decode method_3_code 163 = .ok (.dup, 1) := by decide +kernel
theorem d2_164 : decode method_3_code 164 = .ok (.iconst 2, 1) := by decide +kernel
theorem d2_165 : decode method_3_code 165 = .ok (.aload_n 0, 1) := by decide +kernel
theorem d2_166 : decode method_3_code 166 = .ok (.iconst 2, 1) := by decide +kernel
theorem d2_167 : decode method_3_code 167 = .ok (.caload, 1) := by decide +kernel
theorem d2_168 : decode method_3_code 168 = .ok (.castore, 1) := by decide +kernel
theorem d2_169 : decode method_3_code 169 = .ok (.dup, 1) := by decide +kernel
theorem d2_170 : decode method_3_code 170 = .ok (.iconst 3, 1) := by decide +kernel
theorem d2_171 : decode method_3_code 171 = .ok (.aload_n 0, 1) := by decide +kernel
theorem d2_172 : decode method_3_code 172 = .ok (.iconst 3, 1) := by decide +kernel
theorem d2_173 : decode method_3_code 173 = .ok (.caload, 1) := by decide +kernel
theorem d2_174 : decode method_3_code 174 = .ok (.castore, 1) := by decide +kernel
theorem d2_175 : decode method_3_code 175 = .ok (.dup, 1) := by decide +kernel
theorem d2_176 : decode method_3_code 176 = .ok (.iconst 4, 1) := by decide +kernel
theorem d2_177 : decode method_3_code 177 = .ok (.aload_n 0, 1) := by decide +kernel
theorem d2_178 : decode method_3_code 178 = .ok (.iconst 4, 1) := by decide +kernel
theorem d2_179 : decode method_3_code 179 = .ok (.caload, 1) := by decide +kernel
theorem d2_180 : decode method_3_code 180 = .ok (.castore, 1) := by decide +kernel
theorem d2_181 : decode method_3_code 181 = .ok (.invokespecial 9, 3) := by decide +kernel
theorem d2_184 : decode method_3_code 184 = .ok (.areturn, 1) := by decide +kernel
theorem d2_185 : decode method_3_code 185 = .ok (.iload_n 1, 1) := by decide +kernel
theorem d2_186 : decode method_3_code 186 = .ok (.bipush 6, 2) := by decide +kernel
theorem d2_188 : decode method_3_code 188 = .ok (.if_icmp .ne 51, 3) := by decide +kernel
theorem d2_191 : decode method_3_code 191 = .ok (.new 7, 3) := by decide +kernel
theorem d2_194 : decode method_3_code 194 = .ok (.dup, 1) := by decide +kernel
theorem d2_195 : decode method_3_code 195 = .ok (.bipush 6, 2) := by decide +kernel
theorem d2_197 : decode method_3_code 197 = .ok (.newarray .char, 2) := by decide +kernel
theorem d2_199 : decode method_3_code 199 = .ok (.dup, 1) := by decide +kernel
theorem d2_200 : decode method_3_code 200 = .ok (.iconst 0, 1) := by decide +kernel
theorem d2_201 : decode method_3_code 201 = .ok (.aload_n 0, 1) := by decide +kernel
theorem d2_202 : decode method_3_code 202 = .ok (.iconst 0, 1) := by decide +kernel
theorem d2_203 : decode method_3_code 203 = .ok (.caload, 1) := by decide +kernel
theorem d2_204 : decode method_3_code 204 = .ok (.castore, 1) := by decide +kernel
theorem d2_205 : decode method_3_code 205 = .ok (.dup, 1) := by decide +kernel
theorem d2_206 : decode method_3_code 206 = .ok (.iconst 1, 1) := by decide +kernel
theorem d2_207 : decode method_3_code 207 = .ok (.aload_n 0, 1) := by decide +kernel
theorem d2_208 : decode method_3_code 208 = .ok (.iconst 1, 1) := by decide +kernel
theorem d2_209 : decode method_3_code 209 = .ok (.caload, 1) := by decide +kernel
theorem d2_210 : decode method_3_code 210 = .ok (.castore, 1) := by decide +kernel
theorem d2_211 : decode method_3_code 211 = .ok (.dup, 1) := by decide +kernel
theorem d2_212 : decode method_3_code 212 = .ok (.iconst 2, 1) := by decide +kernel
theorem d2_213 : decode method_3_code 213 = .ok (.aload_n 0, 1) := by decide +kernel
theorem d2_214 : decode method_3_code 214 = .ok (.iconst 2, 1) := by decide +kernel
theorem d2_215 : decode method_3_code 215 = .ok (.caload, 1) := by decide +kernel
theorem d2_216 : decode method_3_code 216 = .ok (.castore, 1) := by decide +kernel
theorem d2_217 : decode method_3_code 217 = .ok (.dup, 1) := by decide +kernel
theorem d2_218 : decode method_3_code 218 = .ok (.iconst 3, 1) := by decide +kernel
theorem d2_219 : decode method_3_code 219 = .ok (.aload_n 0, 1) := by decide +kernel
theorem d2_220 : decode method_3_code 220 = .ok (.iconst 3, 1) := by decide +kernel
theorem d2_221 : decode method_3_code 221 = .ok (.caload, 1) := by decide +kernel
theorem d2_222 : decode method_3_code 222 = .ok (.castore, 1) := by decide +kernel
theorem d2_223 : decode method_3_code 223 = .ok (.dup, 1) := by decide +kernel
theorem d2_224 : decode method_3_code 224 = .ok (.iconst 4, 1) := by decide +kernel
theorem d2_225 : decode method_3_code 225 = .ok (.aload_n 0, 1) := by decide +kernel
theorem d2_226 : decode method_3_code 226 = .ok (.iconst 4, 1) := by decide +kernel
theorem d2_227 : decode method_3_code 227 = .ok (.caload, 1) := by decide +kernel
theorem d2_228 : decode method_3_code 228 = .ok (.castore, 1) := by decide +kernel
theorem d2_229 : decode method_3_code 229 = .ok (.dup, 1) := by decide +kernel
theorem d2_230 : decode method_3_code 230 = .ok (.iconst 5, 1) := by decide +kernel
theorem d2_231 : decode method_3_code 231 = .ok (.aload_n 0, 1) := by decide +kernel
theorem d2_232 : decode method_3_code 232 = .ok (.iconst 5, 1) := by decide +kernel
theorem d2_233 : decode method_3_code 233 = .ok (.caload, 1) := by decide +kernel
theorem d2_234 : decode method_3_code 234 = .ok (.castore, 1) := by decide +kernel
theorem d2_235 : decode method_3_code 235 = .ok (.invokespecial 9, 3) := by decide +kernel
theorem d2_238 : decode method_3_code 238 = .ok (.areturn, 1) := by decide +kernel
theorem d2_239 : decode method_3_code 239 = .ok (.iload_n 1, 1) := by decide +kernel
theorem d2_240 : decode method_3_code 240 = .ok (.bipush 7, 2) := by decide +kernel
theorem d2_242 : decode method_3_code 242 = .ok (.if_icmp .ne 59, 3) := by decide +kernel
theorem d2_245 : decode method_3_code 245 = .ok (.new 7, 3) := by decide +kernel
theorem d2_248 : decode method_3_code 248 = .ok (.dup, 1) := by decide +kernel
theorem d2_249 : decode method_3_code 249 = .ok (.bipush 7, 2) := by decide +kernel
theorem d2_251 : decode method_3_code 251 = .ok (.newarray .char, 2) := by decide +kernel
theorem d2_253 : decode method_3_code 253 = .ok (.dup, 1) := by decide +kernel
theorem d2_254 : decode method_3_code 254 = .ok (.iconst 0, 1) := by decide +kernel
theorem d2_255 : decode method_3_code 255 = .ok (.aload_n 0, 1) := by decide +kernel
theorem d2_256 : decode method_3_code 256 = .ok (.iconst 0, 1) := by decide +kernel
theorem d2_257 : decode method_3_code 257 = .ok (.caload, 1) := by decide +kernel
theorem d2_258 : decode method_3_code 258 = .ok (.castore, 1) := by decide +kernel
theorem d2_259 : decode method_3_code 259 = .ok (.dup, 1) := by decide +kernel
theorem d2_260 : decode method_3_code 260 = .ok (.iconst 1, 1) := by decide +kernel
theorem d2_261 : decode method_3_code 261 = .ok (.aload_n 0, 1) := by decide +kernel
theorem d2_262 : decode method_3_code 262 = .ok (.iconst 1, 1) := by decide +kernel
theorem d2_263 : decode method_3_code 263 = .ok (.caload, 1) := by decide +kernel
theorem d2_264 : decode method_3_code 264 = .ok (.castore, 1) := by decide +kernel
theorem d2_265 : decode method_3_code 265 = .ok (.dup, 1) := by decide +kernel
theorem d2_266 : decode method_3_code 266 = .ok (.iconst 2, 1) := by decide +kernel
theorem d2_267 : decode method_3_code 267 = .ok (.aload_n 0, 1) := by decide +kernel
theorem d2_268 : decode method_3_code 268 = .ok (.iconst 2, 1) := by decide +kernel
theorem d2_269 : decode method_3_code 269 = .ok (.caload, 1) := by decide +kernel
theorem d2_270 : decode method_3_code 270 = .ok (.castore, 1) := by decide +kernel
theorem d2_271 : decode method_3_code 271 = .ok (.dup, 1) := by decide +kernel
theorem d2_272 : decode method_3_code 272 = .ok (.iconst 3, 1) := by decide +kernel
theorem d2_273 : decode method_3_code 273 = .ok (.aload_n 0, 1) := by decide +kernel
theorem d2_274 : decode method_3_code 274 = .ok (.iconst 3, 1) := by decide +kernel
theorem d2_275 : decode method_3_code 275 = .ok (.caload, 1) := by decide +kernel
theorem d2_276 : decode method_3_code 276 = .ok (.castore, 1) := by decide +kernel
theorem d2_277 : decode method_3_code 277 = .ok (.dup, 1) := by decide +kernel
theorem d2_278 : decode method_3_code 278 = .ok (.iconst 4, 1) := by decide +kernel
theorem d2_279 : decode method_3_code 279 = .ok (.aload_n 0, 1) := by decide +kernel
theorem d2_280 : decode method_3_code 280 = .ok (.iconst 4, 1) := by decide +kernel
theorem d2_281 : decode method_3_code 281 = .ok (.caload, 1) := by decide +kernel
theorem d2_282 : decode method_3_code 282 = .ok (.castore, 1) := by decide +kernel
theorem d2_283 : decode method_3_code 283 = .ok (.dup, 1) := by decide +kernel
theorem d2_284 : decode method_3_code 284 = .ok (.iconst 5, 1) := by decide +kernel
theorem d2_285 : decode method_3_code 285 = .ok (.aload_n 0, 1) := by decide +kernel
theorem d2_286 : decode method_3_code 286 = .ok (.iconst 5, 1) := by decide +kernel
theorem d2_287 : decode method_3_code 287 = .ok (.caload, 1) := by decide +kernel
theorem d2_288 : decode method_3_code 288 = .ok (.castore, 1) := by decide +kernel
theorem d2_289 : decode method_3_code 289 = .ok (.dup, 1) := by decide +kernel
theorem d2_290 : decode method_3_code 290 = .ok (.bipush 6, 2) := by decide +kernel
theorem d2_292 : decode method_3_code 292 = .ok (.aload_n 0, 1) := by decide +kernel
theorem d2_293 : decode method_3_code 293 = .ok (.bipush 6, 2) := by decide +kernel
theorem d2_295 : decode method_3_code 295 = .ok (.caload, 1) := by decide +kernel
theorem d2_296 : decode method_3_code 296 = .ok (.castore, 1) := by decide +kernel
theorem d2_297 : decode method_3_code 297 = .ok (.invokespecial 9, 3) := by decide +kernel
theorem d2_300 : decode method_3_code 300 = .ok (.areturn, 1) := by decide +kernel
theorem d2_301 : decode method_3_code 301 = .ok (.new 7, 3) := by decide +kernel
theorem d2_304 : decode method_3_code 304 = .ok (.dup, 1) := by decide +kernel
theorem d2_305 : decode method_3_code 305 = .ok (.bipush 8, 2) := by decide +kernel
theorem d2_307 : decode method_3_code 307 = .ok (.newarray .char, 2) := by decide +kernel
theorem d2_309 : decode method_3_code 309 = .ok (.dup, 1) := by decide +kernel
theorem d2_310 : decode method_3_code 310 = .ok (.iconst 0, 1) := by decide +kernel
theorem d2_311 : decode method_3_code 311 = .ok (.aload_n 0, 1) := by decide +kernel
theorem d2_312 : decode method_3_code 312 = .ok (.iconst 0, 1) := by decide +kernel
theorem d2_313 : decode method_3_code 313 = .ok (.caload, 1) := by decide +kernel
theorem d2_314 : decode method_3_code 314 = .ok (.castore, 1) := by decide +kernel
theorem d2_315 : decode method_3_code 315 = .ok (.dup, 1) := by decide +kernel
theorem d2_316 : decode method_3_code 316 = .ok (.iconst 1, 1) := by decide +kernel
theorem d2_317 : decode method_3_code 317 = .ok (.aload_n 0, 1) := by decide +kernel
theorem d2_318 : decode method_3_code 318 = .ok (.iconst 1, 1) := by decide +kernel
theorem d2_319 : decode method_3_code 319 = .ok (.caload, 1) := by decide +kernel
theorem d2_320 : decode method_3_code 320 = .ok (.castore, 1) := by decide +kernel
theorem d2_321 : decode method_3_code 321 = .ok (.dup, 1) := by decide +kernel
theorem d2_322 : decode method_3_code 322 = .ok (.iconst 2, 1) := by decide +kernel
theorem d2_323 : decode method_3_code 323 = .ok (.aload_n 0, 1) := by decide +kernel
theorem d2_324 : decode method_3_code 324 = .ok (.iconst 2, 1) := by decide +kernel
theorem d2_325 : decode method_3_code 325 = .ok (.caload, 1) := by decide +kernel
theorem d2_326 : decode method_3_code 326 = .ok (.castore, 1) := by decide +kernel
theorem d2_327 : decode method_3_code 327 = .ok (.dup, 1) := by decide +kernel
theorem d2_328 : decode method_3_code 328 = .ok (.iconst 3, 1) := by decide +kernel
theorem d2_329 : decode method_3_code 329 = .ok (.aload_n 0, 1) := by decide +kernel
theorem d2_330 : decode method_3_code 330 = .ok (.iconst 3, 1) := by decide +kernel
theorem d2_331 : decode method_3_code 331 = .ok (.caload, 1) := by decide +kernel
theorem d2_332 : decode method_3_code 332 = .ok (.castore, 1) := by decide +kernel
theorem d2_333 : decode method_3_code 333 = .ok (.dup, 1) := by decide +kernel
theorem d2_334 : decode method_3_code 334 = .ok (.iconst 4, 1) := by decide +kernel
theorem d2_335 : decode method_3_code 335 = .ok (.aload_n 0, 1) := by decide +kernel
theorem d2_336 : decode method_3_code 336 = .ok (.iconst 4, 1) := by decide +kernel
theorem d2_337 : decode method_3_code 337 = .ok (.caload, 1) := by decide +kernel
theorem d2_338 : decode method_3_code 338 = .ok (.castore, 1) := by decide +kernel
theorem d2_339 : decode method_3_code 339 = .ok (.dup, 1) := by decide +kernel
theorem d2_340 : decode method_3_code 340 = .ok (.iconst 5, 1) := by decide +kernel
theorem d2_341 : decode method_3_code 341 = .ok (.aload_n 0, 1) := by decide +kernel
theorem d2_342 : decode method_3_code 342 = .ok (.iconst 5, 1) := by decide +kernel
theorem d2_343 : decode method_3_code 343 = .ok (.caload, 1) := by decide +kernel
theorem d2_344 : decode method_3_code 344 = .ok (.castore, 1) := by decide +kernel
theorem d2_345 : decode method_3_code 345 = .ok (.dup, 1) := by decide +kernel
theorem d2_346 : decode method_3_code 346 = .ok (.bipush 6, 2) := by decide +kernel
theorem d2_348 : decode method_3_code 348 = .ok (.aload_n 0, 1) := by decide +kernel
theorem d2_349 : decode method_3_code 349 = .ok (.bipush 6, 2) := by decide +kernel
theorem d2_351 : decode method_3_code 351 = .ok (.caload, 1) := by decide +kernel
theorem d2_352 : decode method_3_code 352 = .ok (.castore, 1) := by decide +kernel
theorem d2_353 : decode method_3_code 353 = .ok (.dup, 1) := by decide +kernel
theorem d2_354 : decode method_3_code 354 = .ok (.bipush 7, 2) := by decide +kernel
theorem d2_356 : decode method_3_code 356 = .ok (.aload_n 0, 1) := by decide +kernel
theorem d2_357 : decode method_3_code 357 = .ok (.bipush 7, 2) := by decide +kernel
theorem d2_359 : decode method_3_code 359 = .ok (.caload, 1) := by decide +kernel
theorem d2_360 : decode method_3_code 360 = .ok (.castore, 1) := by decide +kernel
theorem d2_361 : decode method_3_code 361 = .ok (.invokespecial 9, 3) := by decide +kernel
theorem d2_364 : decode method_3_code 364 = .ok (.areturn, 1) := by decide +kernel
theorem pn_2 : plainName "com/example/lading/lading/packaging/ChecksumAlgorithmNamedPinLaw" = true := by first | (simp [plainName, overriddenIn]; done) | decide +kernel
theorem ef_2 (m : MethodId) (r0 : Addr) (p1 : Int32) : entryFrame m #[(.ref r0), (.int p1)] 2 = mkF m 0 #[.val (.ref r0), .val (.int p1)] [] := by first | (simp [entryFrame, mkF, argsToLocals, Value.category]; done) | rfl
def Q2 (Z : State) (r0 : Addr) (p1 : Int32) (kC : ClassId) (c0 : Int32) (c1 : Int32) (c2 : Int32) (c3 : Int32) (c4 : Int32) (c5 : Int32) (c6 : Int32) (c7 : Int32) (zCS : Int32) (h0 : Heap) (n0 : Nat) (v : Option Value) (h : Heap) (L : List Loc) : Prop := ∃ (b : Addr) (cs : List Int32), v = some (.ref b) ∧ Fr n0 L ∧ Keep h0 h [] ∧ SF Z h b cs
set_option maxRecDepth 65536 in
set_option maxHeartbeats 40000000 in
theorem rm2 (l : Launch) (Z : State) (a0 : Array Value) (hw : ∀ d ∈ tables_1, d.before a0 Z = true) (ws : List Jvm.Cond) (r0 : Addr) (p1 : Int32) (kC : ClassId) (c0 : Int32) (c1 : Int32) (c2 : Int32) (c3 : Int32) (c4 : Int32) (c5 : Int32) (c6 : Int32) (c7 : Int32) (zCS : Int32) (h0 : Heap) (n0 : Nat) (Z0 : n0 ≤ h0.size) (V_r0 : Arv Z h0 r0 kC .char (8 : Int32) [(.int c0), (.int c1), (.int c2), (.int c3), (.int c4), (.int c5), (.int c6), (.int c7)] (.int (0 : Int32))) (g0 : rg c0) (g1 : rg c1) (g2 : rg c2) (g3 : rg c3) (g4 : rg c4) (g5 : rg c5) (g6 : rg c6) (g7 : rg c7) (S_CS : Sta Z h0 "java/lang/String" "COMPACT_STRINGS" "Z" (.int zCS)) (hCS : ¬ zCS = 0) :
    MetFree l (⟨"com/example/lading/lading/packaging/ChecksumAlgorithmNamedPinLaw", "str", "([CI)Ljava/lang/String;"⟩ : MethodName) (head1 (Jvm.Cond.code (⟨"com/example/lading/lading/packaging/ChecksumAlgorithmNamedPinLaw", "str", "([CI)Ljava/lang/String;"⟩ : MethodName) method_3_code 2 (some (.object "java/lang/String")) :: ws) ({ frames := 4, cells := 6, slots := 20, locals := 66 } : Room)) (fun a U => a = #[(.ref r0), (.int p1)] ∧ Z.Warmed39 U.vm ∧ U.heap = h0 ∧ CHv Z consts_1 U.vm h0) (fun _ _ _ _ _ => True) (fun _ U o U' => ∃ v L, o = .returned v ∧ Q2 Z r0 p1 kC c0 c1 c2 c3 c4 c5 c6 c7 zCS h0 n0 v U'.heap L ∧ CHr Z consts_1 U.vm U.heap U'.vm U'.heap ∧ ReturnedEndW U o U' L ({ frames := 4, cells := 6, slots := 20, locals := 66 } : Room).cells ({ frames := 4, cells := 6, slots := 20, locals := 66 } : Room).slots) := by
  refine MetFree.of_bodySF (plainFor_of_name pn_2) hisR ?_
  intro p e s m args below meth c s₁ Bd hml0 hP hK
  obtain ⟨rfl, hZ, hh, hC0⟩ := hP
  have hx := Bd.exec
  have hlk : meth.locks = false := BodyLoose.notSynchronized Bd
  have hby := Bd.bytes
  have hml : c.maxLocals = 2 := hml0
  have hown : s.vm.findClass "com/example/lading/lading/packaging/ChecksumAlgorithmNamedPinLaw" = some m.cls := findClass_of_methodNamed Bd.named
  have hnm := (name_of_methodNamed Bd.named Bd.method).1
  have X0 : Stand p l e ({ frames := 4, cells := 6, slots := 20, locals := 66 } : Room) (s.setVm s.vm) m #[(.ref r0), (.int p1)] below meth c s₁ [] 0 0 := Stand.of_body Bd
  have e0 : s₁.heap = h0 := by rw [← hh, Bd.state]; rfl
  have N0 := Fr.nil n0
  have hEL := own_EL hw
  have wS := own_wS hw
  have hS0 : s.Since s.vm h0.size := (State.WarmedH.refl s).since _
  have hk0 : h0.size ≤ h0.size := Nat.le_refl _
  have Cx0 : CHr Z consts_1 s.vm h0 s.vm h0 := CHr.refl hC0
  refine own_go (A' := (s₁.setTop (mkF m 0 #[.val (.ref r0), .val (.int p1)] []))) (fun t k => castTop (ef_2 m r0 p1) k) ?_
  refine own_go (A' := (s₁.setTop (mkF m 1 #[.val (.ref r0), .val (.int p1)] [(.int p1)]))) (fun t k => ?_) ?_
  · show Steps p.tables e below (s₁.setTop (mkF m 0 #[.val (.ref r0), .val (.int p1)] [])) _
    refine XS.iloadN X0.here hx rfl (hb hby d2_0) rfl ?_
    exact k
  by_cases hc11 : (0 : Int32) < p1
  · -- hc11: yes
    refine own_go (A' := (s₁.setTop (mkF m 15 #[.val (.ref r0), .val (.int p1)] []))) (fun t k => XS.ifYes X0.here hx rfl (pc0 := 1) (pc' := 15) rfl (hb hby d2_1) rfl ((if0 _ _).trans (tlt hc11).2.2.1) (by decide) (by decide) k) ?_
    refine own_go (A' := (s₁.setTop (mkF m 17 #[.val (.ref r0), .val (.int p1)] [(.int (1 : Int32)), (.int p1)]))) (fun t k => ?_) ?_
    · show Steps p.tables e below (s₁.setTop (mkF m 15 #[.val (.ref r0), .val (.int p1)] [])) _
      refine XS.iloadN X0.here hx rfl (hb hby d2_15) rfl ?_
      show Steps p.tables e below (s₁.setTop (mkF m 16 #[.val (.ref r0), .val (.int p1)] [(.int p1)])) _
      refine XS.iconst X0.here hx rfl (hb hby d2_16) ?_
      exact k
    by_cases hc12 : p1 = (1 : Int32)
    · -- hc12: yes
      refine own_go (A' := (s₁.setTop (mkF m 20 #[.val (.ref r0), .val (.int p1)] []))) (fun t k => XS.icmpNo X0.here hx rfl (hb hby d2_17) rfl (teq hc12).2 k) ?_
      obtain ⟨T13, h13, X13, e13, E13, A13, D13, -, st13⟩ := newO X0 hx hZ hown (hw _ (List.mem_of_getElem? (i := 8) rfl)) (hw _ (List.mem_of_getElem? (i := 9) rfl)) (hw _ (List.mem_of_getElem? (i := 10) rfl)) e0 (g := (mkF m 20 #[.val (.ref r0), .val (.int p1)] [])) rfl (hb hby d2_20) (by decide) (by decide)
      obtain ⟨b13, g13⟩ : ∃ z, z = h0.size := ⟨_, rfl⟩
      have sz_b13 : h0.size ≤ b13 := Nat.le_of_eq g13.symm
      have ne_r0_b13 : r0 ≠ b13 := Nat.ne_of_lt (Nat.lt_of_lt_of_le V_r0.lt (Nat.le_of_eq g13.symm))
      rw [← g13] at A13 D13 st13
      have hk13 := Nat.le_trans hk0 E13.1
      have Cx13 := Cx0.trans (CHr.ext E13 Cx0.1)
      have K13 : Keep h0 h13 [] := (Keep.refl h0 []).ext E13
      have B13 : Ext h0 h13 := own_keep_ext K13
      have F13_coder : Fld Z h13 b13 "java/lang/String" "coder" "B" (.int (0 : Int32)) := D13 (Or.inr (hw _ (List.mem_of_getElem? (i := 34) rfl))) (ty := .byte) (by decide)
      have F13_value : Fld Z h13 b13 "java/lang/String" "value" "[B" .null := D13 (Or.inr (hw _ (List.mem_of_getElem? (i := 36) rfl))) (ty := (.array .byte)) (by decide)
      obtain ⟨T14, h14, k14, X14, e14, E14, A14, st14⟩ := newP X13 hx hZ (hw _ (List.mem_of_getElem? (i := 0) rfl)) e13 (g := (mkF m 25 #[.val (.ref r0), .val (.int p1)] [(.int (1 : Int32)), (.ref b13), (.ref b13)])) rfl (hb hby d2_25) rfl (by decide) (cap := 1) (by decide) (by decide) (by decide) (by decide)
      obtain ⟨b14, g14⟩ : ∃ z, z = h13.size := ⟨_, rfl⟩
      have sz_b14 : h0.size ≤ b14 := Nat.le_trans K13.1 (Nat.le_of_eq g14.symm)
      have ne_r0_b14 : r0 ≠ b14 := Nat.ne_of_lt (Nat.lt_of_lt_of_le (V_r0.ext E13).lt (Nat.le_of_eq g14.symm))
      have ne_b13_b14 : b13 ≠ b14 := Nat.ne_of_lt (Nat.lt_of_lt_of_le A13.lt (Nat.le_of_eq g14.symm))
      rw [← g14] at A14 st14
      have hk14 := Nat.le_trans hk13 E14.1
      have Cx14 := Cx13.trans (CHr.ext E14 Cx13.1)
      have K14 : Keep h0 h14 [] := K13.ext E14
      have B14 : Ext h0 h14 := own_keep_ext K14
      have V14 : Arv Z h14 b14 k14 .char (1 : Int32) [(.int (0 : Int32))] (.int (0 : Int32)) := (Arv.new A14 (by decide)).pad (pad_rep [] (.int (0 : Int32)) 1)
      obtain ⟨cl15, Ar15, q15, S15, N15, H15, G15⟩ := id ((V_r0.ext E13).ext E14)
      have hin15 : ¬ ((0 : Int32) < 0 ∨ cl15.slots.size ≤ ((0 : Int32)).toNatClampNeg) := inb_of S15 ⟨by decide, by decide⟩
      have hat15 : cl15.slots[((0 : Int32)).toNatClampNeg]? = some (.int c0) := (H15 _ (Nat.lt_of_not_le fun q => hin15 (Or.inr q))).trans rfl
      obtain ⟨cl16, Ar16, q16, S16, N16, H16, G16⟩ := id V14
      have hin16 : ¬ ((0 : Int32) < 0 ∨ cl16.slots.size ≤ ((0 : Int32)).toNatClampNeg) := inb_of S16 ⟨by decide, by decide⟩
      obtain ⟨T17, h17, X17, e17, W17, st17⟩ := stC X14 hx hZ e14 Ar16 (j := (0 : Int32)) hin16  (g := (mkF m 32 #[.val (.ref r0), .val (.int p1)] [(.int c0), (.int (0 : Int32)), (.ref b14), (.ref b14), (.ref b13), (.ref b13)])) rfl rfl (hb hby d2_32)
      have Sf17 : Safe Z consts_1 s.vm h14 b14 := (own_safe_arv hZ.alike V14 (by decide))
      have hk17 := Nat.le_trans hk14 (Keep.of_wr W17).1
      have Cx17 := Cx14.trans (CHr.wr W17 Sf17 Cx14.1)
      have K17 : Keep h0 h17 [] := K14.wr W17 (Or.inr sz_b14)
      have B17 : Ext h0 h17 := own_keep_ext K17
      have N17 := Fr.snoc X17 N0 (Nat.le_trans Z0 sz_b14)
      have V17 : Arv Z h17 b14 k14 .char (1 : Int32) [(.int (nar .char c0))] (.int (0 : Int32)) := Arv.set Ar16 q16 S16 N16 H16 G16 (fits_nar_char _) W17 0 rfl (Nat.le_of_ble_eq_true rfl)
      have hws19 : ∀ d ∈ StrChars.Road.words, d.before a0 Z = true := fun d hd => hw d ((by decide +kernel : ∀ d ∈ StrChars.Road.words, d ∈ tables_1) d hd)
      have hlat19 : ∀ c ∈ ([(nar .char c0)] : List Int32), ¬ c < 0 ∧ ¬ (255 : Int32) < c := by
        intro c hc
        simp only [List.mem_cons, List.not_mem_nil, or_false] at hc
        rcases hc with rfl
        · exact own_rgl (own_rgr g0)
      obtain ⟨_, _, ⟨T18, L18, k18, n18⟩, -, X18, ⟨Lc18, hQ18, l18, y18, z18⟩, st18⟩ := X17.specialBack hx (y := (⟨"java/lang/String", "<init>", "([C)V"⟩ : MethodName)) rfl hown (mvT hZ (hw _ (List.mem_of_getElem? (i := 11) rfl))) (mvT hZ (hw _ (List.mem_of_getElem? (i := 12) rfl))) (mvT hZ (hw _ (List.mem_of_getElem? (i := 13) rfl))) (by decide) (StrChars.Road.backV (W := 1) hZ hws19 (kI := 4) (hw _ (List.mem_of_getElem? (i := 9) rfl)) (cs := [(nar .char c0)]) (bs := [((nar .char c0)).toInt8.toInt32]) (n := 1) (Nat.le_trans Z0 sz_b13) (Nat.le_trans Z0 K17.1) ((A13.ext E14).wr W17) ((F13_value.ext E14).other W17 (Or.inl ne_b13_b14)) ((F13_coder.ext E14).other W17 (Or.inl ne_b13_b14)) V17 (S_CS.ext B17) hCS rfl rfl (by decide) (by decide) hlat19 rfl (by decide) (by decide)) (g := (mkF m 33 #[.val (.ref r0), .val (.int p1)] [(.ref b14), (.ref b13), (.ref b13)])) rfl (by rw [hml]; rfl) (Steps.refl _) (a := b13) (argsL := [(.ref b14)]) (rest := [(.ref b13)]) (lenOf pd_1 rfl) rfl (by show 2 * 0 + _ ≤ _; exact Nat.le_of_eq rfl) (hb hby d2_33) (fun _ _ => ⟨rfl, e17, (by decide : 2 + 1 ≤ _), (by decide : 5 + 1 ≤ _)⟩)
      dsimp only [Pt.U, Pt.locs, Pt.cells, Pt.slots] at X18 l18 y18 z18 st18 hQ18
      subst l18 y18 z18
      obtain ⟨rfl, N18q, K18q, E18q, C18q, t18, kb18, ht18a, ht18b, ht18c, V18q, A18q⟩ := hQ18
      have N18 := Fr.app N17 N18q
      have As18 : ∀ x ∈ ([b13] : List Addr), Safe Z consts_1 s.vm h17 x := (allS (own_safe_null hZ.alike ((A13.ext E14).wr W17) ((F13_value.ext E14).other W17 (Or.inl ne_b13_b14))) all0)
      have hk18 := Nat.le_trans hk17 K18q.1
      have Cx18 := Cx17.trans (CHr.keep K18q As18 Cx17.1)
      have K18 : Keep h0 T18.heap [] := K17.trans K18q (allS (Or.inr sz_b13) all0)
      have B18 : Ext h0 T18.heap := own_keep_ext K18
      refine own_go (A' := (T18.setTop (mkF m 36 #[.val (.ref r0), .val (.int p1)] [(.ref b13)]))) (fun t k => ?_) ?_
      · show Steps p.tables e below (s₁.setTop (mkF m 20 #[.val (.ref r0), .val (.int p1)] [])) _
        refine st13 _ ?_
        show Steps p.tables e below (T13.setTop (mkF m 23 #[.val (.ref r0), .val (.int p1)] [(.ref b13)])) _
        refine XS.dup X13.here hx rfl (hb hby d2_23) rfl rfl ?_
        show Steps p.tables e below (T13.setTop (mkF m 24 #[.val (.ref r0), .val (.int p1)] [(.ref b13), (.ref b13)])) _
        refine XS.iconst X13.here hx rfl (hb hby d2_24) ?_
        show Steps p.tables e below (T13.setTop (mkF m 25 #[.val (.ref r0), .val (.int p1)] [(.int (1 : Int32)), (.ref b13), (.ref b13)])) _
        refine st14 _ ?_
        show Steps p.tables e below (T14.setTop (mkF m 27 #[.val (.ref r0), .val (.int p1)] [(.ref b14), (.ref b13), (.ref b13)])) _
        refine XS.dup X14.here hx rfl (hb hby d2_27) rfl rfl ?_
        show Steps p.tables e below (T14.setTop (mkF m 28 #[.val (.ref r0), .val (.int p1)] [(.ref b14), (.ref b14), (.ref b13), (.ref b13)])) _
        refine XS.iconst X14.here hx rfl (hb hby d2_28) ?_
        show Steps p.tables e below (T14.setTop (mkF m 29 #[.val (.ref r0), .val (.int p1)] [(.int (0 : Int32)), (.ref b14), (.ref b14), (.ref b13), (.ref b13)])) _
        refine XS.aloadN X14.here hx rfl (hb hby d2_29) rfl rfl ?_
        show Steps p.tables e below (T14.setTop (mkF m 30 #[.val (.ref r0), .val (.int p1)] [(.ref r0), (.int (0 : Int32)), (.ref b14), (.ref b14), (.ref b13), (.ref b13)])) _
        refine XS.iconst X14.here hx rfl (hb hby d2_30) ?_
        show Steps p.tables e below (T14.setTop (mkF m 31 #[.val (.ref r0), .val (.int p1)] [(.int (0 : Int32)), (.ref r0), (.int (0 : Int32)), (.ref b14), (.ref b14), (.ref b13), (.ref b13)])) _
        refine X14.caload hx (j := (0 : Int32)) (v := (.int c0)) (by rw [e14]; exact Ar15.1) (State.isArrayOf_alike hZ.alike Ar15.2.1) Ar15.2.2 hin15 hat15 (g := (mkF m 31 #[.val (.ref r0), .val (.int p1)] [(.int (0 : Int32)), (.ref r0), (.int (0 : Int32)), (.ref b14), (.ref b14), (.ref b13), (.ref b13)])) rfl rfl (hb hby d2_31) _ ?_
        show Steps p.tables e below (T14.setTop (mkF m 32 #[.val (.ref r0), .val (.int p1)] [(.int c0), (.int (0 : Int32)), (.ref b14), (.ref b14), (.ref b13), (.ref b13)])) _
        refine st17 _ ?_
        show Steps p.tables e below (T17.setTop (mkF m 33 #[.val (.ref r0), .val (.int p1)] [(.ref b14), (.ref b13), (.ref b13)])) _
        refine st18.trans ?_
        exact k
      obtain ⟨fs, hr, hrun, hended, hend⟩ := X18.leaveW (v := some (.ref b13)) hS0 hk18 (fun h => by rw [Bd.returns] at h; cases h) hlk
      refine ⟨_, _, ?_, hrun, hended, _, _, rfl, ?_, ?_, ⟨_, rfl⟩, hend.2.1, hend.2.2.1, hend.2.2.2.mono (by decide) (by decide)⟩
      · show Steps p.tables e below (T18.setTop (mkF m 36 #[.val (.ref r0), .val (.int p1)] [(.ref b13)])) _
        exact own_retV X18 hx Bd.returns rfl rfl (hb hby d2_36) hr
      · show Q2 Z r0 p1 kC c0 c1 c2 c3 c4 c5 c6 c7 zCS h0 n0 _ T18.heap _
        exact ⟨b13, [(nar .char c0)], rfl, N18, K18, E18q, C18q, (fun c hc => by
            simp only [List.mem_cons, List.not_mem_nil, or_false] at hc
            rcases hc with rfl
            · exact own_rgl (own_rgr g0)), Nat.le_of_ble_eq_true rfl, _, _, V18q, A18q⟩
      · show CHr Z consts_1 s.vm s.heap T18.vm T18.heap
        rw [hh]
        exact Cx18.trans (CHv.at X18 hZ hEL Cx18.1)
    · -- hc12: no
      refine own_go (A' := (s₁.setTop (mkF m 37 #[.val (.ref r0), .val (.int p1)] []))) (fun t k => XS.icmpYes X0.here hx rfl (pc0 := 17) (pc' := 37) rfl (hb hby d2_17) rfl (feq hc12).2 (by decide) (by decide) k) ?_
      refine own_go (A' := (s₁.setTop (mkF m 39 #[.val (.ref r0), .val (.int p1)] [(.int (2 : Int32)), (.int p1)]))) (fun t k => ?_) ?_
      · show Steps p.tables e below (s₁.setTop (mkF m 37 #[.val (.ref r0), .val (.int p1)] [])) _
        refine XS.iloadN X0.here hx rfl (hb hby d2_37) rfl ?_
        show Steps p.tables e below (s₁.setTop (mkF m 38 #[.val (.ref r0), .val (.int p1)] [(.int p1)])) _
        refine XS.iconst X0.here hx rfl (hb hby d2_38) ?_
        exact k
      by_cases hc20 : p1 = (2 : Int32)
      · -- hc20: yes
        refine own_go (A' := (s₁.setTop (mkF m 42 #[.val (.ref r0), .val (.int p1)] []))) (fun t k => XS.icmpNo X0.here hx rfl (hb hby d2_39) rfl (teq hc20).2 k) ?_
        obtain ⟨T21, h21, X21, e21, E21, A21, D21, -, st21⟩ := newO X0 hx hZ hown (hw _ (List.mem_of_getElem? (i := 8) rfl)) (hw _ (List.mem_of_getElem? (i := 9) rfl)) (hw _ (List.mem_of_getElem? (i := 10) rfl)) e0 (g := (mkF m 42 #[.val (.ref r0), .val (.int p1)] [])) rfl (hb hby d2_42) (by decide) (by decide)
        obtain ⟨b21, g21⟩ : ∃ z, z = h0.size := ⟨_, rfl⟩
        have sz_b21 : h0.size ≤ b21 := Nat.le_of_eq g21.symm
        have ne_r0_b21 : r0 ≠ b21 := Nat.ne_of_lt (Nat.lt_of_lt_of_le V_r0.lt (Nat.le_of_eq g21.symm))
        rw [← g21] at A21 D21 st21
        have hk21 := Nat.le_trans hk0 E21.1
        have Cx21 := Cx0.trans (CHr.ext E21 Cx0.1)
        have K21 : Keep h0 h21 [] := (Keep.refl h0 []).ext E21
        have B21 : Ext h0 h21 := own_keep_ext K21
        have F21_coder : Fld Z h21 b21 "java/lang/String" "coder" "B" (.int (0 : Int32)) := D21 (Or.inr (hw _ (List.mem_of_getElem? (i := 34) rfl))) (ty := .byte) (by decide)
        have F21_value : Fld Z h21 b21 "java/lang/String" "value" "[B" .null := D21 (Or.inr (hw _ (List.mem_of_getElem? (i := 36) rfl))) (ty := (.array .byte)) (by decide)
        obtain ⟨T22, h22, k22, X22, e22, E22, A22, st22⟩ := newP X21 hx hZ (hw _ (List.mem_of_getElem? (i := 0) rfl)) e21 (g := (mkF m 47 #[.val (.ref r0), .val (.int p1)] [(.int (2 : Int32)), (.ref b21), (.ref b21)])) rfl (hb hby d2_47) rfl (by decide) (cap := 2) (by decide) (by decide) (by decide) (by decide)
        obtain ⟨b22, g22⟩ : ∃ z, z = h21.size := ⟨_, rfl⟩
        have sz_b22 : h0.size ≤ b22 := Nat.le_trans K21.1 (Nat.le_of_eq g22.symm)
        have ne_r0_b22 : r0 ≠ b22 := Nat.ne_of_lt (Nat.lt_of_lt_of_le (V_r0.ext E21).lt (Nat.le_of_eq g22.symm))
        have ne_b21_b22 : b21 ≠ b22 := Nat.ne_of_lt (Nat.lt_of_lt_of_le A21.lt (Nat.le_of_eq g22.symm))
        rw [← g22] at A22 st22
        have hk22 := Nat.le_trans hk21 E22.1
        have Cx22 := Cx21.trans (CHr.ext E22 Cx21.1)
        have K22 : Keep h0 h22 [] := K21.ext E22
        have B22 : Ext h0 h22 := own_keep_ext K22
        have V22 : Arv Z h22 b22 k22 .char (2 : Int32) [(.int (0 : Int32)), (.int (0 : Int32))] (.int (0 : Int32)) := (Arv.new A22 (by decide)).pad (pad_rep [] (.int (0 : Int32)) 2)
        obtain ⟨cl23, Ar23, q23, S23, N23, H23, G23⟩ := id ((V_r0.ext E21).ext E22)
        have hin23 : ¬ ((0 : Int32) < 0 ∨ cl23.slots.size ≤ ((0 : Int32)).toNatClampNeg) := inb_of S23 ⟨by decide, by decide⟩
        have hat23 : cl23.slots[((0 : Int32)).toNatClampNeg]? = some (.int c0) := (H23 _ (Nat.lt_of_not_le fun q => hin23 (Or.inr q))).trans rfl
        obtain ⟨cl24, Ar24, q24, S24, N24, H24, G24⟩ := id V22
        have hin24 : ¬ ((0 : Int32) < 0 ∨ cl24.slots.size ≤ ((0 : Int32)).toNatClampNeg) := inb_of S24 ⟨by decide, by decide⟩
        obtain ⟨T25, h25, X25, e25, W25, st25⟩ := stC X22 hx hZ e22 Ar24 (j := (0 : Int32)) hin24  (g := (mkF m 54 #[.val (.ref r0), .val (.int p1)] [(.int c0), (.int (0 : Int32)), (.ref b22), (.ref b22), (.ref b21), (.ref b21)])) rfl rfl (hb hby d2_54)
        have Sf25 : Safe Z consts_1 s.vm h22 b22 := (own_safe_arv hZ.alike V22 (by decide))
        have hk25 := Nat.le_trans hk22 (Keep.of_wr W25).1
        have Cx25 := Cx22.trans (CHr.wr W25 Sf25 Cx22.1)
        have K25 : Keep h0 h25 [] := K22.wr W25 (Or.inr sz_b22)
        have B25 : Ext h0 h25 := own_keep_ext K25
        have N25 := Fr.snoc X25 N0 (Nat.le_trans Z0 sz_b22)
        have V25 : Arv Z h25 b22 k22 .char (2 : Int32) [(.int (nar .char c0)), (.int (0 : Int32))] (.int (0 : Int32)) := Arv.set Ar24 q24 S24 N24 H24 G24 (fits_nar_char _) W25 0 rfl (Nat.le_of_ble_eq_true rfl)
        obtain ⟨cl26, Ar26, q26, S26, N26, H26, G26⟩ := id (((V_r0.ext E21).ext E22).other W25 ne_r0_b22)
        have hin26 : ¬ ((1 : Int32) < 0 ∨ cl26.slots.size ≤ ((1 : Int32)).toNatClampNeg) := inb_of S26 ⟨by decide, by decide⟩
        have hat26 : cl26.slots[((1 : Int32)).toNatClampNeg]? = some (.int c1) := (H26 _ (Nat.lt_of_not_le fun q => hin26 (Or.inr q))).trans rfl
        obtain ⟨cl27, Ar27, q27, S27, N27, H27, G27⟩ := id V25
        have hin27 : ¬ ((1 : Int32) < 0 ∨ cl27.slots.size ≤ ((1 : Int32)).toNatClampNeg) := inb_of S27 ⟨by decide, by decide⟩
        obtain ⟨T28, h28, X28, e28, W28, st28⟩ := stC X25 hx hZ e25 Ar27 (j := (1 : Int32)) hin27  (g := (mkF m 60 #[.val (.ref r0), .val (.int p1)] [(.int c1), (.int (1 : Int32)), (.ref b22), (.ref b22), (.ref b21), (.ref b21)])) rfl rfl (hb hby d2_60)
        have Sf28 : Safe Z consts_1 s.vm h25 b22 := (own_safe_arv hZ.alike V25 (by decide))
        have hk28 := Nat.le_trans hk25 (Keep.of_wr W28).1
        have Cx28 := Cx25.trans (CHr.wr W28 Sf28 Cx25.1)
        have K28 : Keep h0 h28 [] := K25.wr W28 (Or.inr sz_b22)
        have B28 : Ext h0 h28 := own_keep_ext K28
        have N28 := Fr.snoc X28 N25 (Nat.le_trans Z0 sz_b22)
        have V28 : Arv Z h28 b22 k22 .char (2 : Int32) [(.int (nar .char c0)), (.int (nar .char c1))] (.int (0 : Int32)) := Arv.set Ar27 q27 S27 N27 H27 G27 (fits_nar_char _) W28 1 rfl (Nat.le_of_ble_eq_true rfl)
        have hws30 : ∀ d ∈ StrChars.Road.words, d.before a0 Z = true := fun d hd => hw d ((by decide +kernel : ∀ d ∈ StrChars.Road.words, d ∈ tables_1) d hd)
        have hlat30 : ∀ c ∈ ([(nar .char c0), (nar .char c1)] : List Int32), ¬ c < 0 ∧ ¬ (255 : Int32) < c := by
          intro c hc
          simp only [List.mem_cons, List.not_mem_nil, or_false] at hc
          rcases hc with rfl | rfl
          · exact own_rgl (own_rgr g0)
          · exact own_rgl (own_rgr g1)
        obtain ⟨_, _, ⟨T29, L29, k29, n29⟩, -, X29, ⟨Lc29, hQ29, l29, y29, z29⟩, st29⟩ := X28.specialBack hx (y := (⟨"java/lang/String", "<init>", "([C)V"⟩ : MethodName)) rfl hown (mvT hZ (hw _ (List.mem_of_getElem? (i := 11) rfl))) (mvT hZ (hw _ (List.mem_of_getElem? (i := 12) rfl))) (mvT hZ (hw _ (List.mem_of_getElem? (i := 13) rfl))) (by decide) (StrChars.Road.backV (W := 1) hZ hws30 (kI := 4) (hw _ (List.mem_of_getElem? (i := 9) rfl)) (cs := [(nar .char c0), (nar .char c1)]) (bs := [((nar .char c0)).toInt8.toInt32, ((nar .char c1)).toInt8.toInt32]) (n := 2) (Nat.le_trans Z0 sz_b21) (Nat.le_trans Z0 K28.1) (((A21.ext E22).wr W25).wr W28) (((F21_value.ext E22).other W25 (Or.inl ne_b21_b22)).other W28 (Or.inl ne_b21_b22)) (((F21_coder.ext E22).other W25 (Or.inl ne_b21_b22)).other W28 (Or.inl ne_b21_b22)) V28 (S_CS.ext B28) hCS rfl rfl (by decide) (by decide) hlat30 rfl (by decide) (by decide)) (g := (mkF m 61 #[.val (.ref r0), .val (.int p1)] [(.ref b22), (.ref b21), (.ref b21)])) rfl (by rw [hml]; rfl) (Steps.refl _) (a := b21) (argsL := [(.ref b22)]) (rest := [(.ref b21)]) (lenOf pd_1 rfl) rfl (by show 2 * 0 + _ ≤ _; exact Nat.le_of_eq rfl) (hb hby d2_61) (fun _ _ => ⟨rfl, e28, (by decide : 2 + 1 ≤ _), (by decide : 6 + 2 ≤ _)⟩)
        dsimp only [Pt.U, Pt.locs, Pt.cells, Pt.slots] at X29 l29 y29 z29 st29 hQ29
        subst l29 y29 z29
        obtain ⟨rfl, N29q, K29q, E29q, C29q, t29, kb29, ht29a, ht29b, ht29c, V29q, A29q⟩ := hQ29
        have N29 := Fr.app N28 N29q
        have As29 : ∀ x ∈ ([b21] : List Addr), Safe Z consts_1 s.vm h28 x := (allS (own_safe_null hZ.alike (((A21.ext E22).wr W25).wr W28) (((F21_value.ext E22).other W25 (Or.inl ne_b21_b22)).other W28 (Or.inl ne_b21_b22))) all0)
        have hk29 := Nat.le_trans hk28 K29q.1
        have Cx29 := Cx28.trans (CHr.keep K29q As29 Cx28.1)
        have K29 : Keep h0 T29.heap [] := K28.trans K29q (allS (Or.inr sz_b21) all0)
        have B29 : Ext h0 T29.heap := own_keep_ext K29
        refine own_go (A' := (T29.setTop (mkF m 64 #[.val (.ref r0), .val (.int p1)] [(.ref b21)]))) (fun t k => ?_) ?_
        · show Steps p.tables e below (s₁.setTop (mkF m 42 #[.val (.ref r0), .val (.int p1)] [])) _
          refine st21 _ ?_
          show Steps p.tables e below (T21.setTop (mkF m 45 #[.val (.ref r0), .val (.int p1)] [(.ref b21)])) _
          refine XS.dup X21.here hx rfl (hb hby d2_45) rfl rfl ?_
          show Steps p.tables e below (T21.setTop (mkF m 46 #[.val (.ref r0), .val (.int p1)] [(.ref b21), (.ref b21)])) _
          refine XS.iconst X21.here hx rfl (hb hby d2_46) ?_
          show Steps p.tables e below (T21.setTop (mkF m 47 #[.val (.ref r0), .val (.int p1)] [(.int (2 : Int32)), (.ref b21), (.ref b21)])) _
          refine st22 _ ?_
          show Steps p.tables e below (T22.setTop (mkF m 49 #[.val (.ref r0), .val (.int p1)] [(.ref b22), (.ref b21), (.ref b21)])) _
          refine XS.dup X22.here hx rfl (hb hby d2_49) rfl rfl ?_
          show Steps p.tables e below (T22.setTop (mkF m 50 #[.val (.ref r0), .val (.int p1)] [(.ref b22), (.ref b22), (.ref b21), (.ref b21)])) _
          refine XS.iconst X22.here hx rfl (hb hby d2_50) ?_
          show Steps p.tables e below (T22.setTop (mkF m 51 #[.val (.ref r0), .val (.int p1)] [(.int (0 : Int32)), (.ref b22), (.ref b22), (.ref b21), (.ref b21)])) _
          refine XS.aloadN X22.here hx rfl (hb hby d2_51) rfl rfl ?_
          show Steps p.tables e below (T22.setTop (mkF m 52 #[.val (.ref r0), .val (.int p1)] [(.ref r0), (.int (0 : Int32)), (.ref b22), (.ref b22), (.ref b21), (.ref b21)])) _
          refine XS.iconst X22.here hx rfl (hb hby d2_52) ?_
          show Steps p.tables e below (T22.setTop (mkF m 53 #[.val (.ref r0), .val (.int p1)] [(.int (0 : Int32)), (.ref r0), (.int (0 : Int32)), (.ref b22), (.ref b22), (.ref b21), (.ref b21)])) _
          refine X22.caload hx (j := (0 : Int32)) (v := (.int c0)) (by rw [e22]; exact Ar23.1) (State.isArrayOf_alike hZ.alike Ar23.2.1) Ar23.2.2 hin23 hat23 (g := (mkF m 53 #[.val (.ref r0), .val (.int p1)] [(.int (0 : Int32)), (.ref r0), (.int (0 : Int32)), (.ref b22), (.ref b22), (.ref b21), (.ref b21)])) rfl rfl (hb hby d2_53) _ ?_
          show Steps p.tables e below (T22.setTop (mkF m 54 #[.val (.ref r0), .val (.int p1)] [(.int c0), (.int (0 : Int32)), (.ref b22), (.ref b22), (.ref b21), (.ref b21)])) _
          refine st25 _ ?_
          show Steps p.tables e below (T25.setTop (mkF m 55 #[.val (.ref r0), .val (.int p1)] [(.ref b22), (.ref b21), (.ref b21)])) _
          refine XS.dup X25.here hx rfl (hb hby d2_55) rfl rfl ?_
          show Steps p.tables e below (T25.setTop (mkF m 56 #[.val (.ref r0), .val (.int p1)] [(.ref b22), (.ref b22), (.ref b21), (.ref b21)])) _
          refine XS.iconst X25.here hx rfl (hb hby d2_56) ?_
          show Steps p.tables e below (T25.setTop (mkF m 57 #[.val (.ref r0), .val (.int p1)] [(.int (1 : Int32)), (.ref b22), (.ref b22), (.ref b21), (.ref b21)])) _
          refine XS.aloadN X25.here hx rfl (hb hby d2_57) rfl rfl ?_
          show Steps p.tables e below (T25.setTop (mkF m 58 #[.val (.ref r0), .val (.int p1)] [(.ref r0), (.int (1 : Int32)), (.ref b22), (.ref b22), (.ref b21), (.ref b21)])) _
          refine XS.iconst X25.here hx rfl (hb hby d2_58) ?_
          show Steps p.tables e below (T25.setTop (mkF m 59 #[.val (.ref r0), .val (.int p1)] [(.int (1 : Int32)), (.ref r0), (.int (1 : Int32)), (.ref b22), (.ref b22), (.ref b21), (.ref b21)])) _
          refine X25.caload hx (j := (1 : Int32)) (v := (.int c1)) (by rw [e25]; exact Ar26.1) (State.isArrayOf_alike hZ.alike Ar26.2.1) Ar26.2.2 hin26 hat26 (g := (mkF m 59 #[.val (.ref r0), .val (.int p1)] [(.int (1 : Int32)), (.ref r0), (.int (1 : Int32)), (.ref b22), (.ref b22), (.ref b21), (.ref b21)])) rfl rfl (hb hby d2_59) _ ?_
          show Steps p.tables e below (T25.setTop (mkF m 60 #[.val (.ref r0), .val (.int p1)] [(.int c1), (.int (1 : Int32)), (.ref b22), (.ref b22), (.ref b21), (.ref b21)])) _
          refine st28 _ ?_
          show Steps p.tables e below (T28.setTop (mkF m 61 #[.val (.ref r0), .val (.int p1)] [(.ref b22), (.ref b21), (.ref b21)])) _
          refine st29.trans ?_
          exact k
        obtain ⟨fs, hr, hrun, hended, hend⟩ := X29.leaveW (v := some (.ref b21)) hS0 hk29 (fun h => by rw [Bd.returns] at h; cases h) hlk
        refine ⟨_, _, ?_, hrun, hended, _, _, rfl, ?_, ?_, ⟨_, rfl⟩, hend.2.1, hend.2.2.1, hend.2.2.2.mono (by decide) (by decide)⟩
        · show Steps p.tables e below (T29.setTop (mkF m 64 #[.val (.ref r0), .val (.int p1)] [(.ref b21)])) _
          exact own_retV X29 hx Bd.returns rfl rfl (hb hby d2_64) hr
        · show Q2 Z r0 p1 kC c0 c1 c2 c3 c4 c5 c6 c7 zCS h0 n0 _ T29.heap _
          exact ⟨b21, [(nar .char c0), (nar .char c1)], rfl, N29, K29, E29q, C29q, (fun c hc => by
              simp only [List.mem_cons, List.not_mem_nil, or_false] at hc
              rcases hc with rfl | rfl
              · exact own_rgl (own_rgr g0)
              · exact own_rgl (own_rgr g1)), Nat.le_of_ble_eq_true rfl, _, _, V29q, A29q⟩
        · show CHr Z consts_1 s.vm s.heap T29.vm T29.heap
          rw [hh]
          exact Cx29.trans (CHv.at X29 hZ hEL Cx29.1)
      · -- hc20: no
        refine own_go (A' := (s₁.setTop (mkF m 65 #[.val (.ref r0), .val (.int p1)] []))) (fun t k => XS.icmpYes X0.here hx rfl (pc0 := 39) (pc' := 65) rfl (hb hby d2_39) rfl (feq hc20).2 (by decide) (by decide) k) ?_
        refine own_go (A' := (s₁.setTop (mkF m 67 #[.val (.ref r0), .val (.int p1)] [(.int (3 : Int32)), (.int p1)]))) (fun t k => ?_) ?_
        · show Steps p.tables e below (s₁.setTop (mkF m 65 #[.val (.ref r0), .val (.int p1)] [])) _
          refine XS.iloadN X0.here hx rfl (hb hby d2_65) rfl ?_
          show Steps p.tables e below (s₁.setTop (mkF m 66 #[.val (.ref r0), .val (.int p1)] [(.int p1)])) _
          refine XS.iconst X0.here hx rfl (hb hby d2_66) ?_
          exact k
        by_cases hc31 : p1 = (3 : Int32)
        · -- hc31: yes
          refine own_go (A' := (s₁.setTop (mkF m 70 #[.val (.ref r0), .val (.int p1)] []))) (fun t k => XS.icmpNo X0.here hx rfl (hb hby d2_67) rfl (teq hc31).2 k) ?_
          obtain ⟨T32, h32, X32, e32, E32, A32, D32, -, st32⟩ := newO X0 hx hZ hown (hw _ (List.mem_of_getElem? (i := 8) rfl)) (hw _ (List.mem_of_getElem? (i := 9) rfl)) (hw _ (List.mem_of_getElem? (i := 10) rfl)) e0 (g := (mkF m 70 #[.val (.ref r0), .val (.int p1)] [])) rfl (hb hby d2_70) (by decide) (by decide)
          obtain ⟨b32, g32⟩ : ∃ z, z = h0.size := ⟨_, rfl⟩
          have sz_b32 : h0.size ≤ b32 := Nat.le_of_eq g32.symm
          have ne_r0_b32 : r0 ≠ b32 := Nat.ne_of_lt (Nat.lt_of_lt_of_le V_r0.lt (Nat.le_of_eq g32.symm))
          rw [← g32] at A32 D32 st32
          have hk32 := Nat.le_trans hk0 E32.1
          have Cx32 := Cx0.trans (CHr.ext E32 Cx0.1)
          have K32 : Keep h0 h32 [] := (Keep.refl h0 []).ext E32
          have B32 : Ext h0 h32 := own_keep_ext K32
          have F32_coder : Fld Z h32 b32 "java/lang/String" "coder" "B" (.int (0 : Int32)) := D32 (Or.inr (hw _ (List.mem_of_getElem? (i := 34) rfl))) (ty := .byte) (by decide)
          have F32_value : Fld Z h32 b32 "java/lang/String" "value" "[B" .null := D32 (Or.inr (hw _ (List.mem_of_getElem? (i := 36) rfl))) (ty := (.array .byte)) (by decide)
          obtain ⟨T33, h33, k33, X33, e33, E33, A33, st33⟩ := newP X32 hx hZ (hw _ (List.mem_of_getElem? (i := 0) rfl)) e32 (g := (mkF m 75 #[.val (.ref r0), .val (.int p1)] [(.int (3 : Int32)), (.ref b32), (.ref b32)])) rfl (hb hby d2_75) rfl (by decide) (cap := 3) (by decide) (by decide) (by decide) (by decide)
          obtain ⟨b33, g33⟩ : ∃ z, z = h32.size := ⟨_, rfl⟩
          have sz_b33 : h0.size ≤ b33 := Nat.le_trans K32.1 (Nat.le_of_eq g33.symm)
          have ne_r0_b33 : r0 ≠ b33 := Nat.ne_of_lt (Nat.lt_of_lt_of_le (V_r0.ext E32).lt (Nat.le_of_eq g33.symm))
          have ne_b32_b33 : b32 ≠ b33 := Nat.ne_of_lt (Nat.lt_of_lt_of_le A32.lt (Nat.le_of_eq g33.symm))
          rw [← g33] at A33 st33
          have hk33 := Nat.le_trans hk32 E33.1
          have Cx33 := Cx32.trans (CHr.ext E33 Cx32.1)
          have K33 : Keep h0 h33 [] := K32.ext E33
          have B33 : Ext h0 h33 := own_keep_ext K33
          have V33 : Arv Z h33 b33 k33 .char (3 : Int32) [(.int (0 : Int32)), (.int (0 : Int32)), (.int (0 : Int32))] (.int (0 : Int32)) := (Arv.new A33 (by decide)).pad (pad_rep [] (.int (0 : Int32)) 3)
          obtain ⟨cl34, Ar34, q34, S34, N34, H34, G34⟩ := id ((V_r0.ext E32).ext E33)
          have hin34 : ¬ ((0 : Int32) < 0 ∨ cl34.slots.size ≤ ((0 : Int32)).toNatClampNeg) := inb_of S34 ⟨by decide, by decide⟩
          have hat34 : cl34.slots[((0 : Int32)).toNatClampNeg]? = some (.int c0) := (H34 _ (Nat.lt_of_not_le fun q => hin34 (Or.inr q))).trans rfl
          obtain ⟨cl35, Ar35, q35, S35, N35, H35, G35⟩ := id V33
          have hin35 : ¬ ((0 : Int32) < 0 ∨ cl35.slots.size ≤ ((0 : Int32)).toNatClampNeg) := inb_of S35 ⟨by decide, by decide⟩
          obtain ⟨T36, h36, X36, e36, W36, st36⟩ := stC X33 hx hZ e33 Ar35 (j := (0 : Int32)) hin35  (g := (mkF m 82 #[.val (.ref r0), .val (.int p1)] [(.int c0), (.int (0 : Int32)), (.ref b33), (.ref b33), (.ref b32), (.ref b32)])) rfl rfl (hb hby d2_82)
          have Sf36 : Safe Z consts_1 s.vm h33 b33 := (own_safe_arv hZ.alike V33 (by decide))
          have hk36 := Nat.le_trans hk33 (Keep.of_wr W36).1
          have Cx36 := Cx33.trans (CHr.wr W36 Sf36 Cx33.1)
          have K36 : Keep h0 h36 [] := K33.wr W36 (Or.inr sz_b33)
          have B36 : Ext h0 h36 := own_keep_ext K36
          have N36 := Fr.snoc X36 N0 (Nat.le_trans Z0 sz_b33)
          have V36 : Arv Z h36 b33 k33 .char (3 : Int32) [(.int (nar .char c0)), (.int (0 : Int32)), (.int (0 : Int32))] (.int (0 : Int32)) := Arv.set Ar35 q35 S35 N35 H35 G35 (fits_nar_char _) W36 0 rfl (Nat.le_of_ble_eq_true rfl)
          obtain ⟨cl37, Ar37, q37, S37, N37, H37, G37⟩ := id (((V_r0.ext E32).ext E33).other W36 ne_r0_b33)
          have hin37 : ¬ ((1 : Int32) < 0 ∨ cl37.slots.size ≤ ((1 : Int32)).toNatClampNeg) := inb_of S37 ⟨by decide, by decide⟩
          have hat37 : cl37.slots[((1 : Int32)).toNatClampNeg]? = some (.int c1) := (H37 _ (Nat.lt_of_not_le fun q => hin37 (Or.inr q))).trans rfl
          obtain ⟨cl38, Ar38, q38, S38, N38, H38, G38⟩ := id V36
          have hin38 : ¬ ((1 : Int32) < 0 ∨ cl38.slots.size ≤ ((1 : Int32)).toNatClampNeg) := inb_of S38 ⟨by decide, by decide⟩
          obtain ⟨T39, h39, X39, e39, W39, st39⟩ := stC X36 hx hZ e36 Ar38 (j := (1 : Int32)) hin38  (g := (mkF m 88 #[.val (.ref r0), .val (.int p1)] [(.int c1), (.int (1 : Int32)), (.ref b33), (.ref b33), (.ref b32), (.ref b32)])) rfl rfl (hb hby d2_88)
          have Sf39 : Safe Z consts_1 s.vm h36 b33 := (own_safe_arv hZ.alike V36 (by decide))
          have hk39 := Nat.le_trans hk36 (Keep.of_wr W39).1
          have Cx39 := Cx36.trans (CHr.wr W39 Sf39 Cx36.1)
          have K39 : Keep h0 h39 [] := K36.wr W39 (Or.inr sz_b33)
          have B39 : Ext h0 h39 := own_keep_ext K39
          have N39 := Fr.snoc X39 N36 (Nat.le_trans Z0 sz_b33)
          have V39 : Arv Z h39 b33 k33 .char (3 : Int32) [(.int (nar .char c0)), (.int (nar .char c1)), (.int (0 : Int32))] (.int (0 : Int32)) := Arv.set Ar38 q38 S38 N38 H38 G38 (fits_nar_char _) W39 1 rfl (Nat.le_of_ble_eq_true rfl)
          obtain ⟨cl40, Ar40, q40, S40, N40, H40, G40⟩ := id ((((V_r0.ext E32).ext E33).other W36 ne_r0_b33).other W39 ne_r0_b33)
          have hin40 : ¬ ((2 : Int32) < 0 ∨ cl40.slots.size ≤ ((2 : Int32)).toNatClampNeg) := inb_of S40 ⟨by decide, by decide⟩
          have hat40 : cl40.slots[((2 : Int32)).toNatClampNeg]? = some (.int c2) := (H40 _ (Nat.lt_of_not_le fun q => hin40 (Or.inr q))).trans rfl
          obtain ⟨cl41, Ar41, q41, S41, N41, H41, G41⟩ := id V39
          have hin41 : ¬ ((2 : Int32) < 0 ∨ cl41.slots.size ≤ ((2 : Int32)).toNatClampNeg) := inb_of S41 ⟨by decide, by decide⟩
          obtain ⟨T42, h42, X42, e42, W42, st42⟩ := stC X39 hx hZ e39 Ar41 (j := (2 : Int32)) hin41  (g := (mkF m 94 #[.val (.ref r0), .val (.int p1)] [(.int c2), (.int (2 : Int32)), (.ref b33), (.ref b33), (.ref b32), (.ref b32)])) rfl rfl (hb hby d2_94)
          have Sf42 : Safe Z consts_1 s.vm h39 b33 := (own_safe_arv hZ.alike V39 (by decide))
          have hk42 := Nat.le_trans hk39 (Keep.of_wr W42).1
          have Cx42 := Cx39.trans (CHr.wr W42 Sf42 Cx39.1)
          have K42 : Keep h0 h42 [] := K39.wr W42 (Or.inr sz_b33)
          have B42 : Ext h0 h42 := own_keep_ext K42
          have N42 := Fr.snoc X42 N39 (Nat.le_trans Z0 sz_b33)
          have V42 : Arv Z h42 b33 k33 .char (3 : Int32) [(.int (nar .char c0)), (.int (nar .char c1)), (.int (nar .char c2))] (.int (0 : Int32)) := Arv.set Ar41 q41 S41 N41 H41 G41 (fits_nar_char _) W42 2 rfl (Nat.le_of_ble_eq_true rfl)
          have hws44 : ∀ d ∈ StrChars.Road.words, d.before a0 Z = true := fun d hd => hw d ((by decide +kernel : ∀ d ∈ StrChars.Road.words, d ∈ tables_1) d hd)
          have hlat44 : ∀ c ∈ ([(nar .char c0), (nar .char c1), (nar .char c2)] : List Int32), ¬ c < 0 ∧ ¬ (255 : Int32) < c := by
            intro c hc
            simp only [List.mem_cons, List.not_mem_nil, or_false] at hc
            rcases hc with rfl | rfl | rfl
            · exact own_rgl (own_rgr g0)
            · exact own_rgl (own_rgr g1)
            · exact own_rgl (own_rgr g2)
          obtain ⟨_, _, ⟨T43, L43, k43, n43⟩, -, X43, ⟨Lc43, hQ43, l43, y43, z43⟩, st43⟩ := X42.specialBack hx (y := (⟨"java/lang/String", "<init>", "([C)V"⟩ : MethodName)) rfl hown (mvT hZ (hw _ (List.mem_of_getElem? (i := 11) rfl))) (mvT hZ (hw _ (List.mem_of_getElem? (i := 12) rfl))) (mvT hZ (hw _ (List.mem_of_getElem? (i := 13) rfl))) (by decide) (StrChars.Road.backV (W := 1) hZ hws44 (kI := 4) (hw _ (List.mem_of_getElem? (i := 9) rfl)) (cs := [(nar .char c0), (nar .char c1), (nar .char c2)]) (bs := [((nar .char c0)).toInt8.toInt32, ((nar .char c1)).toInt8.toInt32, ((nar .char c2)).toInt8.toInt32]) (n := 3) (Nat.le_trans Z0 sz_b32) (Nat.le_trans Z0 K42.1) ((((A32.ext E33).wr W36).wr W39).wr W42) ((((F32_value.ext E33).other W36 (Or.inl ne_b32_b33)).other W39 (Or.inl ne_b32_b33)).other W42 (Or.inl ne_b32_b33)) ((((F32_coder.ext E33).other W36 (Or.inl ne_b32_b33)).other W39 (Or.inl ne_b32_b33)).other W42 (Or.inl ne_b32_b33)) V42 (S_CS.ext B42) hCS rfl rfl (by decide) (by decide) hlat44 rfl (by decide) (by decide)) (g := (mkF m 95 #[.val (.ref r0), .val (.int p1)] [(.ref b33), (.ref b32), (.ref b32)])) rfl (by rw [hml]; rfl) (Steps.refl _) (a := b32) (argsL := [(.ref b33)]) (rest := [(.ref b32)]) (lenOf pd_1 rfl) rfl (by show 2 * 0 + _ ≤ _; exact Nat.le_of_eq rfl) (hb hby d2_95) (fun _ _ => ⟨rfl, e42, (by decide : 2 + 1 ≤ _), (by decide : 7 + 3 ≤ _)⟩)
          dsimp only [Pt.U, Pt.locs, Pt.cells, Pt.slots] at X43 l43 y43 z43 st43 hQ43
          subst l43 y43 z43
          obtain ⟨rfl, N43q, K43q, E43q, C43q, t43, kb43, ht43a, ht43b, ht43c, V43q, A43q⟩ := hQ43
          have N43 := Fr.app N42 N43q
          have As43 : ∀ x ∈ ([b32] : List Addr), Safe Z consts_1 s.vm h42 x := (allS (own_safe_null hZ.alike ((((A32.ext E33).wr W36).wr W39).wr W42) ((((F32_value.ext E33).other W36 (Or.inl ne_b32_b33)).other W39 (Or.inl ne_b32_b33)).other W42 (Or.inl ne_b32_b33))) all0)
          have hk43 := Nat.le_trans hk42 K43q.1
          have Cx43 := Cx42.trans (CHr.keep K43q As43 Cx42.1)
          have K43 : Keep h0 T43.heap [] := K42.trans K43q (allS (Or.inr sz_b32) all0)
          have B43 : Ext h0 T43.heap := own_keep_ext K43
          refine own_go (A' := (T43.setTop (mkF m 98 #[.val (.ref r0), .val (.int p1)] [(.ref b32)]))) (fun t k => ?_) ?_
          · show Steps p.tables e below (s₁.setTop (mkF m 70 #[.val (.ref r0), .val (.int p1)] [])) _
            refine st32 _ ?_
            show Steps p.tables e below (T32.setTop (mkF m 73 #[.val (.ref r0), .val (.int p1)] [(.ref b32)])) _
            refine XS.dup X32.here hx rfl (hb hby d2_73) rfl rfl ?_
            show Steps p.tables e below (T32.setTop (mkF m 74 #[.val (.ref r0), .val (.int p1)] [(.ref b32), (.ref b32)])) _
            refine XS.iconst X32.here hx rfl (hb hby d2_74) ?_
            show Steps p.tables e below (T32.setTop (mkF m 75 #[.val (.ref r0), .val (.int p1)] [(.int (3 : Int32)), (.ref b32), (.ref b32)])) _
            refine st33 _ ?_
            show Steps p.tables e below (T33.setTop (mkF m 77 #[.val (.ref r0), .val (.int p1)] [(.ref b33), (.ref b32), (.ref b32)])) _
            refine XS.dup X33.here hx rfl (hb hby d2_77) rfl rfl ?_
            show Steps p.tables e below (T33.setTop (mkF m 78 #[.val (.ref r0), .val (.int p1)] [(.ref b33), (.ref b33), (.ref b32), (.ref b32)])) _
            refine XS.iconst X33.here hx rfl (hb hby d2_78) ?_
            show Steps p.tables e below (T33.setTop (mkF m 79 #[.val (.ref r0), .val (.int p1)] [(.int (0 : Int32)), (.ref b33), (.ref b33), (.ref b32), (.ref b32)])) _
            refine XS.aloadN X33.here hx rfl (hb hby d2_79) rfl rfl ?_
            show Steps p.tables e below (T33.setTop (mkF m 80 #[.val (.ref r0), .val (.int p1)] [(.ref r0), (.int (0 : Int32)), (.ref b33), (.ref b33), (.ref b32), (.ref b32)])) _
            refine XS.iconst X33.here hx rfl (hb hby d2_80) ?_
            show Steps p.tables e below (T33.setTop (mkF m 81 #[.val (.ref r0), .val (.int p1)] [(.int (0 : Int32)), (.ref r0), (.int (0 : Int32)), (.ref b33), (.ref b33), (.ref b32), (.ref b32)])) _
            refine X33.caload hx (j := (0 : Int32)) (v := (.int c0)) (by rw [e33]; exact Ar34.1) (State.isArrayOf_alike hZ.alike Ar34.2.1) Ar34.2.2 hin34 hat34 (g := (mkF m 81 #[.val (.ref r0), .val (.int p1)] [(.int (0 : Int32)), (.ref r0), (.int (0 : Int32)), (.ref b33), (.ref b33), (.ref b32), (.ref b32)])) rfl rfl (hb hby d2_81) _ ?_
            show Steps p.tables e below (T33.setTop (mkF m 82 #[.val (.ref r0), .val (.int p1)] [(.int c0), (.int (0 : Int32)), (.ref b33), (.ref b33), (.ref b32), (.ref b32)])) _
            refine st36 _ ?_
            show Steps p.tables e below (T36.setTop (mkF m 83 #[.val (.ref r0), .val (.int p1)] [(.ref b33), (.ref b32), (.ref b32)])) _
            refine XS.dup X36.here hx rfl (hb hby d2_83) rfl rfl ?_
            show Steps p.tables e below (T36.setTop (mkF m 84 #[.val (.ref r0), .val (.int p1)] [(.ref b33), (.ref b33), (.ref b32), (.ref b32)])) _
            refine XS.iconst X36.here hx rfl (hb hby d2_84) ?_
            show Steps p.tables e below (T36.setTop (mkF m 85 #[.val (.ref r0), .val (.int p1)] [(.int (1 : Int32)), (.ref b33), (.ref b33), (.ref b32), (.ref b32)])) _
            refine XS.aloadN X36.here hx rfl (hb hby d2_85) rfl rfl ?_
            show Steps p.tables e below (T36.setTop (mkF m 86 #[.val (.ref r0), .val (.int p1)] [(.ref r0), (.int (1 : Int32)), (.ref b33), (.ref b33), (.ref b32), (.ref b32)])) _
            refine XS.iconst X36.here hx rfl (hb hby d2_86) ?_
            show Steps p.tables e below (T36.setTop (mkF m 87 #[.val (.ref r0), .val (.int p1)] [(.int (1 : Int32)), (.ref r0), (.int (1 : Int32)), (.ref b33), (.ref b33), (.ref b32), (.ref b32)])) _
            refine X36.caload hx (j := (1 : Int32)) (v := (.int c1)) (by rw [e36]; exact Ar37.1) (State.isArrayOf_alike hZ.alike Ar37.2.1) Ar37.2.2 hin37 hat37 (g := (mkF m 87 #[.val (.ref r0), .val (.int p1)] [(.int (1 : Int32)), (.ref r0), (.int (1 : Int32)), (.ref b33), (.ref b33), (.ref b32), (.ref b32)])) rfl rfl (hb hby d2_87) _ ?_
            show Steps p.tables e below (T36.setTop (mkF m 88 #[.val (.ref r0), .val (.int p1)] [(.int c1), (.int (1 : Int32)), (.ref b33), (.ref b33), (.ref b32), (.ref b32)])) _
            refine st39 _ ?_
            show Steps p.tables e below (T39.setTop (mkF m 89 #[.val (.ref r0), .val (.int p1)] [(.ref b33), (.ref b32), (.ref b32)])) _
            refine XS.dup X39.here hx rfl (hb hby d2_89) rfl rfl ?_
            show Steps p.tables e below (T39.setTop (mkF m 90 #[.val (.ref r0), .val (.int p1)] [(.ref b33), (.ref b33), (.ref b32), (.ref b32)])) _
            refine XS.iconst X39.here hx rfl (hb hby d2_90) ?_
            show Steps p.tables e below (T39.setTop (mkF m 91 #[.val (.ref r0), .val (.int p1)] [(.int (2 : Int32)), (.ref b33), (.ref b33), (.ref b32), (.ref b32)])) _
            refine XS.aloadN X39.here hx rfl (hb hby d2_91) rfl rfl ?_
            show Steps p.tables e below (T39.setTop (mkF m 92 #[.val (.ref r0), .val (.int p1)] [(.ref r0), (.int (2 : Int32)), (.ref b33), (.ref b33), (.ref b32), (.ref b32)])) _
            refine XS.iconst X39.here hx rfl (hb hby d2_92) ?_
            show Steps p.tables e below (T39.setTop (mkF m 93 #[.val (.ref r0), .val (.int p1)] [(.int (2 : Int32)), (.ref r0), (.int (2 : Int32)), (.ref b33), (.ref b33), (.ref b32), (.ref b32)])) _
            refine X39.caload hx (j := (2 : Int32)) (v := (.int c2)) (by rw [e39]; exact Ar40.1) (State.isArrayOf_alike hZ.alike Ar40.2.1) Ar40.2.2 hin40 hat40 (g := (mkF m 93 #[.val (.ref r0), .val (.int p1)] [(.int (2 : Int32)), (.ref r0), (.int (2 : Int32)), (.ref b33), (.ref b33), (.ref b32), (.ref b32)])) rfl rfl (hb hby d2_93) _ ?_
            show Steps p.tables e below (T39.setTop (mkF m 94 #[.val (.ref r0), .val (.int p1)] [(.int c2), (.int (2 : Int32)), (.ref b33), (.ref b33), (.ref b32), (.ref b32)])) _
            refine st42 _ ?_
            show Steps p.tables e below (T42.setTop (mkF m 95 #[.val (.ref r0), .val (.int p1)] [(.ref b33), (.ref b32), (.ref b32)])) _
            refine st43.trans ?_
            exact k
          obtain ⟨fs, hr, hrun, hended, hend⟩ := X43.leaveW (v := some (.ref b32)) hS0 hk43 (fun h => by rw [Bd.returns] at h; cases h) hlk
          refine ⟨_, _, ?_, hrun, hended, _, _, rfl, ?_, ?_, ⟨_, rfl⟩, hend.2.1, hend.2.2.1, hend.2.2.2.mono (by decide) (by decide)⟩
          · show Steps p.tables e below (T43.setTop (mkF m 98 #[.val (.ref r0), .val (.int p1)] [(.ref b32)])) _
            exact own_retV X43 hx Bd.returns rfl rfl (hb hby d2_98) hr
          · show Q2 Z r0 p1 kC c0 c1 c2 c3 c4 c5 c6 c7 zCS h0 n0 _ T43.heap _
            exact ⟨b32, [(nar .char c0), (nar .char c1), (nar .char c2)], rfl, N43, K43, E43q, C43q, (fun c hc => by
                simp only [List.mem_cons, List.not_mem_nil, or_false] at hc
                rcases hc with rfl | rfl | rfl
                · exact own_rgl (own_rgr g0)
                · exact own_rgl (own_rgr g1)
                · exact own_rgl (own_rgr g2)), Nat.le_of_ble_eq_true rfl, _, _, V43q, A43q⟩
          · show CHr Z consts_1 s.vm s.heap T43.vm T43.heap
            rw [hh]
            exact Cx43.trans (CHv.at X43 hZ hEL Cx43.1)
        · -- hc31: no
          refine own_go (A' := (s₁.setTop (mkF m 99 #[.val (.ref r0), .val (.int p1)] []))) (fun t k => XS.icmpYes X0.here hx rfl (pc0 := 67) (pc' := 99) rfl (hb hby d2_67) rfl (feq hc31).2 (by decide) (by decide) k) ?_
          refine own_go (A' := (s₁.setTop (mkF m 101 #[.val (.ref r0), .val (.int p1)] [(.int (4 : Int32)), (.int p1)]))) (fun t k => ?_) ?_
          · show Steps p.tables e below (s₁.setTop (mkF m 99 #[.val (.ref r0), .val (.int p1)] [])) _
            refine XS.iloadN X0.here hx rfl (hb hby d2_99) rfl ?_
            show Steps p.tables e below (s₁.setTop (mkF m 100 #[.val (.ref r0), .val (.int p1)] [(.int p1)])) _
            refine XS.iconst X0.here hx rfl (hb hby d2_100) ?_
            exact k
          by_cases hc45 : p1 = (4 : Int32)
          · -- hc45: yes
            refine own_go (A' := (s₁.setTop (mkF m 104 #[.val (.ref r0), .val (.int p1)] []))) (fun t k => XS.icmpNo X0.here hx rfl (hb hby d2_101) rfl (teq hc45).2 k) ?_
            obtain ⟨T46, h46, X46, e46, E46, A46, D46, -, st46⟩ := newO X0 hx hZ hown (hw _ (List.mem_of_getElem? (i := 8) rfl)) (hw _ (List.mem_of_getElem? (i := 9) rfl)) (hw _ (List.mem_of_getElem? (i := 10) rfl)) e0 (g := (mkF m 104 #[.val (.ref r0), .val (.int p1)] [])) rfl (hb hby d2_104) (by decide) (by decide)
            obtain ⟨b46, g46⟩ : ∃ z, z = h0.size := ⟨_, rfl⟩
            have sz_b46 : h0.size ≤ b46 := Nat.le_of_eq g46.symm
            have ne_r0_b46 : r0 ≠ b46 := Nat.ne_of_lt (Nat.lt_of_lt_of_le V_r0.lt (Nat.le_of_eq g46.symm))
            rw [← g46] at A46 D46 st46
            have hk46 := Nat.le_trans hk0 E46.1
            have Cx46 := Cx0.trans (CHr.ext E46 Cx0.1)
            have K46 : Keep h0 h46 [] := (Keep.refl h0 []).ext E46
            have B46 : Ext h0 h46 := own_keep_ext K46
            have F46_coder : Fld Z h46 b46 "java/lang/String" "coder" "B" (.int (0 : Int32)) := D46 (Or.inr (hw _ (List.mem_of_getElem? (i := 34) rfl))) (ty := .byte) (by decide)
            have F46_value : Fld Z h46 b46 "java/lang/String" "value" "[B" .null := D46 (Or.inr (hw _ (List.mem_of_getElem? (i := 36) rfl))) (ty := (.array .byte)) (by decide)
            obtain ⟨T47, h47, k47, X47, e47, E47, A47, st47⟩ := newP X46 hx hZ (hw _ (List.mem_of_getElem? (i := 0) rfl)) e46 (g := (mkF m 109 #[.val (.ref r0), .val (.int p1)] [(.int (4 : Int32)), (.ref b46), (.ref b46)])) rfl (hb hby d2_109) rfl (by decide) (cap := 4) (by decide) (by decide) (by decide) (by decide)
            obtain ⟨b47, g47⟩ : ∃ z, z = h46.size := ⟨_, rfl⟩
            have sz_b47 : h0.size ≤ b47 := Nat.le_trans K46.1 (Nat.le_of_eq g47.symm)
            have ne_r0_b47 : r0 ≠ b47 := Nat.ne_of_lt (Nat.lt_of_lt_of_le (V_r0.ext E46).lt (Nat.le_of_eq g47.symm))
            have ne_b46_b47 : b46 ≠ b47 := Nat.ne_of_lt (Nat.lt_of_lt_of_le A46.lt (Nat.le_of_eq g47.symm))
            rw [← g47] at A47 st47
            have hk47 := Nat.le_trans hk46 E47.1
            have Cx47 := Cx46.trans (CHr.ext E47 Cx46.1)
            have K47 : Keep h0 h47 [] := K46.ext E47
            have B47 : Ext h0 h47 := own_keep_ext K47
            have V47 : Arv Z h47 b47 k47 .char (4 : Int32) [(.int (0 : Int32)), (.int (0 : Int32)), (.int (0 : Int32)), (.int (0 : Int32))] (.int (0 : Int32)) := (Arv.new A47 (by decide)).pad (pad_rep [] (.int (0 : Int32)) 4)
            obtain ⟨cl48, Ar48, q48, S48, N48, H48, G48⟩ := id ((V_r0.ext E46).ext E47)
            have hin48 : ¬ ((0 : Int32) < 0 ∨ cl48.slots.size ≤ ((0 : Int32)).toNatClampNeg) := inb_of S48 ⟨by decide, by decide⟩
            have hat48 : cl48.slots[((0 : Int32)).toNatClampNeg]? = some (.int c0) := (H48 _ (Nat.lt_of_not_le fun q => hin48 (Or.inr q))).trans rfl
            obtain ⟨cl49, Ar49, q49, S49, N49, H49, G49⟩ := id V47
            have hin49 : ¬ ((0 : Int32) < 0 ∨ cl49.slots.size ≤ ((0 : Int32)).toNatClampNeg) := inb_of S49 ⟨by decide, by decide⟩
            obtain ⟨T50, h50, X50, e50, W50, st50⟩ := stC X47 hx hZ e47 Ar49 (j := (0 : Int32)) hin49  (g := (mkF m 116 #[.val (.ref r0), .val (.int p1)] [(.int c0), (.int (0 : Int32)), (.ref b47), (.ref b47), (.ref b46), (.ref b46)])) rfl rfl (hb hby d2_116)
            have Sf50 : Safe Z consts_1 s.vm h47 b47 := (own_safe_arv hZ.alike V47 (by decide))
            have hk50 := Nat.le_trans hk47 (Keep.of_wr W50).1
            have Cx50 := Cx47.trans (CHr.wr W50 Sf50 Cx47.1)
            have K50 : Keep h0 h50 [] := K47.wr W50 (Or.inr sz_b47)
            have B50 : Ext h0 h50 := own_keep_ext K50
            have N50 := Fr.snoc X50 N0 (Nat.le_trans Z0 sz_b47)
            have V50 : Arv Z h50 b47 k47 .char (4 : Int32) [(.int (nar .char c0)), (.int (0 : Int32)), (.int (0 : Int32)), (.int (0 : Int32))] (.int (0 : Int32)) := Arv.set Ar49 q49 S49 N49 H49 G49 (fits_nar_char _) W50 0 rfl (Nat.le_of_ble_eq_true rfl)
            obtain ⟨cl51, Ar51, q51, S51, N51, H51, G51⟩ := id (((V_r0.ext E46).ext E47).other W50 ne_r0_b47)
            have hin51 : ¬ ((1 : Int32) < 0 ∨ cl51.slots.size ≤ ((1 : Int32)).toNatClampNeg) := inb_of S51 ⟨by decide, by decide⟩
            have hat51 : cl51.slots[((1 : Int32)).toNatClampNeg]? = some (.int c1) := (H51 _ (Nat.lt_of_not_le fun q => hin51 (Or.inr q))).trans rfl
            obtain ⟨cl52, Ar52, q52, S52, N52, H52, G52⟩ := id V50
            have hin52 : ¬ ((1 : Int32) < 0 ∨ cl52.slots.size ≤ ((1 : Int32)).toNatClampNeg) := inb_of S52 ⟨by decide, by decide⟩
            obtain ⟨T53, h53, X53, e53, W53, st53⟩ := stC X50 hx hZ e50 Ar52 (j := (1 : Int32)) hin52  (g := (mkF m 122 #[.val (.ref r0), .val (.int p1)] [(.int c1), (.int (1 : Int32)), (.ref b47), (.ref b47), (.ref b46), (.ref b46)])) rfl rfl (hb hby d2_122)
            have Sf53 : Safe Z consts_1 s.vm h50 b47 := (own_safe_arv hZ.alike V50 (by decide))
            have hk53 := Nat.le_trans hk50 (Keep.of_wr W53).1
            have Cx53 := Cx50.trans (CHr.wr W53 Sf53 Cx50.1)
            have K53 : Keep h0 h53 [] := K50.wr W53 (Or.inr sz_b47)
            have B53 : Ext h0 h53 := own_keep_ext K53
            have N53 := Fr.snoc X53 N50 (Nat.le_trans Z0 sz_b47)
            have V53 : Arv Z h53 b47 k47 .char (4 : Int32) [(.int (nar .char c0)), (.int (nar .char c1)), (.int (0 : Int32)), (.int (0 : Int32))] (.int (0 : Int32)) := Arv.set Ar52 q52 S52 N52 H52 G52 (fits_nar_char _) W53 1 rfl (Nat.le_of_ble_eq_true rfl)
            obtain ⟨cl54, Ar54, q54, S54, N54, H54, G54⟩ := id ((((V_r0.ext E46).ext E47).other W50 ne_r0_b47).other W53 ne_r0_b47)
            have hin54 : ¬ ((2 : Int32) < 0 ∨ cl54.slots.size ≤ ((2 : Int32)).toNatClampNeg) := inb_of S54 ⟨by decide, by decide⟩
            have hat54 : cl54.slots[((2 : Int32)).toNatClampNeg]? = some (.int c2) := (H54 _ (Nat.lt_of_not_le fun q => hin54 (Or.inr q))).trans rfl
            obtain ⟨cl55, Ar55, q55, S55, N55, H55, G55⟩ := id V53
            have hin55 : ¬ ((2 : Int32) < 0 ∨ cl55.slots.size ≤ ((2 : Int32)).toNatClampNeg) := inb_of S55 ⟨by decide, by decide⟩
            obtain ⟨T56, h56, X56, e56, W56, st56⟩ := stC X53 hx hZ e53 Ar55 (j := (2 : Int32)) hin55  (g := (mkF m 128 #[.val (.ref r0), .val (.int p1)] [(.int c2), (.int (2 : Int32)), (.ref b47), (.ref b47), (.ref b46), (.ref b46)])) rfl rfl (hb hby d2_128)
            have Sf56 : Safe Z consts_1 s.vm h53 b47 := (own_safe_arv hZ.alike V53 (by decide))
            have hk56 := Nat.le_trans hk53 (Keep.of_wr W56).1
            have Cx56 := Cx53.trans (CHr.wr W56 Sf56 Cx53.1)
            have K56 : Keep h0 h56 [] := K53.wr W56 (Or.inr sz_b47)
            have B56 : Ext h0 h56 := own_keep_ext K56
            have N56 := Fr.snoc X56 N53 (Nat.le_trans Z0 sz_b47)
            have V56 : Arv Z h56 b47 k47 .char (4 : Int32) [(.int (nar .char c0)), (.int (nar .char c1)), (.int (nar .char c2)), (.int (0 : Int32))] (.int (0 : Int32)) := Arv.set Ar55 q55 S55 N55 H55 G55 (fits_nar_char _) W56 2 rfl (Nat.le_of_ble_eq_true rfl)
            obtain ⟨cl57, Ar57, q57, S57, N57, H57, G57⟩ := id (((((V_r0.ext E46).ext E47).other W50 ne_r0_b47).other W53 ne_r0_b47).other W56 ne_r0_b47)
            have hin57 : ¬ ((3 : Int32) < 0 ∨ cl57.slots.size ≤ ((3 : Int32)).toNatClampNeg) := inb_of S57 ⟨by decide, by decide⟩
            have hat57 : cl57.slots[((3 : Int32)).toNatClampNeg]? = some (.int c3) := (H57 _ (Nat.lt_of_not_le fun q => hin57 (Or.inr q))).trans rfl
            obtain ⟨cl58, Ar58, q58, S58, N58, H58, G58⟩ := id V56
            have hin58 : ¬ ((3 : Int32) < 0 ∨ cl58.slots.size ≤ ((3 : Int32)).toNatClampNeg) := inb_of S58 ⟨by decide, by decide⟩
            obtain ⟨T59, h59, X59, e59, W59, st59⟩ := stC X56 hx hZ e56 Ar58 (j := (3 : Int32)) hin58  (g := (mkF m 134 #[.val (.ref r0), .val (.int p1)] [(.int c3), (.int (3 : Int32)), (.ref b47), (.ref b47), (.ref b46), (.ref b46)])) rfl rfl (hb hby d2_134)
            have Sf59 : Safe Z consts_1 s.vm h56 b47 := (own_safe_arv hZ.alike V56 (by decide))
            have hk59 := Nat.le_trans hk56 (Keep.of_wr W59).1
            have Cx59 := Cx56.trans (CHr.wr W59 Sf59 Cx56.1)
            have K59 : Keep h0 h59 [] := K56.wr W59 (Or.inr sz_b47)
            have B59 : Ext h0 h59 := own_keep_ext K59
            have N59 := Fr.snoc X59 N56 (Nat.le_trans Z0 sz_b47)
            have V59 : Arv Z h59 b47 k47 .char (4 : Int32) [(.int (nar .char c0)), (.int (nar .char c1)), (.int (nar .char c2)), (.int (nar .char c3))] (.int (0 : Int32)) := Arv.set Ar58 q58 S58 N58 H58 G58 (fits_nar_char _) W59 3 rfl (Nat.le_of_ble_eq_true rfl)
            have hws61 : ∀ d ∈ StrChars.Road.words, d.before a0 Z = true := fun d hd => hw d ((by decide +kernel : ∀ d ∈ StrChars.Road.words, d ∈ tables_1) d hd)
            have hlat61 : ∀ c ∈ ([(nar .char c0), (nar .char c1), (nar .char c2), (nar .char c3)] : List Int32), ¬ c < 0 ∧ ¬ (255 : Int32) < c := by
              intro c hc
              simp only [List.mem_cons, List.not_mem_nil, or_false] at hc
              rcases hc with rfl | rfl | rfl | rfl
              · exact own_rgl (own_rgr g0)
              · exact own_rgl (own_rgr g1)
              · exact own_rgl (own_rgr g2)
              · exact own_rgl (own_rgr g3)
            obtain ⟨_, _, ⟨T60, L60, k60, n60⟩, -, X60, ⟨Lc60, hQ60, l60, y60, z60⟩, st60⟩ := X59.specialBack hx (y := (⟨"java/lang/String", "<init>", "([C)V"⟩ : MethodName)) rfl hown (mvT hZ (hw _ (List.mem_of_getElem? (i := 11) rfl))) (mvT hZ (hw _ (List.mem_of_getElem? (i := 12) rfl))) (mvT hZ (hw _ (List.mem_of_getElem? (i := 13) rfl))) (by decide) (StrChars.Road.backV (W := 1) hZ hws61 (kI := 4) (hw _ (List.mem_of_getElem? (i := 9) rfl)) (cs := [(nar .char c0), (nar .char c1), (nar .char c2), (nar .char c3)]) (bs := [((nar .char c0)).toInt8.toInt32, ((nar .char c1)).toInt8.toInt32, ((nar .char c2)).toInt8.toInt32, ((nar .char c3)).toInt8.toInt32]) (n := 4) (Nat.le_trans Z0 sz_b46) (Nat.le_trans Z0 K59.1) (((((A46.ext E47).wr W50).wr W53).wr W56).wr W59) (((((F46_value.ext E47).other W50 (Or.inl ne_b46_b47)).other W53 (Or.inl ne_b46_b47)).other W56 (Or.inl ne_b46_b47)).other W59 (Or.inl ne_b46_b47)) (((((F46_coder.ext E47).other W50 (Or.inl ne_b46_b47)).other W53 (Or.inl ne_b46_b47)).other W56 (Or.inl ne_b46_b47)).other W59 (Or.inl ne_b46_b47)) V59 (S_CS.ext B59) hCS rfl rfl (by decide) (by decide) hlat61 rfl (by decide) (by decide)) (g := (mkF m 135 #[.val (.ref r0), .val (.int p1)] [(.ref b47), (.ref b46), (.ref b46)])) rfl (by rw [hml]; rfl) (Steps.refl _) (a := b46) (argsL := [(.ref b47)]) (rest := [(.ref b46)]) (lenOf pd_1 rfl) rfl (by show 2 * 0 + _ ≤ _; exact Nat.le_of_eq rfl) (hb hby d2_135) (fun _ _ => ⟨rfl, e59, (by decide : 2 + 1 ≤ _), (by decide : 8 + 4 ≤ _)⟩)
            dsimp only [Pt.U, Pt.locs, Pt.cells, Pt.slots] at X60 l60 y60 z60 st60 hQ60
            subst l60 y60 z60
            obtain ⟨rfl, N60q, K60q, E60q, C60q, t60, kb60, ht60a, ht60b, ht60c, V60q, A60q⟩ := hQ60
            have N60 := Fr.app N59 N60q
            have As60 : ∀ x ∈ ([b46] : List Addr), Safe Z consts_1 s.vm h59 x := (allS (own_safe_null hZ.alike (((((A46.ext E47).wr W50).wr W53).wr W56).wr W59) (((((F46_value.ext E47).other W50 (Or.inl ne_b46_b47)).other W53 (Or.inl ne_b46_b47)).other W56 (Or.inl ne_b46_b47)).other W59 (Or.inl ne_b46_b47))) all0)
            have hk60 := Nat.le_trans hk59 K60q.1
            have Cx60 := Cx59.trans (CHr.keep K60q As60 Cx59.1)
            have K60 : Keep h0 T60.heap [] := K59.trans K60q (allS (Or.inr sz_b46) all0)
            have B60 : Ext h0 T60.heap := own_keep_ext K60
            refine own_go (A' := (T60.setTop (mkF m 138 #[.val (.ref r0), .val (.int p1)] [(.ref b46)]))) (fun t k => ?_) ?_
            · show Steps p.tables e below (s₁.setTop (mkF m 104 #[.val (.ref r0), .val (.int p1)] [])) _
              refine st46 _ ?_
              show Steps p.tables e below (T46.setTop (mkF m 107 #[.val (.ref r0), .val (.int p1)] [(.ref b46)])) _
              refine XS.dup X46.here hx rfl (hb hby d2_107) rfl rfl ?_
              show Steps p.tables e below (T46.setTop (mkF m 108 #[.val (.ref r0), .val (.int p1)] [(.ref b46), (.ref b46)])) _
              refine XS.iconst X46.here hx rfl (hb hby d2_108) ?_
              show Steps p.tables e below (T46.setTop (mkF m 109 #[.val (.ref r0), .val (.int p1)] [(.int (4 : Int32)), (.ref b46), (.ref b46)])) _
              refine st47 _ ?_
              show Steps p.tables e below (T47.setTop (mkF m 111 #[.val (.ref r0), .val (.int p1)] [(.ref b47), (.ref b46), (.ref b46)])) _
              refine XS.dup X47.here hx rfl (hb hby d2_111) rfl rfl ?_
              show Steps p.tables e below (T47.setTop (mkF m 112 #[.val (.ref r0), .val (.int p1)] [(.ref b47), (.ref b47), (.ref b46), (.ref b46)])) _
              refine XS.iconst X47.here hx rfl (hb hby d2_112) ?_
              show Steps p.tables e below (T47.setTop (mkF m 113 #[.val (.ref r0), .val (.int p1)] [(.int (0 : Int32)), (.ref b47), (.ref b47), (.ref b46), (.ref b46)])) _
              refine XS.aloadN X47.here hx rfl (hb hby d2_113) rfl rfl ?_
              show Steps p.tables e below (T47.setTop (mkF m 114 #[.val (.ref r0), .val (.int p1)] [(.ref r0), (.int (0 : Int32)), (.ref b47), (.ref b47), (.ref b46), (.ref b46)])) _
              refine XS.iconst X47.here hx rfl (hb hby d2_114) ?_
              show Steps p.tables e below (T47.setTop (mkF m 115 #[.val (.ref r0), .val (.int p1)] [(.int (0 : Int32)), (.ref r0), (.int (0 : Int32)), (.ref b47), (.ref b47), (.ref b46), (.ref b46)])) _
              refine X47.caload hx (j := (0 : Int32)) (v := (.int c0)) (by rw [e47]; exact Ar48.1) (State.isArrayOf_alike hZ.alike Ar48.2.1) Ar48.2.2 hin48 hat48 (g := (mkF m 115 #[.val (.ref r0), .val (.int p1)] [(.int (0 : Int32)), (.ref r0), (.int (0 : Int32)), (.ref b47), (.ref b47), (.ref b46), (.ref b46)])) rfl rfl (hb hby d2_115) _ ?_
              show Steps p.tables e below (T47.setTop (mkF m 116 #[.val (.ref r0), .val (.int p1)] [(.int c0), (.int (0 : Int32)), (.ref b47), (.ref b47), (.ref b46), (.ref b46)])) _
              refine st50 _ ?_
              show Steps p.tables e below (T50.setTop (mkF m 117 #[.val (.ref r0), .val (.int p1)] [(.ref b47), (.ref b46), (.ref b46)])) _
              refine XS.dup X50.here hx rfl (hb hby d2_117) rfl rfl ?_
              show Steps p.tables e below (T50.setTop (mkF m 118 #[.val (.ref r0), .val (.int p1)] [(.ref b47), (.ref b47), (.ref b46), (.ref b46)])) _
              refine XS.iconst X50.here hx rfl (hb hby d2_118) ?_
              show Steps p.tables e below (T50.setTop (mkF m 119 #[.val (.ref r0), .val (.int p1)] [(.int (1 : Int32)), (.ref b47), (.ref b47), (.ref b46), (.ref b46)])) _
              refine XS.aloadN X50.here hx rfl (hb hby d2_119) rfl rfl ?_
              show Steps p.tables e below (T50.setTop (mkF m 120 #[.val (.ref r0), .val (.int p1)] [(.ref r0), (.int (1 : Int32)), (.ref b47), (.ref b47), (.ref b46), (.ref b46)])) _
              refine XS.iconst X50.here hx rfl (hb hby d2_120) ?_
              show Steps p.tables e below (T50.setTop (mkF m 121 #[.val (.ref r0), .val (.int p1)] [(.int (1 : Int32)), (.ref r0), (.int (1 : Int32)), (.ref b47), (.ref b47), (.ref b46), (.ref b46)])) _
              refine X50.caload hx (j := (1 : Int32)) (v := (.int c1)) (by rw [e50]; exact Ar51.1) (State.isArrayOf_alike hZ.alike Ar51.2.1) Ar51.2.2 hin51 hat51 (g := (mkF m 121 #[.val (.ref r0), .val (.int p1)] [(.int (1 : Int32)), (.ref r0), (.int (1 : Int32)), (.ref b47), (.ref b47), (.ref b46), (.ref b46)])) rfl rfl (hb hby d2_121) _ ?_
              show Steps p.tables e below (T50.setTop (mkF m 122 #[.val (.ref r0), .val (.int p1)] [(.int c1), (.int (1 : Int32)), (.ref b47), (.ref b47), (.ref b46), (.ref b46)])) _
              refine st53 _ ?_
              show Steps p.tables e below (T53.setTop (mkF m 123 #[.val (.ref r0), .val (.int p1)] [(.ref b47), (.ref b46), (.ref b46)])) _
              refine XS.dup X53.here hx rfl (hb hby d2_123) rfl rfl ?_
              show Steps p.tables e below (T53.setTop (mkF m 124 #[.val (.ref r0), .val (.int p1)] [(.ref b47), (.ref b47), (.ref b46), (.ref b46)])) _
              refine XS.iconst X53.here hx rfl (hb hby d2_124) ?_
              show Steps p.tables e below (T53.setTop (mkF m 125 #[.val (.ref r0), .val (.int p1)] [(.int (2 : Int32)), (.ref b47), (.ref b47), (.ref b46), (.ref b46)])) _
              refine XS.aloadN X53.here hx rfl (hb hby d2_125) rfl rfl ?_
              show Steps p.tables e below (T53.setTop (mkF m 126 #[.val (.ref r0), .val (.int p1)] [(.ref r0), (.int (2 : Int32)), (.ref b47), (.ref b47), (.ref b46), (.ref b46)])) _
              refine XS.iconst X53.here hx rfl (hb hby d2_126) ?_
              show Steps p.tables e below (T53.setTop (mkF m 127 #[.val (.ref r0), .val (.int p1)] [(.int (2 : Int32)), (.ref r0), (.int (2 : Int32)), (.ref b47), (.ref b47), (.ref b46), (.ref b46)])) _
              refine X53.caload hx (j := (2 : Int32)) (v := (.int c2)) (by rw [e53]; exact Ar54.1) (State.isArrayOf_alike hZ.alike Ar54.2.1) Ar54.2.2 hin54 hat54 (g := (mkF m 127 #[.val (.ref r0), .val (.int p1)] [(.int (2 : Int32)), (.ref r0), (.int (2 : Int32)), (.ref b47), (.ref b47), (.ref b46), (.ref b46)])) rfl rfl (hb hby d2_127) _ ?_
              show Steps p.tables e below (T53.setTop (mkF m 128 #[.val (.ref r0), .val (.int p1)] [(.int c2), (.int (2 : Int32)), (.ref b47), (.ref b47), (.ref b46), (.ref b46)])) _
              refine st56 _ ?_
              show Steps p.tables e below (T56.setTop (mkF m 129 #[.val (.ref r0), .val (.int p1)] [(.ref b47), (.ref b46), (.ref b46)])) _
              refine XS.dup X56.here hx rfl (hb hby d2_129) rfl rfl ?_
              show Steps p.tables e below (T56.setTop (mkF m 130 #[.val (.ref r0), .val (.int p1)] [(.ref b47), (.ref b47), (.ref b46), (.ref b46)])) _
              refine XS.iconst X56.here hx rfl (hb hby d2_130) ?_
              show Steps p.tables e below (T56.setTop (mkF m 131 #[.val (.ref r0), .val (.int p1)] [(.int (3 : Int32)), (.ref b47), (.ref b47), (.ref b46), (.ref b46)])) _
              refine XS.aloadN X56.here hx rfl (hb hby d2_131) rfl rfl ?_
              show Steps p.tables e below (T56.setTop (mkF m 132 #[.val (.ref r0), .val (.int p1)] [(.ref r0), (.int (3 : Int32)), (.ref b47), (.ref b47), (.ref b46), (.ref b46)])) _
              refine XS.iconst X56.here hx rfl (hb hby d2_132) ?_
              show Steps p.tables e below (T56.setTop (mkF m 133 #[.val (.ref r0), .val (.int p1)] [(.int (3 : Int32)), (.ref r0), (.int (3 : Int32)), (.ref b47), (.ref b47), (.ref b46), (.ref b46)])) _
              refine X56.caload hx (j := (3 : Int32)) (v := (.int c3)) (by rw [e56]; exact Ar57.1) (State.isArrayOf_alike hZ.alike Ar57.2.1) Ar57.2.2 hin57 hat57 (g := (mkF m 133 #[.val (.ref r0), .val (.int p1)] [(.int (3 : Int32)), (.ref r0), (.int (3 : Int32)), (.ref b47), (.ref b47), (.ref b46), (.ref b46)])) rfl rfl (hb hby d2_133) _ ?_
              show Steps p.tables e below (T56.setTop (mkF m 134 #[.val (.ref r0), .val (.int p1)] [(.int c3), (.int (3 : Int32)), (.ref b47), (.ref b47), (.ref b46), (.ref b46)])) _
              refine st59 _ ?_
              show Steps p.tables e below (T59.setTop (mkF m 135 #[.val (.ref r0), .val (.int p1)] [(.ref b47), (.ref b46), (.ref b46)])) _
              refine st60.trans ?_
              exact k
            obtain ⟨fs, hr, hrun, hended, hend⟩ := X60.leaveW (v := some (.ref b46)) hS0 hk60 (fun h => by rw [Bd.returns] at h; cases h) hlk
            refine ⟨_, _, ?_, hrun, hended, _, _, rfl, ?_, ?_, ⟨_, rfl⟩, hend.2.1, hend.2.2.1, hend.2.2.2.mono (by decide) (by decide)⟩
            · show Steps p.tables e below (T60.setTop (mkF m 138 #[.val (.ref r0), .val (.int p1)] [(.ref b46)])) _
              exact own_retV X60 hx Bd.returns rfl rfl (hb hby d2_138) hr
            · show Q2 Z r0 p1 kC c0 c1 c2 c3 c4 c5 c6 c7 zCS h0 n0 _ T60.heap _
              exact ⟨b46, [(nar .char c0), (nar .char c1), (nar .char c2), (nar .char c3)], rfl, N60, K60, E60q, C60q, (fun c hc => by
                  simp only [List.mem_cons, List.not_mem_nil, or_false] at hc
                  rcases hc with rfl | rfl | rfl | rfl
                  · exact own_rgl (own_rgr g0)
                  · exact own_rgl (own_rgr g1)
                  · exact own_rgl (own_rgr g2)
                  · exact own_rgl (own_rgr g3)), Nat.le_of_ble_eq_true rfl, _, _, V60q, A60q⟩
            · show CHr Z consts_1 s.vm s.heap T60.vm T60.heap
              rw [hh]
              exact Cx60.trans (CHv.at X60 hZ hEL Cx60.1)
          · -- hc45: no
            refine own_go (A' := (s₁.setTop (mkF m 139 #[.val (.ref r0), .val (.int p1)] []))) (fun t k => XS.icmpYes X0.here hx rfl (pc0 := 101) (pc' := 139) rfl (hb hby d2_101) rfl (feq hc45).2 (by decide) (by decide) k) ?_
            refine own_go (A' := (s₁.setTop (mkF m 141 #[.val (.ref r0), .val (.int p1)] [(.int (5 : Int32)), (.int p1)]))) (fun t k => ?_) ?_
            · show Steps p.tables e below (s₁.setTop (mkF m 139 #[.val (.ref r0), .val (.int p1)] [])) _
              refine XS.iloadN X0.here hx rfl (hb hby d2_139) rfl ?_
              show Steps p.tables e below (s₁.setTop (mkF m 140 #[.val (.ref r0), .val (.int p1)] [(.int p1)])) _
              refine XS.iconst X0.here hx rfl (hb hby d2_140) ?_
              exact k
            by_cases hc62 : p1 = (5 : Int32)
            · -- hc62: yes
              refine own_go (A' := (s₁.setTop (mkF m 144 #[.val (.ref r0), .val (.int p1)] []))) (fun t k => XS.icmpNo X0.here hx rfl (hb hby d2_141) rfl (teq hc62).2 k) ?_
              obtain ⟨T63, h63, X63, e63, E63, A63, D63, -, st63⟩ := newO X0 hx hZ hown (hw _ (List.mem_of_getElem? (i := 8) rfl)) (hw _ (List.mem_of_getElem? (i := 9) rfl)) (hw _ (List.mem_of_getElem? (i := 10) rfl)) e0 (g := (mkF m 144 #[.val (.ref r0), .val (.int p1)] [])) rfl (hb hby d2_144) (by decide) (by decide)
              obtain ⟨b63, g63⟩ : ∃ z, z = h0.size := ⟨_, rfl⟩
              have sz_b63 : h0.size ≤ b63 := Nat.le_of_eq g63.symm
              have ne_r0_b63 : r0 ≠ b63 := Nat.ne_of_lt (Nat.lt_of_lt_of_le V_r0.lt (Nat.le_of_eq g63.symm))
              rw [← g63] at A63 D63 st63
              have hk63 := Nat.le_trans hk0 E63.1
              have Cx63 := Cx0.trans (CHr.ext E63 Cx0.1)
              have K63 : Keep h0 h63 [] := (Keep.refl h0 []).ext E63
              have B63 : Ext h0 h63 := own_keep_ext K63
              have F63_coder : Fld Z h63 b63 "java/lang/String" "coder" "B" (.int (0 : Int32)) := D63 (Or.inr (hw _ (List.mem_of_getElem? (i := 34) rfl))) (ty := .byte) (by decide)
              have F63_value : Fld Z h63 b63 "java/lang/String" "value" "[B" .null := D63 (Or.inr (hw _ (List.mem_of_getElem? (i := 36) rfl))) (ty := (.array .byte)) (by decide)
              obtain ⟨T64, h64, k64, X64, e64, E64, A64, st64⟩ := newP X63 hx hZ (hw _ (List.mem_of_getElem? (i := 0) rfl)) e63 (g := (mkF m 149 #[.val (.ref r0), .val (.int p1)] [(.int (5 : Int32)), (.ref b63), (.ref b63)])) rfl (hb hby d2_149) rfl (by decide) (cap := 5) (by decide) (by decide) (by decide) (by decide)
              obtain ⟨b64, g64⟩ : ∃ z, z = h63.size := ⟨_, rfl⟩
              have sz_b64 : h0.size ≤ b64 := Nat.le_trans K63.1 (Nat.le_of_eq g64.symm)
              have ne_r0_b64 : r0 ≠ b64 := Nat.ne_of_lt (Nat.lt_of_lt_of_le (V_r0.ext E63).lt (Nat.le_of_eq g64.symm))
              have ne_b63_b64 : b63 ≠ b64 := Nat.ne_of_lt (Nat.lt_of_lt_of_le A63.lt (Nat.le_of_eq g64.symm))
              rw [← g64] at A64 st64
              have hk64 := Nat.le_trans hk63 E64.1
              have Cx64 := Cx63.trans (CHr.ext E64 Cx63.1)
              have K64 : Keep h0 h64 [] := K63.ext E64
              have B64 : Ext h0 h64 := own_keep_ext K64
              have V64 : Arv Z h64 b64 k64 .char (5 : Int32) [(.int (0 : Int32)), (.int (0 : Int32)), (.int (0 : Int32)), (.int (0 : Int32)), (.int (0 : Int32))] (.int (0 : Int32)) := (Arv.new A64 (by decide)).pad (pad_rep [] (.int (0 : Int32)) 5)
              obtain ⟨cl65, Ar65, q65, S65, N65, H65, G65⟩ := id ((V_r0.ext E63).ext E64)
              have hin65 : ¬ ((0 : Int32) < 0 ∨ cl65.slots.size ≤ ((0 : Int32)).toNatClampNeg) := inb_of S65 ⟨by decide, by decide⟩
              have hat65 : cl65.slots[((0 : Int32)).toNatClampNeg]? = some (.int c0) := (H65 _ (Nat.lt_of_not_le fun q => hin65 (Or.inr q))).trans rfl
              obtain ⟨cl66, Ar66, q66, S66, N66, H66, G66⟩ := id V64
              have hin66 : ¬ ((0 : Int32) < 0 ∨ cl66.slots.size ≤ ((0 : Int32)).toNatClampNeg) := inb_of S66 ⟨by decide, by decide⟩
              obtain ⟨T67, h67, X67, e67, W67, st67⟩ := stC X64 hx hZ e64 Ar66 (j := (0 : Int32)) hin66  (g := (mkF m 156 #[.val (.ref r0), .val (.int p1)] [(.int c0), (.int (0 : Int32)), (.ref b64), (.ref b64), (.ref b63), (.ref b63)])) rfl rfl (hb hby d2_156)
              have Sf67 : Safe Z consts_1 s.vm h64 b64 := (own_safe_arv hZ.alike V64 (by decide))
              have hk67 := Nat.le_trans hk64 (Keep.of_wr W67).1
              have Cx67 := Cx64.trans (CHr.wr W67 Sf67 Cx64.1)
              have K67 : Keep h0 h67 [] := K64.wr W67 (Or.inr sz_b64)
              have B67 : Ext h0 h67 := own_keep_ext K67
              have N67 := Fr.snoc X67 N0 (Nat.le_trans Z0 sz_b64)
              have V67 : Arv Z h67 b64 k64 .char (5 : Int32) [(.int (nar .char c0)), (.int (0 : Int32)), (.int (0 : Int32)), (.int (0 : Int32)), (.int (0 : Int32))] (.int (0 : Int32)) := Arv.set Ar66 q66 S66 N66 H66 G66 (fits_nar_char _) W67 0 rfl (Nat.le_of_ble_eq_true rfl)
              obtain ⟨cl68, Ar68, q68, S68, N68, H68, G68⟩ := id (((V_r0.ext E63).ext E64).other W67 ne_r0_b64)
              have hin68 : ¬ ((1 : Int32) < 0 ∨ cl68.slots.size ≤ ((1 : Int32)).toNatClampNeg) := inb_of S68 ⟨by decide, by decide⟩
              have hat68 : cl68.slots[((1 : Int32)).toNatClampNeg]? = some (.int c1) := (H68 _ (Nat.lt_of_not_le fun q => hin68 (Or.inr q))).trans rfl
              obtain ⟨cl69, Ar69, q69, S69, N69, H69, G69⟩ := id V67
              have hin69 : ¬ ((1 : Int32) < 0 ∨ cl69.slots.size ≤ ((1 : Int32)).toNatClampNeg) := inb_of S69 ⟨by decide, by decide⟩
              obtain ⟨T70, h70, X70, e70, W70, st70⟩ := stC X67 hx hZ e67 Ar69 (j := (1 : Int32)) hin69  (g := (mkF m 162 #[.val (.ref r0), .val (.int p1)] [(.int c1), (.int (1 : Int32)), (.ref b64), (.ref b64), (.ref b63), (.ref b63)])) rfl rfl (hb hby d2_162)
              have Sf70 : Safe Z consts_1 s.vm h67 b64 := (own_safe_arv hZ.alike V67 (by decide))
              have hk70 := Nat.le_trans hk67 (Keep.of_wr W70).1
              have Cx70 := Cx67.trans (CHr.wr W70 Sf70 Cx67.1)
              have K70 : Keep h0 h70 [] := K67.wr W70 (Or.inr sz_b64)
              have B70 : Ext h0 h70 := own_keep_ext K70
              have N70 := Fr.snoc X70 N67 (Nat.le_trans Z0 sz_b64)
              have V70 : Arv Z h70 b64 k64 .char (5 : Int32) [(.int (nar .char c0)), (.int (nar .char c1)), (.int (0 : Int32)), (.int (0 : Int32)), (.int (0 : Int32))] (.int (0 : Int32)) := Arv.set Ar69 q69 S69 N69 H69 G69 (fits_nar_char _) W70 1 rfl (Nat.le_of_ble_eq_true rfl)
              obtain ⟨cl71, Ar71, q71, S71, N71, H71, G71⟩ := id ((((V_r0.ext E63).ext E64).other W67 ne_r0_b64).other W70 ne_r0_b64)
              have hin71 : ¬ ((2 : Int32) < 0 ∨ cl71.slots.size ≤ ((2 : Int32)).toNatClampNeg) := inb_of S71 ⟨by decide, by decide⟩
              have hat71 : cl71.slots[((2 : Int32)).toNatClampNeg]? = some (.int c2) := (H71 _ (Nat.lt_of_not_le fun q => hin71 (Or.inr q))).trans rfl
              obtain ⟨cl72, Ar72, q72, S72, N72, H72, G72⟩ := id V70
              have hin72 : ¬ ((2 : Int32) < 0 ∨ cl72.slots.size ≤ ((2 : Int32)).toNatClampNeg) := inb_of S72 ⟨by decide, by decide⟩
              obtain ⟨T73, h73, X73, e73, W73, st73⟩ := stC X70 hx hZ e70 Ar72 (j := (2 : Int32)) hin72  (g := (mkF m 168 #[.val (.ref r0), .val (.int p1)] [(.int c2), (.int (2 : Int32)), (.ref b64), (.ref b64), (.ref b63), (.ref b63)])) rfl rfl (hb hby d2_168)
              have Sf73 : Safe Z consts_1 s.vm h70 b64 := (own_safe_arv hZ.alike V70 (by decide))
              have hk73 := Nat.le_trans hk70 (Keep.of_wr W73).1
              have Cx73 := Cx70.trans (CHr.wr W73 Sf73 Cx70.1)
              have K73 : Keep h0 h73 [] := K70.wr W73 (Or.inr sz_b64)
              have B73 : Ext h0 h73 := own_keep_ext K73
              have N73 := Fr.snoc X73 N70 (Nat.le_trans Z0 sz_b64)
              have V73 : Arv Z h73 b64 k64 .char (5 : Int32) [(.int (nar .char c0)), (.int (nar .char c1)), (.int (nar .char c2)), (.int (0 : Int32)), (.int (0 : Int32))] (.int (0 : Int32)) := Arv.set Ar72 q72 S72 N72 H72 G72 (fits_nar_char _) W73 2 rfl (Nat.le_of_ble_eq_true rfl)
              obtain ⟨cl74, Ar74, q74, S74, N74, H74, G74⟩ := id (((((V_r0.ext E63).ext E64).other W67 ne_r0_b64).other W70 ne_r0_b64).other W73 ne_r0_b64)
              have hin74 : ¬ ((3 : Int32) < 0 ∨ cl74.slots.size ≤ ((3 : Int32)).toNatClampNeg) := inb_of S74 ⟨by decide, by decide⟩
              have hat74 : cl74.slots[((3 : Int32)).toNatClampNeg]? = some (.int c3) := (H74 _ (Nat.lt_of_not_le fun q => hin74 (Or.inr q))).trans rfl
              obtain ⟨cl75, Ar75, q75, S75, N75, H75, G75⟩ := id V73
              have hin75 : ¬ ((3 : Int32) < 0 ∨ cl75.slots.size ≤ ((3 : Int32)).toNatClampNeg) := inb_of S75 ⟨by decide, by decide⟩
              obtain ⟨T76, h76, X76, e76, W76, st76⟩ := stC X73 hx hZ e73 Ar75 (j := (3 : Int32)) hin75  (g := (mkF m 174 #[.val (.ref r0), .val (.int p1)] [(.int c3), (.int (3 : Int32)), (.ref b64), (.ref b64), (.ref b63), (.ref b63)])) rfl rfl (hb hby d2_174)
              have Sf76 : Safe Z consts_1 s.vm h73 b64 := (own_safe_arv hZ.alike V73 (by decide))
              have hk76 := Nat.le_trans hk73 (Keep.of_wr W76).1
              have Cx76 := Cx73.trans (CHr.wr W76 Sf76 Cx73.1)
              have K76 : Keep h0 h76 [] := K73.wr W76 (Or.inr sz_b64)
              have B76 : Ext h0 h76 := own_keep_ext K76
              have N76 := Fr.snoc X76 N73 (Nat.le_trans Z0 sz_b64)
              have V76 : Arv Z h76 b64 k64 .char (5 : Int32) [(.int (nar .char c0)), (.int (nar .char c1)), (.int (nar .char c2)), (.int (nar .char c3)), (.int (0 : Int32))] (.int (0 : Int32)) := Arv.set Ar75 q75 S75 N75 H75 G75 (fits_nar_char _) W76 3 rfl (Nat.le_of_ble_eq_true rfl)
              obtain ⟨cl77, Ar77, q77, S77, N77, H77, G77⟩ := id ((((((V_r0.ext E63).ext E64).other W67 ne_r0_b64).other W70 ne_r0_b64).other W73 ne_r0_b64).other W76 ne_r0_b64)
              have hin77 : ¬ ((4 : Int32) < 0 ∨ cl77.slots.size ≤ ((4 : Int32)).toNatClampNeg) := inb_of S77 ⟨by decide, by decide⟩
              have hat77 : cl77.slots[((4 : Int32)).toNatClampNeg]? = some (.int c4) := (H77 _ (Nat.lt_of_not_le fun q => hin77 (Or.inr q))).trans rfl
              obtain ⟨cl78, Ar78, q78, S78, N78, H78, G78⟩ := id V76
              have hin78 : ¬ ((4 : Int32) < 0 ∨ cl78.slots.size ≤ ((4 : Int32)).toNatClampNeg) := inb_of S78 ⟨by decide, by decide⟩
              obtain ⟨T79, h79, X79, e79, W79, st79⟩ := stC X76 hx hZ e76 Ar78 (j := (4 : Int32)) hin78  (g := (mkF m 180 #[.val (.ref r0), .val (.int p1)] [(.int c4), (.int (4 : Int32)), (.ref b64), (.ref b64), (.ref b63), (.ref b63)])) rfl rfl (hb hby d2_180)
              have Sf79 : Safe Z consts_1 s.vm h76 b64 := (own_safe_arv hZ.alike V76 (by decide))
              have hk79 := Nat.le_trans hk76 (Keep.of_wr W79).1
              have Cx79 := Cx76.trans (CHr.wr W79 Sf79 Cx76.1)
              have K79 : Keep h0 h79 [] := K76.wr W79 (Or.inr sz_b64)
              have B79 : Ext h0 h79 := own_keep_ext K79
              have N79 := Fr.snoc X79 N76 (Nat.le_trans Z0 sz_b64)
              have V79 : Arv Z h79 b64 k64 .char (5 : Int32) [(.int (nar .char c0)), (.int (nar .char c1)), (.int (nar .char c2)), (.int (nar .char c3)), (.int (nar .char c4))] (.int (0 : Int32)) := Arv.set Ar78 q78 S78 N78 H78 G78 (fits_nar_char _) W79 4 rfl (Nat.le_of_ble_eq_true rfl)
              have hws81 : ∀ d ∈ StrChars.Road.words, d.before a0 Z = true := fun d hd => hw d ((by decide +kernel : ∀ d ∈ StrChars.Road.words, d ∈ tables_1) d hd)
              have hlat81 : ∀ c ∈ ([(nar .char c0), (nar .char c1), (nar .char c2), (nar .char c3), (nar .char c4)] : List Int32), ¬ c < 0 ∧ ¬ (255 : Int32) < c := by
                intro c hc
                simp only [List.mem_cons, List.not_mem_nil, or_false] at hc
                rcases hc with rfl | rfl | rfl | rfl | rfl
                · exact own_rgl (own_rgr g0)
                · exact own_rgl (own_rgr g1)
                · exact own_rgl (own_rgr g2)
                · exact own_rgl (own_rgr g3)
                · exact own_rgl (own_rgr g4)
              obtain ⟨_, _, ⟨T80, L80, k80, n80⟩, -, X80, ⟨Lc80, hQ80, l80, y80, z80⟩, st80⟩ := X79.specialBack hx (y := (⟨"java/lang/String", "<init>", "([C)V"⟩ : MethodName)) rfl hown (mvT hZ (hw _ (List.mem_of_getElem? (i := 11) rfl))) (mvT hZ (hw _ (List.mem_of_getElem? (i := 12) rfl))) (mvT hZ (hw _ (List.mem_of_getElem? (i := 13) rfl))) (by decide) (StrChars.Road.backV (W := 1) hZ hws81 (kI := 4) (hw _ (List.mem_of_getElem? (i := 9) rfl)) (cs := [(nar .char c0), (nar .char c1), (nar .char c2), (nar .char c3), (nar .char c4)]) (bs := [((nar .char c0)).toInt8.toInt32, ((nar .char c1)).toInt8.toInt32, ((nar .char c2)).toInt8.toInt32, ((nar .char c3)).toInt8.toInt32, ((nar .char c4)).toInt8.toInt32]) (n := 5) (Nat.le_trans Z0 sz_b63) (Nat.le_trans Z0 K79.1) ((((((A63.ext E64).wr W67).wr W70).wr W73).wr W76).wr W79) ((((((F63_value.ext E64).other W67 (Or.inl ne_b63_b64)).other W70 (Or.inl ne_b63_b64)).other W73 (Or.inl ne_b63_b64)).other W76 (Or.inl ne_b63_b64)).other W79 (Or.inl ne_b63_b64)) ((((((F63_coder.ext E64).other W67 (Or.inl ne_b63_b64)).other W70 (Or.inl ne_b63_b64)).other W73 (Or.inl ne_b63_b64)).other W76 (Or.inl ne_b63_b64)).other W79 (Or.inl ne_b63_b64)) V79 (S_CS.ext B79) hCS rfl rfl (by decide) (by decide) hlat81 rfl (by decide) (by decide)) (g := (mkF m 181 #[.val (.ref r0), .val (.int p1)] [(.ref b64), (.ref b63), (.ref b63)])) rfl (by rw [hml]; rfl) (Steps.refl _) (a := b63) (argsL := [(.ref b64)]) (rest := [(.ref b63)]) (lenOf pd_1 rfl) rfl (by show 2 * 0 + _ ≤ _; exact Nat.le_of_eq rfl) (hb hby d2_181) (fun _ _ => ⟨rfl, e79, (by decide : 2 + 1 ≤ _), (by decide : 9 + 5 ≤ _)⟩)
              dsimp only [Pt.U, Pt.locs, Pt.cells, Pt.slots] at X80 l80 y80 z80 st80 hQ80
              subst l80 y80 z80
              obtain ⟨rfl, N80q, K80q, E80q, C80q, t80, kb80, ht80a, ht80b, ht80c, V80q, A80q⟩ := hQ80
              have N80 := Fr.app N79 N80q
              have As80 : ∀ x ∈ ([b63] : List Addr), Safe Z consts_1 s.vm h79 x := (allS (own_safe_null hZ.alike ((((((A63.ext E64).wr W67).wr W70).wr W73).wr W76).wr W79) ((((((F63_value.ext E64).other W67 (Or.inl ne_b63_b64)).other W70 (Or.inl ne_b63_b64)).other W73 (Or.inl ne_b63_b64)).other W76 (Or.inl ne_b63_b64)).other W79 (Or.inl ne_b63_b64))) all0)
              have hk80 := Nat.le_trans hk79 K80q.1
              have Cx80 := Cx79.trans (CHr.keep K80q As80 Cx79.1)
              have K80 : Keep h0 T80.heap [] := K79.trans K80q (allS (Or.inr sz_b63) all0)
              have B80 : Ext h0 T80.heap := own_keep_ext K80
              refine own_go (A' := (T80.setTop (mkF m 184 #[.val (.ref r0), .val (.int p1)] [(.ref b63)]))) (fun t k => ?_) ?_
              · show Steps p.tables e below (s₁.setTop (mkF m 144 #[.val (.ref r0), .val (.int p1)] [])) _
                refine st63 _ ?_
                show Steps p.tables e below (T63.setTop (mkF m 147 #[.val (.ref r0), .val (.int p1)] [(.ref b63)])) _
                refine XS.dup X63.here hx rfl (hb hby d2_147) rfl rfl ?_
                show Steps p.tables e below (T63.setTop (mkF m 148 #[.val (.ref r0), .val (.int p1)] [(.ref b63), (.ref b63)])) _
                refine XS.iconst X63.here hx rfl (hb hby d2_148) ?_
                show Steps p.tables e below (T63.setTop (mkF m 149 #[.val (.ref r0), .val (.int p1)] [(.int (5 : Int32)), (.ref b63), (.ref b63)])) _
                refine st64 _ ?_
                show Steps p.tables e below (T64.setTop (mkF m 151 #[.val (.ref r0), .val (.int p1)] [(.ref b64), (.ref b63), (.ref b63)])) _
                refine XS.dup X64.here hx rfl (hb hby d2_151) rfl rfl ?_
                show Steps p.tables e below (T64.setTop (mkF m 152 #[.val (.ref r0), .val (.int p1)] [(.ref b64), (.ref b64), (.ref b63), (.ref b63)])) _
                refine XS.iconst X64.here hx rfl (hb hby d2_152) ?_
                show Steps p.tables e below (T64.setTop (mkF m 153 #[.val (.ref r0), .val (.int p1)] [(.int (0 : Int32)), (.ref b64), (.ref b64), (.ref b63), (.ref b63)])) _
                refine XS.aloadN X64.here hx rfl (hb hby d2_153) rfl rfl ?_
                show Steps p.tables e below (T64.setTop (mkF m 154 #[.val (.ref r0), .val (.int p1)] [(.ref r0), (.int (0 : Int32)), (.ref b64), (.ref b64), (.ref b63), (.ref b63)])) _
                refine XS.iconst X64.here hx rfl (hb hby d2_154) ?_
                show Steps p.tables e below (T64.setTop (mkF m 155 #[.val (.ref r0), .val (.int p1)] [(.int (0 : Int32)), (.ref r0), (.int (0 : Int32)), (.ref b64), (.ref b64), (.ref b63), (.ref b63)])) _
                refine X64.caload hx (j := (0 : Int32)) (v := (.int c0)) (by rw [e64]; exact Ar65.1) (State.isArrayOf_alike hZ.alike Ar65.2.1) Ar65.2.2 hin65 hat65 (g := (mkF m 155 #[.val (.ref r0), .val (.int p1)] [(.int (0 : Int32)), (.ref r0), (.int (0 : Int32)), (.ref b64), (.ref b64), (.ref b63), (.ref b63)])) rfl rfl (hb hby d2_155) _ ?_
                show Steps p.tables e below (T64.setTop (mkF m 156 #[.val (.ref r0), .val (.int p1)] [(.int c0), (.int (0 : Int32)), (.ref b64), (.ref b64), (.ref b63), (.ref b63)])) _
                refine st67 _ ?_
                show Steps p.tables e below (T67.setTop (mkF m 157 #[.val (.ref r0), .val (.int p1)] [(.ref b64), (.ref b63), (.ref b63)])) _
                refine XS.dup X67.here hx rfl (hb hby d2_157) rfl rfl ?_
                show Steps p.tables e below (T67.setTop (mkF m 158 #[.val (.ref r0), .val (.int p1)] [(.ref b64), (.ref b64), (.ref b63), (.ref b63)])) _
                refine XS.iconst X67.here hx rfl (hb hby d2_158) ?_
                show Steps p.tables e below (T67.setTop (mkF m 159 #[.val (.ref r0), .val (.int p1)] [(.int (1 : Int32)), (.ref b64), (.ref b64), (.ref b63), (.ref b63)])) _
                refine XS.aloadN X67.here hx rfl (hb hby d2_159) rfl rfl ?_
                show Steps p.tables e below (T67.setTop (mkF m 160 #[.val (.ref r0), .val (.int p1)] [(.ref r0), (.int (1 : Int32)), (.ref b64), (.ref b64), (.ref b63), (.ref b63)])) _
                refine XS.iconst X67.here hx rfl (hb hby d2_160) ?_
                show Steps p.tables e below (T67.setTop (mkF m 161 #[.val (.ref r0), .val (.int p1)] [(.int (1 : Int32)), (.ref r0), (.int (1 : Int32)), (.ref b64), (.ref b64), (.ref b63), (.ref b63)])) _
                refine X67.caload hx (j := (1 : Int32)) (v := (.int c1)) (by rw [e67]; exact Ar68.1) (State.isArrayOf_alike hZ.alike Ar68.2.1) Ar68.2.2 hin68 hat68 (g := (mkF m 161 #[.val (.ref r0), .val (.int p1)] [(.int (1 : Int32)), (.ref r0), (.int (1 : Int32)), (.ref b64), (.ref b64), (.ref b63), (.ref b63)])) rfl rfl (hb hby d2_161) _ ?_
                show Steps p.tables e below (T67.setTop (mkF m 162 #[.val (.ref r0), .val (.int p1)] [(.int c1), (.int (1 : Int32)), (.ref b64), (.ref b64), (.ref b63), (.ref b63)])) _
                refine st70 _ ?_
                show Steps p.tables e below (T70.setTop (mkF m 163 #[.val (.ref r0), .val (.int p1)] [(.ref b64), (.ref b63), (.ref b63)])) _
                refine XS.dup X70.here hx rfl (hb hby d2_163) rfl rfl ?_
                show Steps p.tables e below (T70.setTop (mkF m 164 #[.val (.ref r0), .val (.int p1)] [(.ref b64), (.ref b64), (.ref b63), (.ref b63)])) _
                refine XS.iconst X70.here hx rfl (hb hby d2_164) ?_
                show Steps p.tables e below (T70.setTop (mkF m 165 #[.val (.ref r0), .val (.int p1)] [(.int (2 : Int32)), (.ref b64), (.ref b64), (.ref b63), (.ref b63)])) _
                refine XS.aloadN X70.here hx rfl (hb hby d2_165) rfl rfl ?_
                show Steps p.tables e below (T70.setTop (mkF m 166 #[.val (.ref r0), .val (.int p1)] [(.ref r0), (.int (2 : Int32)), (.ref b64), (.ref b64), (.ref b63), (.ref b63)])) _
                refine XS.iconst X70.here hx rfl (hb hby d2_166) ?_
                show Steps p.tables e below (T70.setTop (mkF m 167 #[.val (.ref r0), .val (.int p1)] [(.int (2 : Int32)), (.ref r0), (.int (2 : Int32)), (.ref b64), (.ref b64), (.ref b63), (.ref b63)])) _
                refine X70.caload hx (j := (2 : Int32)) (v := (.int c2)) (by rw [e70]; exact Ar71.1) (State.isArrayOf_alike hZ.alike Ar71.2.1) Ar71.2.2 hin71 hat71 (g := (mkF m 167 #[.val (.ref r0), .val (.int p1)] [(.int (2 : Int32)), (.ref r0), (.int (2 : Int32)), (.ref b64), (.ref b64), (.ref b63), (.ref b63)])) rfl rfl (hb hby d2_167) _ ?_
                show Steps p.tables e below (T70.setTop (mkF m 168 #[.val (.ref r0), .val (.int p1)] [(.int c2), (.int (2 : Int32)), (.ref b64), (.ref b64), (.ref b63), (.ref b63)])) _
                refine st73 _ ?_
                show Steps p.tables e below (T73.setTop (mkF m 169 #[.val (.ref r0), .val (.int p1)] [(.ref b64), (.ref b63), (.ref b63)])) _
                refine XS.dup X73.here hx rfl (hb hby d2_169) rfl rfl ?_
                show Steps p.tables e below (T73.setTop (mkF m 170 #[.val (.ref r0), .val (.int p1)] [(.ref b64), (.ref b64), (.ref b63), (.ref b63)])) _
                refine XS.iconst X73.here hx rfl (hb hby d2_170) ?_
                show Steps p.tables e below (T73.setTop (mkF m 171 #[.val (.ref r0), .val (.int p1)] [(.int (3 : Int32)), (.ref b64), (.ref b64), (.ref b63), (.ref b63)])) _
                refine XS.aloadN X73.here hx rfl (hb hby d2_171) rfl rfl ?_
                show Steps p.tables e below (T73.setTop (mkF m 172 #[.val (.ref r0), .val (.int p1)] [(.ref r0), (.int (3 : Int32)), (.ref b64), (.ref b64), (.ref b63), (.ref b63)])) _
                refine XS.iconst X73.here hx rfl (hb hby d2_172) ?_
                show Steps p.tables e below (T73.setTop (mkF m 173 #[.val (.ref r0), .val (.int p1)] [(.int (3 : Int32)), (.ref r0), (.int (3 : Int32)), (.ref b64), (.ref b64), (.ref b63), (.ref b63)])) _
                refine X73.caload hx (j := (3 : Int32)) (v := (.int c3)) (by rw [e73]; exact Ar74.1) (State.isArrayOf_alike hZ.alike Ar74.2.1) Ar74.2.2 hin74 hat74 (g := (mkF m 173 #[.val (.ref r0), .val (.int p1)] [(.int (3 : Int32)), (.ref r0), (.int (3 : Int32)), (.ref b64), (.ref b64), (.ref b63), (.ref b63)])) rfl rfl (hb hby d2_173) _ ?_
                show Steps p.tables e below (T73.setTop (mkF m 174 #[.val (.ref r0), .val (.int p1)] [(.int c3), (.int (3 : Int32)), (.ref b64), (.ref b64), (.ref b63), (.ref b63)])) _
                refine st76 _ ?_
                show Steps p.tables e below (T76.setTop (mkF m 175 #[.val (.ref r0), .val (.int p1)] [(.ref b64), (.ref b63), (.ref b63)])) _
                refine XS.dup X76.here hx rfl (hb hby d2_175) rfl rfl ?_
                show Steps p.tables e below (T76.setTop (mkF m 176 #[.val (.ref r0), .val (.int p1)] [(.ref b64), (.ref b64), (.ref b63), (.ref b63)])) _
                refine XS.iconst X76.here hx rfl (hb hby d2_176) ?_
                show Steps p.tables e below (T76.setTop (mkF m 177 #[.val (.ref r0), .val (.int p1)] [(.int (4 : Int32)), (.ref b64), (.ref b64), (.ref b63), (.ref b63)])) _
                refine XS.aloadN X76.here hx rfl (hb hby d2_177) rfl rfl ?_
                show Steps p.tables e below (T76.setTop (mkF m 178 #[.val (.ref r0), .val (.int p1)] [(.ref r0), (.int (4 : Int32)), (.ref b64), (.ref b64), (.ref b63), (.ref b63)])) _
                refine XS.iconst X76.here hx rfl (hb hby d2_178) ?_
                show Steps p.tables e below (T76.setTop (mkF m 179 #[.val (.ref r0), .val (.int p1)] [(.int (4 : Int32)), (.ref r0), (.int (4 : Int32)), (.ref b64), (.ref b64), (.ref b63), (.ref b63)])) _
                refine X76.caload hx (j := (4 : Int32)) (v := (.int c4)) (by rw [e76]; exact Ar77.1) (State.isArrayOf_alike hZ.alike Ar77.2.1) Ar77.2.2 hin77 hat77 (g := (mkF m 179 #[.val (.ref r0), .val (.int p1)] [(.int (4 : Int32)), (.ref r0), (.int (4 : Int32)), (.ref b64), (.ref b64), (.ref b63), (.ref b63)])) rfl rfl (hb hby d2_179) _ ?_
                show Steps p.tables e below (T76.setTop (mkF m 180 #[.val (.ref r0), .val (.int p1)] [(.int c4), (.int (4 : Int32)), (.ref b64), (.ref b64), (.ref b63), (.ref b63)])) _
                refine st79 _ ?_
                show Steps p.tables e below (T79.setTop (mkF m 181 #[.val (.ref r0), .val (.int p1)] [(.ref b64), (.ref b63), (.ref b63)])) _
                refine st80.trans ?_
                exact k
              obtain ⟨fs, hr, hrun, hended, hend⟩ := X80.leaveW (v := some (.ref b63)) hS0 hk80 (fun h => by rw [Bd.returns] at h; cases h) hlk
              refine ⟨_, _, ?_, hrun, hended, _, _, rfl, ?_, ?_, ⟨_, rfl⟩, hend.2.1, hend.2.2.1, hend.2.2.2.mono (by decide) (by decide)⟩
              · show Steps p.tables e below (T80.setTop (mkF m 184 #[.val (.ref r0), .val (.int p1)] [(.ref b63)])) _
                exact own_retV X80 hx Bd.returns rfl rfl (hb hby d2_184) hr
              · show Q2 Z r0 p1 kC c0 c1 c2 c3 c4 c5 c6 c7 zCS h0 n0 _ T80.heap _
                exact ⟨b63, [(nar .char c0), (nar .char c1), (nar .char c2), (nar .char c3), (nar .char c4)], rfl, N80, K80, E80q, C80q, (fun c hc => by
                    simp only [List.mem_cons, List.not_mem_nil, or_false] at hc
                    rcases hc with rfl | rfl | rfl | rfl | rfl
                    · exact own_rgl (own_rgr g0)
                    · exact own_rgl (own_rgr g1)
                    · exact own_rgl (own_rgr g2)
                    · exact own_rgl (own_rgr g3)
                    · exact own_rgl (own_rgr g4)), Nat.le_of_ble_eq_true rfl, _, _, V80q, A80q⟩
              · show CHr Z consts_1 s.vm s.heap T80.vm T80.heap
                rw [hh]
                exact Cx80.trans (CHv.at X80 hZ hEL Cx80.1)
            · -- hc62: no
              refine own_go (A' := (s₁.setTop (mkF m 185 #[.val (.ref r0), .val (.int p1)] []))) (fun t k => XS.icmpYes X0.here hx rfl (pc0 := 141) (pc' := 185) rfl (hb hby d2_141) rfl (feq hc62).2 (by decide) (by decide) k) ?_
              refine own_go (A' := (s₁.setTop (mkF m 188 #[.val (.ref r0), .val (.int p1)] [(.int (6 : Int32)), (.int p1)]))) (fun t k => ?_) ?_
              · show Steps p.tables e below (s₁.setTop (mkF m 185 #[.val (.ref r0), .val (.int p1)] [])) _
                refine XS.iloadN X0.here hx rfl (hb hby d2_185) rfl ?_
                show Steps p.tables e below (s₁.setTop (mkF m 186 #[.val (.ref r0), .val (.int p1)] [(.int p1)])) _
                refine XS.bipush X0.here hx rfl (hb hby d2_186) ?_
                exact k
              by_cases hc82 : p1 = (6 : Int32)
              · -- hc82: yes
                refine own_go (A' := (s₁.setTop (mkF m 191 #[.val (.ref r0), .val (.int p1)] []))) (fun t k => XS.icmpNo X0.here hx rfl (hb hby d2_188) rfl (teq hc82).2 k) ?_
                obtain ⟨T83, h83, X83, e83, E83, A83, D83, -, st83⟩ := newO X0 hx hZ hown (hw _ (List.mem_of_getElem? (i := 8) rfl)) (hw _ (List.mem_of_getElem? (i := 9) rfl)) (hw _ (List.mem_of_getElem? (i := 10) rfl)) e0 (g := (mkF m 191 #[.val (.ref r0), .val (.int p1)] [])) rfl (hb hby d2_191) (by decide) (by decide)
                obtain ⟨b83, g83⟩ : ∃ z, z = h0.size := ⟨_, rfl⟩
                have sz_b83 : h0.size ≤ b83 := Nat.le_of_eq g83.symm
                have ne_r0_b83 : r0 ≠ b83 := Nat.ne_of_lt (Nat.lt_of_lt_of_le V_r0.lt (Nat.le_of_eq g83.symm))
                rw [← g83] at A83 D83 st83
                have hk83 := Nat.le_trans hk0 E83.1
                have Cx83 := Cx0.trans (CHr.ext E83 Cx0.1)
                have K83 : Keep h0 h83 [] := (Keep.refl h0 []).ext E83
                have B83 : Ext h0 h83 := own_keep_ext K83
                have F83_coder : Fld Z h83 b83 "java/lang/String" "coder" "B" (.int (0 : Int32)) := D83 (Or.inr (hw _ (List.mem_of_getElem? (i := 34) rfl))) (ty := .byte) (by decide)
                have F83_value : Fld Z h83 b83 "java/lang/String" "value" "[B" .null := D83 (Or.inr (hw _ (List.mem_of_getElem? (i := 36) rfl))) (ty := (.array .byte)) (by decide)
                obtain ⟨T84, h84, k84, X84, e84, E84, A84, st84⟩ := newP X83 hx hZ (hw _ (List.mem_of_getElem? (i := 0) rfl)) e83 (g := (mkF m 197 #[.val (.ref r0), .val (.int p1)] [(.int (6 : Int32)), (.ref b83), (.ref b83)])) rfl (hb hby d2_197) rfl (by decide) (cap := 6) (by decide) (by decide) (by decide) (by decide)
                obtain ⟨b84, g84⟩ : ∃ z, z = h83.size := ⟨_, rfl⟩
                have sz_b84 : h0.size ≤ b84 := Nat.le_trans K83.1 (Nat.le_of_eq g84.symm)
                have ne_r0_b84 : r0 ≠ b84 := Nat.ne_of_lt (Nat.lt_of_lt_of_le (V_r0.ext E83).lt (Nat.le_of_eq g84.symm))
                have ne_b83_b84 : b83 ≠ b84 := Nat.ne_of_lt (Nat.lt_of_lt_of_le A83.lt (Nat.le_of_eq g84.symm))
                rw [← g84] at A84 st84
                have hk84 := Nat.le_trans hk83 E84.1
                have Cx84 := Cx83.trans (CHr.ext E84 Cx83.1)
                have K84 : Keep h0 h84 [] := K83.ext E84
                have B84 : Ext h0 h84 := own_keep_ext K84
                have V84 : Arv Z h84 b84 k84 .char (6 : Int32) [(.int (0 : Int32)), (.int (0 : Int32)), (.int (0 : Int32)), (.int (0 : Int32)), (.int (0 : Int32)), (.int (0 : Int32))] (.int (0 : Int32)) := (Arv.new A84 (by decide)).pad (pad_rep [] (.int (0 : Int32)) 6)
                obtain ⟨cl85, Ar85, q85, S85, N85, H85, G85⟩ := id ((V_r0.ext E83).ext E84)
                have hin85 : ¬ ((0 : Int32) < 0 ∨ cl85.slots.size ≤ ((0 : Int32)).toNatClampNeg) := inb_of S85 ⟨by decide, by decide⟩
                have hat85 : cl85.slots[((0 : Int32)).toNatClampNeg]? = some (.int c0) := (H85 _ (Nat.lt_of_not_le fun q => hin85 (Or.inr q))).trans rfl
                obtain ⟨cl86, Ar86, q86, S86, N86, H86, G86⟩ := id V84
                have hin86 : ¬ ((0 : Int32) < 0 ∨ cl86.slots.size ≤ ((0 : Int32)).toNatClampNeg) := inb_of S86 ⟨by decide, by decide⟩
                obtain ⟨T87, h87, X87, e87, W87, st87⟩ := stC X84 hx hZ e84 Ar86 (j := (0 : Int32)) hin86  (g := (mkF m 204 #[.val (.ref r0), .val (.int p1)] [(.int c0), (.int (0 : Int32)), (.ref b84), (.ref b84), (.ref b83), (.ref b83)])) rfl rfl (hb hby d2_204)
                have Sf87 : Safe Z consts_1 s.vm h84 b84 := (own_safe_arv hZ.alike V84 (by decide))
                have hk87 := Nat.le_trans hk84 (Keep.of_wr W87).1
                have Cx87 := Cx84.trans (CHr.wr W87 Sf87 Cx84.1)
                have K87 : Keep h0 h87 [] := K84.wr W87 (Or.inr sz_b84)
                have B87 : Ext h0 h87 := own_keep_ext K87
                have N87 := Fr.snoc X87 N0 (Nat.le_trans Z0 sz_b84)
                have V87 : Arv Z h87 b84 k84 .char (6 : Int32) [(.int (nar .char c0)), (.int (0 : Int32)), (.int (0 : Int32)), (.int (0 : Int32)), (.int (0 : Int32)), (.int (0 : Int32))] (.int (0 : Int32)) := Arv.set Ar86 q86 S86 N86 H86 G86 (fits_nar_char _) W87 0 rfl (Nat.le_of_ble_eq_true rfl)
                obtain ⟨cl88, Ar88, q88, S88, N88, H88, G88⟩ := id (((V_r0.ext E83).ext E84).other W87 ne_r0_b84)
                have hin88 : ¬ ((1 : Int32) < 0 ∨ cl88.slots.size ≤ ((1 : Int32)).toNatClampNeg) := inb_of S88 ⟨by decide, by decide⟩
                have hat88 : cl88.slots[((1 : Int32)).toNatClampNeg]? = some (.int c1) := (H88 _ (Nat.lt_of_not_le fun q => hin88 (Or.inr q))).trans rfl
                obtain ⟨cl89, Ar89, q89, S89, N89, H89, G89⟩ := id V87
                have hin89 : ¬ ((1 : Int32) < 0 ∨ cl89.slots.size ≤ ((1 : Int32)).toNatClampNeg) := inb_of S89 ⟨by decide, by decide⟩
                obtain ⟨T90, h90, X90, e90, W90, st90⟩ := stC X87 hx hZ e87 Ar89 (j := (1 : Int32)) hin89  (g := (mkF m 210 #[.val (.ref r0), .val (.int p1)] [(.int c1), (.int (1 : Int32)), (.ref b84), (.ref b84), (.ref b83), (.ref b83)])) rfl rfl (hb hby d2_210)
                have Sf90 : Safe Z consts_1 s.vm h87 b84 := (own_safe_arv hZ.alike V87 (by decide))
                have hk90 := Nat.le_trans hk87 (Keep.of_wr W90).1
                have Cx90 := Cx87.trans (CHr.wr W90 Sf90 Cx87.1)
                have K90 : Keep h0 h90 [] := K87.wr W90 (Or.inr sz_b84)
                have B90 : Ext h0 h90 := own_keep_ext K90
                have N90 := Fr.snoc X90 N87 (Nat.le_trans Z0 sz_b84)
                have V90 : Arv Z h90 b84 k84 .char (6 : Int32) [(.int (nar .char c0)), (.int (nar .char c1)), (.int (0 : Int32)), (.int (0 : Int32)), (.int (0 : Int32)), (.int (0 : Int32))] (.int (0 : Int32)) := Arv.set Ar89 q89 S89 N89 H89 G89 (fits_nar_char _) W90 1 rfl (Nat.le_of_ble_eq_true rfl)
                obtain ⟨cl91, Ar91, q91, S91, N91, H91, G91⟩ := id ((((V_r0.ext E83).ext E84).other W87 ne_r0_b84).other W90 ne_r0_b84)
                have hin91 : ¬ ((2 : Int32) < 0 ∨ cl91.slots.size ≤ ((2 : Int32)).toNatClampNeg) := inb_of S91 ⟨by decide, by decide⟩
                have hat91 : cl91.slots[((2 : Int32)).toNatClampNeg]? = some (.int c2) := (H91 _ (Nat.lt_of_not_le fun q => hin91 (Or.inr q))).trans rfl
                obtain ⟨cl92, Ar92, q92, S92, N92, H92, G92⟩ := id V90
                have hin92 : ¬ ((2 : Int32) < 0 ∨ cl92.slots.size ≤ ((2 : Int32)).toNatClampNeg) := inb_of S92 ⟨by decide, by decide⟩
                obtain ⟨T93, h93, X93, e93, W93, st93⟩ := stC X90 hx hZ e90 Ar92 (j := (2 : Int32)) hin92  (g := (mkF m 216 #[.val (.ref r0), .val (.int p1)] [(.int c2), (.int (2 : Int32)), (.ref b84), (.ref b84), (.ref b83), (.ref b83)])) rfl rfl (hb hby d2_216)
                have Sf93 : Safe Z consts_1 s.vm h90 b84 := (own_safe_arv hZ.alike V90 (by decide))
                have hk93 := Nat.le_trans hk90 (Keep.of_wr W93).1
                have Cx93 := Cx90.trans (CHr.wr W93 Sf93 Cx90.1)
                have K93 : Keep h0 h93 [] := K90.wr W93 (Or.inr sz_b84)
                have B93 : Ext h0 h93 := own_keep_ext K93
                have N93 := Fr.snoc X93 N90 (Nat.le_trans Z0 sz_b84)
                have V93 : Arv Z h93 b84 k84 .char (6 : Int32) [(.int (nar .char c0)), (.int (nar .char c1)), (.int (nar .char c2)), (.int (0 : Int32)), (.int (0 : Int32)), (.int (0 : Int32))] (.int (0 : Int32)) := Arv.set Ar92 q92 S92 N92 H92 G92 (fits_nar_char _) W93 2 rfl (Nat.le_of_ble_eq_true rfl)
                obtain ⟨cl94, Ar94, q94, S94, N94, H94, G94⟩ := id (((((V_r0.ext E83).ext E84).other W87 ne_r0_b84).other W90 ne_r0_b84).other W93 ne_r0_b84)
                have hin94 : ¬ ((3 : Int32) < 0 ∨ cl94.slots.size ≤ ((3 : Int32)).toNatClampNeg) := inb_of S94 ⟨by decide, by decide⟩
                have hat94 : cl94.slots[((3 : Int32)).toNatClampNeg]? = some (.int c3) := (H94 _ (Nat.lt_of_not_le fun q => hin94 (Or.inr q))).trans rfl
                obtain ⟨cl95, Ar95, q95, S95, N95, H95, G95⟩ := id V93
                have hin95 : ¬ ((3 : Int32) < 0 ∨ cl95.slots.size ≤ ((3 : Int32)).toNatClampNeg) := inb_of S95 ⟨by decide, by decide⟩
                obtain ⟨T96, h96, X96, e96, W96, st96⟩ := stC X93 hx hZ e93 Ar95 (j := (3 : Int32)) hin95  (g := (mkF m 222 #[.val (.ref r0), .val (.int p1)] [(.int c3), (.int (3 : Int32)), (.ref b84), (.ref b84), (.ref b83), (.ref b83)])) rfl rfl (hb hby d2_222)
                have Sf96 : Safe Z consts_1 s.vm h93 b84 := (own_safe_arv hZ.alike V93 (by decide))
                have hk96 := Nat.le_trans hk93 (Keep.of_wr W96).1
                have Cx96 := Cx93.trans (CHr.wr W96 Sf96 Cx93.1)
                have K96 : Keep h0 h96 [] := K93.wr W96 (Or.inr sz_b84)
                have B96 : Ext h0 h96 := own_keep_ext K96
                have N96 := Fr.snoc X96 N93 (Nat.le_trans Z0 sz_b84)
                have V96 : Arv Z h96 b84 k84 .char (6 : Int32) [(.int (nar .char c0)), (.int (nar .char c1)), (.int (nar .char c2)), (.int (nar .char c3)), (.int (0 : Int32)), (.int (0 : Int32))] (.int (0 : Int32)) := Arv.set Ar95 q95 S95 N95 H95 G95 (fits_nar_char _) W96 3 rfl (Nat.le_of_ble_eq_true rfl)
                obtain ⟨cl97, Ar97, q97, S97, N97, H97, G97⟩ := id ((((((V_r0.ext E83).ext E84).other W87 ne_r0_b84).other W90 ne_r0_b84).other W93 ne_r0_b84).other W96 ne_r0_b84)
                have hin97 : ¬ ((4 : Int32) < 0 ∨ cl97.slots.size ≤ ((4 : Int32)).toNatClampNeg) := inb_of S97 ⟨by decide, by decide⟩
                have hat97 : cl97.slots[((4 : Int32)).toNatClampNeg]? = some (.int c4) := (H97 _ (Nat.lt_of_not_le fun q => hin97 (Or.inr q))).trans rfl
                obtain ⟨cl98, Ar98, q98, S98, N98, H98, G98⟩ := id V96
                have hin98 : ¬ ((4 : Int32) < 0 ∨ cl98.slots.size ≤ ((4 : Int32)).toNatClampNeg) := inb_of S98 ⟨by decide, by decide⟩
                obtain ⟨T99, h99, X99, e99, W99, st99⟩ := stC X96 hx hZ e96 Ar98 (j := (4 : Int32)) hin98  (g := (mkF m 228 #[.val (.ref r0), .val (.int p1)] [(.int c4), (.int (4 : Int32)), (.ref b84), (.ref b84), (.ref b83), (.ref b83)])) rfl rfl (hb hby d2_228)
                have Sf99 : Safe Z consts_1 s.vm h96 b84 := (own_safe_arv hZ.alike V96 (by decide))
                have hk99 := Nat.le_trans hk96 (Keep.of_wr W99).1
                have Cx99 := Cx96.trans (CHr.wr W99 Sf99 Cx96.1)
                have K99 : Keep h0 h99 [] := K96.wr W99 (Or.inr sz_b84)
                have B99 : Ext h0 h99 := own_keep_ext K99
                have N99 := Fr.snoc X99 N96 (Nat.le_trans Z0 sz_b84)
                have V99 : Arv Z h99 b84 k84 .char (6 : Int32) [(.int (nar .char c0)), (.int (nar .char c1)), (.int (nar .char c2)), (.int (nar .char c3)), (.int (nar .char c4)), (.int (0 : Int32))] (.int (0 : Int32)) := Arv.set Ar98 q98 S98 N98 H98 G98 (fits_nar_char _) W99 4 rfl (Nat.le_of_ble_eq_true rfl)
                obtain ⟨cl100, Ar100, q100, S100, N100, H100, G100⟩ := id (((((((V_r0.ext E83).ext E84).other W87 ne_r0_b84).other W90 ne_r0_b84).other W93 ne_r0_b84).other W96 ne_r0_b84).other W99 ne_r0_b84)
                have hin100 : ¬ ((5 : Int32) < 0 ∨ cl100.slots.size ≤ ((5 : Int32)).toNatClampNeg) := inb_of S100 ⟨by decide, by decide⟩
                have hat100 : cl100.slots[((5 : Int32)).toNatClampNeg]? = some (.int c5) := (H100 _ (Nat.lt_of_not_le fun q => hin100 (Or.inr q))).trans rfl
                obtain ⟨cl101, Ar101, q101, S101, N101, H101, G101⟩ := id V99
                have hin101 : ¬ ((5 : Int32) < 0 ∨ cl101.slots.size ≤ ((5 : Int32)).toNatClampNeg) := inb_of S101 ⟨by decide, by decide⟩
                obtain ⟨T102, h102, X102, e102, W102, st102⟩ := stC X99 hx hZ e99 Ar101 (j := (5 : Int32)) hin101  (g := (mkF m 234 #[.val (.ref r0), .val (.int p1)] [(.int c5), (.int (5 : Int32)), (.ref b84), (.ref b84), (.ref b83), (.ref b83)])) rfl rfl (hb hby d2_234)
                have Sf102 : Safe Z consts_1 s.vm h99 b84 := (own_safe_arv hZ.alike V99 (by decide))
                have hk102 := Nat.le_trans hk99 (Keep.of_wr W102).1
                have Cx102 := Cx99.trans (CHr.wr W102 Sf102 Cx99.1)
                have K102 : Keep h0 h102 [] := K99.wr W102 (Or.inr sz_b84)
                have B102 : Ext h0 h102 := own_keep_ext K102
                have N102 := Fr.snoc X102 N99 (Nat.le_trans Z0 sz_b84)
                have V102 : Arv Z h102 b84 k84 .char (6 : Int32) [(.int (nar .char c0)), (.int (nar .char c1)), (.int (nar .char c2)), (.int (nar .char c3)), (.int (nar .char c4)), (.int (nar .char c5))] (.int (0 : Int32)) := Arv.set Ar101 q101 S101 N101 H101 G101 (fits_nar_char _) W102 5 rfl (Nat.le_of_ble_eq_true rfl)
                have hws104 : ∀ d ∈ StrChars.Road.words, d.before a0 Z = true := fun d hd => hw d ((by decide +kernel : ∀ d ∈ StrChars.Road.words, d ∈ tables_1) d hd)
                have hlat104 : ∀ c ∈ ([(nar .char c0), (nar .char c1), (nar .char c2), (nar .char c3), (nar .char c4), (nar .char c5)] : List Int32), ¬ c < 0 ∧ ¬ (255 : Int32) < c := by
                  intro c hc
                  simp only [List.mem_cons, List.not_mem_nil, or_false] at hc
                  rcases hc with rfl | rfl | rfl | rfl | rfl | rfl
                  · exact own_rgl (own_rgr g0)
                  · exact own_rgl (own_rgr g1)
                  · exact own_rgl (own_rgr g2)
                  · exact own_rgl (own_rgr g3)
                  · exact own_rgl (own_rgr g4)
                  · exact own_rgl (own_rgr g5)
                obtain ⟨_, _, ⟨T103, L103, k103, n103⟩, -, X103, ⟨Lc103, hQ103, l103, y103, z103⟩, st103⟩ := X102.specialBack hx (y := (⟨"java/lang/String", "<init>", "([C)V"⟩ : MethodName)) rfl hown (mvT hZ (hw _ (List.mem_of_getElem? (i := 11) rfl))) (mvT hZ (hw _ (List.mem_of_getElem? (i := 12) rfl))) (mvT hZ (hw _ (List.mem_of_getElem? (i := 13) rfl))) (by decide) (StrChars.Road.backV (W := 1) hZ hws104 (kI := 4) (hw _ (List.mem_of_getElem? (i := 9) rfl)) (cs := [(nar .char c0), (nar .char c1), (nar .char c2), (nar .char c3), (nar .char c4), (nar .char c5)]) (bs := [((nar .char c0)).toInt8.toInt32, ((nar .char c1)).toInt8.toInt32, ((nar .char c2)).toInt8.toInt32, ((nar .char c3)).toInt8.toInt32, ((nar .char c4)).toInt8.toInt32, ((nar .char c5)).toInt8.toInt32]) (n := 6) (Nat.le_trans Z0 sz_b83) (Nat.le_trans Z0 K102.1) (((((((A83.ext E84).wr W87).wr W90).wr W93).wr W96).wr W99).wr W102) (((((((F83_value.ext E84).other W87 (Or.inl ne_b83_b84)).other W90 (Or.inl ne_b83_b84)).other W93 (Or.inl ne_b83_b84)).other W96 (Or.inl ne_b83_b84)).other W99 (Or.inl ne_b83_b84)).other W102 (Or.inl ne_b83_b84)) (((((((F83_coder.ext E84).other W87 (Or.inl ne_b83_b84)).other W90 (Or.inl ne_b83_b84)).other W93 (Or.inl ne_b83_b84)).other W96 (Or.inl ne_b83_b84)).other W99 (Or.inl ne_b83_b84)).other W102 (Or.inl ne_b83_b84)) V102 (S_CS.ext B102) hCS rfl rfl (by decide) (by decide) hlat104 rfl (by decide) (by decide)) (g := (mkF m 235 #[.val (.ref r0), .val (.int p1)] [(.ref b84), (.ref b83), (.ref b83)])) rfl (by rw [hml]; rfl) (Steps.refl _) (a := b83) (argsL := [(.ref b84)]) (rest := [(.ref b83)]) (lenOf pd_1 rfl) rfl (by show 2 * 0 + _ ≤ _; exact Nat.le_of_eq rfl) (hb hby d2_235) (fun _ _ => ⟨rfl, e102, (by decide : 2 + 1 ≤ _), (by decide : 10 + 6 ≤ _)⟩)
                dsimp only [Pt.U, Pt.locs, Pt.cells, Pt.slots] at X103 l103 y103 z103 st103 hQ103
                subst l103 y103 z103
                obtain ⟨rfl, N103q, K103q, E103q, C103q, t103, kb103, ht103a, ht103b, ht103c, V103q, A103q⟩ := hQ103
                have N103 := Fr.app N102 N103q
                have As103 : ∀ x ∈ ([b83] : List Addr), Safe Z consts_1 s.vm h102 x := (allS (own_safe_null hZ.alike (((((((A83.ext E84).wr W87).wr W90).wr W93).wr W96).wr W99).wr W102) (((((((F83_value.ext E84).other W87 (Or.inl ne_b83_b84)).other W90 (Or.inl ne_b83_b84)).other W93 (Or.inl ne_b83_b84)).other W96 (Or.inl ne_b83_b84)).other W99 (Or.inl ne_b83_b84)).other W102 (Or.inl ne_b83_b84))) all0)
                have hk103 := Nat.le_trans hk102 K103q.1
                have Cx103 := Cx102.trans (CHr.keep K103q As103 Cx102.1)
                have K103 : Keep h0 T103.heap [] := K102.trans K103q (allS (Or.inr sz_b83) all0)
                have B103 : Ext h0 T103.heap := own_keep_ext K103
                refine own_go (A' := (T103.setTop (mkF m 238 #[.val (.ref r0), .val (.int p1)] [(.ref b83)]))) (fun t k => ?_) ?_
                · show Steps p.tables e below (s₁.setTop (mkF m 191 #[.val (.ref r0), .val (.int p1)] [])) _
                  refine st83 _ ?_
                  show Steps p.tables e below (T83.setTop (mkF m 194 #[.val (.ref r0), .val (.int p1)] [(.ref b83)])) _
                  refine XS.dup X83.here hx rfl (hb hby d2_194) rfl rfl ?_
                  show Steps p.tables e below (T83.setTop (mkF m 195 #[.val (.ref r0), .val (.int p1)] [(.ref b83), (.ref b83)])) _
                  refine XS.bipush X83.here hx rfl (hb hby d2_195) ?_
                  show Steps p.tables e below (T83.setTop (mkF m 197 #[.val (.ref r0), .val (.int p1)] [(.int (6 : Int32)), (.ref b83), (.ref b83)])) _
                  refine st84 _ ?_
                  show Steps p.tables e below (T84.setTop (mkF m 199 #[.val (.ref r0), .val (.int p1)] [(.ref b84), (.ref b83), (.ref b83)])) _
                  refine XS.dup X84.here hx rfl (hb hby d2_199) rfl rfl ?_
                  show Steps p.tables e below (T84.setTop (mkF m 200 #[.val (.ref r0), .val (.int p1)] [(.ref b84), (.ref b84), (.ref b83), (.ref b83)])) _
                  refine XS.iconst X84.here hx rfl (hb hby d2_200) ?_
                  show Steps p.tables e below (T84.setTop (mkF m 201 #[.val (.ref r0), .val (.int p1)] [(.int (0 : Int32)), (.ref b84), (.ref b84), (.ref b83), (.ref b83)])) _
                  refine XS.aloadN X84.here hx rfl (hb hby d2_201) rfl rfl ?_
                  show Steps p.tables e below (T84.setTop (mkF m 202 #[.val (.ref r0), .val (.int p1)] [(.ref r0), (.int (0 : Int32)), (.ref b84), (.ref b84), (.ref b83), (.ref b83)])) _
                  refine XS.iconst X84.here hx rfl (hb hby d2_202) ?_
                  show Steps p.tables e below (T84.setTop (mkF m 203 #[.val (.ref r0), .val (.int p1)] [(.int (0 : Int32)), (.ref r0), (.int (0 : Int32)), (.ref b84), (.ref b84), (.ref b83), (.ref b83)])) _
                  refine X84.caload hx (j := (0 : Int32)) (v := (.int c0)) (by rw [e84]; exact Ar85.1) (State.isArrayOf_alike hZ.alike Ar85.2.1) Ar85.2.2 hin85 hat85 (g := (mkF m 203 #[.val (.ref r0), .val (.int p1)] [(.int (0 : Int32)), (.ref r0), (.int (0 : Int32)), (.ref b84), (.ref b84), (.ref b83), (.ref b83)])) rfl rfl (hb hby d2_203) _ ?_
                  show Steps p.tables e below (T84.setTop (mkF m 204 #[.val (.ref r0), .val (.int p1)] [(.int c0), (.int (0 : Int32)), (.ref b84), (.ref b84), (.ref b83), (.ref b83)])) _
                  refine st87 _ ?_
                  show Steps p.tables e below (T87.setTop (mkF m 205 #[.val (.ref r0), .val (.int p1)] [(.ref b84), (.ref b83), (.ref b83)])) _
                  refine XS.dup X87.here hx rfl (hb hby d2_205) rfl rfl ?_
                  show Steps p.tables e below (T87.setTop (mkF m 206 #[.val (.ref r0), .val (.int p1)] [(.ref b84), (.ref b84), (.ref b83), (.ref b83)])) _
                  refine XS.iconst X87.here hx rfl (hb hby d2_206) ?_
                  show Steps p.tables e below (T87.setTop (mkF m 207 #[.val (.ref r0), .val (.int p1)] [(.int (1 : Int32)), (.ref b84), (.ref b84), (.ref b83), (.ref b83)])) _
                  refine XS.aloadN X87.here hx rfl (hb hby d2_207) rfl rfl ?_
                  show Steps p.tables e below (T87.setTop (mkF m 208 #[.val (.ref r0), .val (.int p1)] [(.ref r0), (.int (1 : Int32)), (.ref b84), (.ref b84), (.ref b83), (.ref b83)])) _
                  refine XS.iconst X87.here hx rfl (hb hby d2_208) ?_
                  show Steps p.tables e below (T87.setTop (mkF m 209 #[.val (.ref r0), .val (.int p1)] [(.int (1 : Int32)), (.ref r0), (.int (1 : Int32)), (.ref b84), (.ref b84), (.ref b83), (.ref b83)])) _
                  refine X87.caload hx (j := (1 : Int32)) (v := (.int c1)) (by rw [e87]; exact Ar88.1) (State.isArrayOf_alike hZ.alike Ar88.2.1) Ar88.2.2 hin88 hat88 (g := (mkF m 209 #[.val (.ref r0), .val (.int p1)] [(.int (1 : Int32)), (.ref r0), (.int (1 : Int32)), (.ref b84), (.ref b84), (.ref b83), (.ref b83)])) rfl rfl (hb hby d2_209) _ ?_
                  show Steps p.tables e below (T87.setTop (mkF m 210 #[.val (.ref r0), .val (.int p1)] [(.int c1), (.int (1 : Int32)), (.ref b84), (.ref b84), (.ref b83), (.ref b83)])) _
                  refine st90 _ ?_
                  show Steps p.tables e below (T90.setTop (mkF m 211 #[.val (.ref r0), .val (.int p1)] [(.ref b84), (.ref b83), (.ref b83)])) _
                  refine XS.dup X90.here hx rfl (hb hby d2_211) rfl rfl ?_
                  show Steps p.tables e below (T90.setTop (mkF m 212 #[.val (.ref r0), .val (.int p1)] [(.ref b84), (.ref b84), (.ref b83), (.ref b83)])) _
                  refine XS.iconst X90.here hx rfl (hb hby d2_212) ?_
                  show Steps p.tables e below (T90.setTop (mkF m 213 #[.val (.ref r0), .val (.int p1)] [(.int (2 : Int32)), (.ref b84), (.ref b84), (.ref b83), (.ref b83)])) _
                  refine XS.aloadN X90.here hx rfl (hb hby d2_213) rfl rfl ?_
                  show Steps p.tables e below (T90.setTop (mkF m 214 #[.val (.ref r0), .val (.int p1)] [(.ref r0), (.int (2 : Int32)), (.ref b84), (.ref b84), (.ref b83), (.ref b83)])) _
                  refine XS.iconst X90.here hx rfl (hb hby d2_214) ?_
                  show Steps p.tables e below (T90.setTop (mkF m 215 #[.val (.ref r0), .val (.int p1)] [(.int (2 : Int32)), (.ref r0), (.int (2 : Int32)), (.ref b84), (.ref b84), (.ref b83), (.ref b83)])) _
                  refine X90.caload hx (j := (2 : Int32)) (v := (.int c2)) (by rw [e90]; exact Ar91.1) (State.isArrayOf_alike hZ.alike Ar91.2.1) Ar91.2.2 hin91 hat91 (g := (mkF m 215 #[.val (.ref r0), .val (.int p1)] [(.int (2 : Int32)), (.ref r0), (.int (2 : Int32)), (.ref b84), (.ref b84), (.ref b83), (.ref b83)])) rfl rfl (hb hby d2_215) _ ?_
                  show Steps p.tables e below (T90.setTop (mkF m 216 #[.val (.ref r0), .val (.int p1)] [(.int c2), (.int (2 : Int32)), (.ref b84), (.ref b84), (.ref b83), (.ref b83)])) _
                  refine st93 _ ?_
                  show Steps p.tables e below (T93.setTop (mkF m 217 #[.val (.ref r0), .val (.int p1)] [(.ref b84), (.ref b83), (.ref b83)])) _
                  refine XS.dup X93.here hx rfl (hb hby d2_217) rfl rfl ?_
                  show Steps p.tables e below (T93.setTop (mkF m 218 #[.val (.ref r0), .val (.int p1)] [(.ref b84), (.ref b84), (.ref b83), (.ref b83)])) _
                  refine XS.iconst X93.here hx rfl (hb hby d2_218) ?_
                  show Steps p.tables e below (T93.setTop (mkF m 219 #[.val (.ref r0), .val (.int p1)] [(.int (3 : Int32)), (.ref b84), (.ref b84), (.ref b83), (.ref b83)])) _
                  refine XS.aloadN X93.here hx rfl (hb hby d2_219) rfl rfl ?_
                  show Steps p.tables e below (T93.setTop (mkF m 220 #[.val (.ref r0), .val (.int p1)] [(.ref r0), (.int (3 : Int32)), (.ref b84), (.ref b84), (.ref b83), (.ref b83)])) _
                  refine XS.iconst X93.here hx rfl (hb hby d2_220) ?_
                  show Steps p.tables e below (T93.setTop (mkF m 221 #[.val (.ref r0), .val (.int p1)] [(.int (3 : Int32)), (.ref r0), (.int (3 : Int32)), (.ref b84), (.ref b84), (.ref b83), (.ref b83)])) _
                  refine X93.caload hx (j := (3 : Int32)) (v := (.int c3)) (by rw [e93]; exact Ar94.1) (State.isArrayOf_alike hZ.alike Ar94.2.1) Ar94.2.2 hin94 hat94 (g := (mkF m 221 #[.val (.ref r0), .val (.int p1)] [(.int (3 : Int32)), (.ref r0), (.int (3 : Int32)), (.ref b84), (.ref b84), (.ref b83), (.ref b83)])) rfl rfl (hb hby d2_221) _ ?_
                  show Steps p.tables e below (T93.setTop (mkF m 222 #[.val (.ref r0), .val (.int p1)] [(.int c3), (.int (3 : Int32)), (.ref b84), (.ref b84), (.ref b83), (.ref b83)])) _
                  refine st96 _ ?_
                  show Steps p.tables e below (T96.setTop (mkF m 223 #[.val (.ref r0), .val (.int p1)] [(.ref b84), (.ref b83), (.ref b83)])) _
                  refine XS.dup X96.here hx rfl (hb hby d2_223) rfl rfl ?_
                  show Steps p.tables e below (T96.setTop (mkF m 224 #[.val (.ref r0), .val (.int p1)] [(.ref b84), (.ref b84), (.ref b83), (.ref b83)])) _
                  refine XS.iconst X96.here hx rfl (hb hby d2_224) ?_
                  show Steps p.tables e below (T96.setTop (mkF m 225 #[.val (.ref r0), .val (.int p1)] [(.int (4 : Int32)), (.ref b84), (.ref b84), (.ref b83), (.ref b83)])) _
                  refine XS.aloadN X96.here hx rfl (hb hby d2_225) rfl rfl ?_
                  show Steps p.tables e below (T96.setTop (mkF m 226 #[.val (.ref r0), .val (.int p1)] [(.ref r0), (.int (4 : Int32)), (.ref b84), (.ref b84), (.ref b83), (.ref b83)])) _
                  refine XS.iconst X96.here hx rfl (hb hby d2_226) ?_
                  show Steps p.tables e below (T96.setTop (mkF m 227 #[.val (.ref r0), .val (.int p1)] [(.int (4 : Int32)), (.ref r0), (.int (4 : Int32)), (.ref b84), (.ref b84), (.ref b83), (.ref b83)])) _
                  refine X96.caload hx (j := (4 : Int32)) (v := (.int c4)) (by rw [e96]; exact Ar97.1) (State.isArrayOf_alike hZ.alike Ar97.2.1) Ar97.2.2 hin97 hat97 (g := (mkF m 227 #[.val (.ref r0), .val (.int p1)] [(.int (4 : Int32)), (.ref r0), (.int (4 : Int32)), (.ref b84), (.ref b84), (.ref b83), (.ref b83)])) rfl rfl (hb hby d2_227) _ ?_
                  show Steps p.tables e below (T96.setTop (mkF m 228 #[.val (.ref r0), .val (.int p1)] [(.int c4), (.int (4 : Int32)), (.ref b84), (.ref b84), (.ref b83), (.ref b83)])) _
                  refine st99 _ ?_
                  show Steps p.tables e below (T99.setTop (mkF m 229 #[.val (.ref r0), .val (.int p1)] [(.ref b84), (.ref b83), (.ref b83)])) _
                  refine XS.dup X99.here hx rfl (hb hby d2_229) rfl rfl ?_
                  show Steps p.tables e below (T99.setTop (mkF m 230 #[.val (.ref r0), .val (.int p1)] [(.ref b84), (.ref b84), (.ref b83), (.ref b83)])) _
                  refine XS.iconst X99.here hx rfl (hb hby d2_230) ?_
                  show Steps p.tables e below (T99.setTop (mkF m 231 #[.val (.ref r0), .val (.int p1)] [(.int (5 : Int32)), (.ref b84), (.ref b84), (.ref b83), (.ref b83)])) _
                  refine XS.aloadN X99.here hx rfl (hb hby d2_231) rfl rfl ?_
                  show Steps p.tables e below (T99.setTop (mkF m 232 #[.val (.ref r0), .val (.int p1)] [(.ref r0), (.int (5 : Int32)), (.ref b84), (.ref b84), (.ref b83), (.ref b83)])) _
                  refine XS.iconst X99.here hx rfl (hb hby d2_232) ?_
                  show Steps p.tables e below (T99.setTop (mkF m 233 #[.val (.ref r0), .val (.int p1)] [(.int (5 : Int32)), (.ref r0), (.int (5 : Int32)), (.ref b84), (.ref b84), (.ref b83), (.ref b83)])) _
                  refine X99.caload hx (j := (5 : Int32)) (v := (.int c5)) (by rw [e99]; exact Ar100.1) (State.isArrayOf_alike hZ.alike Ar100.2.1) Ar100.2.2 hin100 hat100 (g := (mkF m 233 #[.val (.ref r0), .val (.int p1)] [(.int (5 : Int32)), (.ref r0), (.int (5 : Int32)), (.ref b84), (.ref b84), (.ref b83), (.ref b83)])) rfl rfl (hb hby d2_233) _ ?_
                  show Steps p.tables e below (T99.setTop (mkF m 234 #[.val (.ref r0), .val (.int p1)] [(.int c5), (.int (5 : Int32)), (.ref b84), (.ref b84), (.ref b83), (.ref b83)])) _
                  refine st102 _ ?_
                  show Steps p.tables e below (T102.setTop (mkF m 235 #[.val (.ref r0), .val (.int p1)] [(.ref b84), (.ref b83), (.ref b83)])) _
                  refine st103.trans ?_
                  exact k
                obtain ⟨fs, hr, hrun, hended, hend⟩ := X103.leaveW (v := some (.ref b83)) hS0 hk103 (fun h => by rw [Bd.returns] at h; cases h) hlk
                refine ⟨_, _, ?_, hrun, hended, _, _, rfl, ?_, ?_, ⟨_, rfl⟩, hend.2.1, hend.2.2.1, hend.2.2.2.mono (by decide) (by decide)⟩
                · show Steps p.tables e below (T103.setTop (mkF m 238 #[.val (.ref r0), .val (.int p1)] [(.ref b83)])) _
                  exact own_retV X103 hx Bd.returns rfl rfl (hb hby d2_238) hr
                · show Q2 Z r0 p1 kC c0 c1 c2 c3 c4 c5 c6 c7 zCS h0 n0 _ T103.heap _
                  exact ⟨b83, [(nar .char c0), (nar .char c1), (nar .char c2), (nar .char c3), (nar .char c4), (nar .char c5)], rfl, N103, K103, E103q, C103q, (fun c hc => by
                      simp only [List.mem_cons, List.not_mem_nil, or_false] at hc
                      rcases hc with rfl | rfl | rfl | rfl | rfl | rfl
                      · exact own_rgl (own_rgr g0)
                      · exact own_rgl (own_rgr g1)
                      · exact own_rgl (own_rgr g2)
                      · exact own_rgl (own_rgr g3)
                      · exact own_rgl (own_rgr g4)
                      · exact own_rgl (own_rgr g5)), Nat.le_of_ble_eq_true rfl, _, _, V103q, A103q⟩
                · show CHr Z consts_1 s.vm s.heap T103.vm T103.heap
                  rw [hh]
                  exact Cx103.trans (CHv.at X103 hZ hEL Cx103.1)
              · -- hc82: no
                refine own_go (A' := (s₁.setTop (mkF m 239 #[.val (.ref r0), .val (.int p1)] []))) (fun t k => XS.icmpYes X0.here hx rfl (pc0 := 188) (pc' := 239) rfl (hb hby d2_188) rfl (feq hc82).2 (by decide) (by decide) k) ?_
                refine own_go (A' := (s₁.setTop (mkF m 242 #[.val (.ref r0), .val (.int p1)] [(.int (7 : Int32)), (.int p1)]))) (fun t k => ?_) ?_
                · show Steps p.tables e below (s₁.setTop (mkF m 239 #[.val (.ref r0), .val (.int p1)] [])) _
                  refine XS.iloadN X0.here hx rfl (hb hby d2_239) rfl ?_
                  show Steps p.tables e below (s₁.setTop (mkF m 240 #[.val (.ref r0), .val (.int p1)] [(.int p1)])) _
                  refine XS.bipush X0.here hx rfl (hb hby d2_240) ?_
                  exact k
                by_cases hc105 : p1 = (7 : Int32)
                · -- hc105: yes
                  refine own_go (A' := (s₁.setTop (mkF m 245 #[.val (.ref r0), .val (.int p1)] []))) (fun t k => XS.icmpNo X0.here hx rfl (hb hby d2_242) rfl (teq hc105).2 k) ?_
                  obtain ⟨T106, h106, X106, e106, E106, A106, D106, -, st106⟩ := newO X0 hx hZ hown (hw _ (List.mem_of_getElem? (i := 8) rfl)) (hw _ (List.mem_of_getElem? (i := 9) rfl)) (hw _ (List.mem_of_getElem? (i := 10) rfl)) e0 (g := (mkF m 245 #[.val (.ref r0), .val (.int p1)] [])) rfl (hb hby d2_245) (by decide) (by decide)
                  obtain ⟨b106, g106⟩ : ∃ z, z = h0.size := ⟨_, rfl⟩
                  have sz_b106 : h0.size ≤ b106 := Nat.le_of_eq g106.symm
                  have ne_r0_b106 : r0 ≠ b106 := Nat.ne_of_lt (Nat.lt_of_lt_of_le V_r0.lt (Nat.le_of_eq g106.symm))
                  rw [← g106] at A106 D106 st106
                  have hk106 := Nat.le_trans hk0 E106.1
                  have Cx106 := Cx0.trans (CHr.ext E106 Cx0.1)
                  have K106 : Keep h0 h106 [] := (Keep.refl h0 []).ext E106
                  have B106 : Ext h0 h106 := own_keep_ext K106
                  have F106_coder : Fld Z h106 b106 "java/lang/String" "coder" "B" (.int (0 : Int32)) := D106 (Or.inr (hw _ (List.mem_of_getElem? (i := 34) rfl))) (ty := .byte) (by decide)
                  have F106_value : Fld Z h106 b106 "java/lang/String" "value" "[B" .null := D106 (Or.inr (hw _ (List.mem_of_getElem? (i := 36) rfl))) (ty := (.array .byte)) (by decide)
                  obtain ⟨T107, h107, k107, X107, e107, E107, A107, st107⟩ := newP X106 hx hZ (hw _ (List.mem_of_getElem? (i := 0) rfl)) e106 (g := (mkF m 251 #[.val (.ref r0), .val (.int p1)] [(.int (7 : Int32)), (.ref b106), (.ref b106)])) rfl (hb hby d2_251) rfl (by decide) (cap := 7) (by decide) (by decide) (by decide) (by decide)
                  obtain ⟨b107, g107⟩ : ∃ z, z = h106.size := ⟨_, rfl⟩
                  have sz_b107 : h0.size ≤ b107 := Nat.le_trans K106.1 (Nat.le_of_eq g107.symm)
                  have ne_r0_b107 : r0 ≠ b107 := Nat.ne_of_lt (Nat.lt_of_lt_of_le (V_r0.ext E106).lt (Nat.le_of_eq g107.symm))
                  have ne_b106_b107 : b106 ≠ b107 := Nat.ne_of_lt (Nat.lt_of_lt_of_le A106.lt (Nat.le_of_eq g107.symm))
                  rw [← g107] at A107 st107
                  have hk107 := Nat.le_trans hk106 E107.1
                  have Cx107 := Cx106.trans (CHr.ext E107 Cx106.1)
                  have K107 : Keep h0 h107 [] := K106.ext E107
                  have B107 : Ext h0 h107 := own_keep_ext K107
                  have V107 : Arv Z h107 b107 k107 .char (7 : Int32) [(.int (0 : Int32)), (.int (0 : Int32)), (.int (0 : Int32)), (.int (0 : Int32)), (.int (0 : Int32)), (.int (0 : Int32)), (.int (0 : Int32))] (.int (0 : Int32)) := (Arv.new A107 (by decide)).pad (pad_rep [] (.int (0 : Int32)) 7)
                  obtain ⟨cl108, Ar108, q108, S108, N108, H108, G108⟩ := id ((V_r0.ext E106).ext E107)
                  have hin108 : ¬ ((0 : Int32) < 0 ∨ cl108.slots.size ≤ ((0 : Int32)).toNatClampNeg) := inb_of S108 ⟨by decide, by decide⟩
                  have hat108 : cl108.slots[((0 : Int32)).toNatClampNeg]? = some (.int c0) := (H108 _ (Nat.lt_of_not_le fun q => hin108 (Or.inr q))).trans rfl
                  obtain ⟨cl109, Ar109, q109, S109, N109, H109, G109⟩ := id V107
                  have hin109 : ¬ ((0 : Int32) < 0 ∨ cl109.slots.size ≤ ((0 : Int32)).toNatClampNeg) := inb_of S109 ⟨by decide, by decide⟩
                  obtain ⟨T110, h110, X110, e110, W110, st110⟩ := stC X107 hx hZ e107 Ar109 (j := (0 : Int32)) hin109  (g := (mkF m 258 #[.val (.ref r0), .val (.int p1)] [(.int c0), (.int (0 : Int32)), (.ref b107), (.ref b107), (.ref b106), (.ref b106)])) rfl rfl (hb hby d2_258)
                  have Sf110 : Safe Z consts_1 s.vm h107 b107 := (own_safe_arv hZ.alike V107 (by decide))
                  have hk110 := Nat.le_trans hk107 (Keep.of_wr W110).1
                  have Cx110 := Cx107.trans (CHr.wr W110 Sf110 Cx107.1)
                  have K110 : Keep h0 h110 [] := K107.wr W110 (Or.inr sz_b107)
                  have B110 : Ext h0 h110 := own_keep_ext K110
                  have N110 := Fr.snoc X110 N0 (Nat.le_trans Z0 sz_b107)
                  have V110 : Arv Z h110 b107 k107 .char (7 : Int32) [(.int (nar .char c0)), (.int (0 : Int32)), (.int (0 : Int32)), (.int (0 : Int32)), (.int (0 : Int32)), (.int (0 : Int32)), (.int (0 : Int32))] (.int (0 : Int32)) := Arv.set Ar109 q109 S109 N109 H109 G109 (fits_nar_char _) W110 0 rfl (Nat.le_of_ble_eq_true rfl)
                  obtain ⟨cl111, Ar111, q111, S111, N111, H111, G111⟩ := id (((V_r0.ext E106).ext E107).other W110 ne_r0_b107)
                  have hin111 : ¬ ((1 : Int32) < 0 ∨ cl111.slots.size ≤ ((1 : Int32)).toNatClampNeg) := inb_of S111 ⟨by decide, by decide⟩
                  have hat111 : cl111.slots[((1 : Int32)).toNatClampNeg]? = some (.int c1) := (H111 _ (Nat.lt_of_not_le fun q => hin111 (Or.inr q))).trans rfl
                  obtain ⟨cl112, Ar112, q112, S112, N112, H112, G112⟩ := id V110
                  have hin112 : ¬ ((1 : Int32) < 0 ∨ cl112.slots.size ≤ ((1 : Int32)).toNatClampNeg) := inb_of S112 ⟨by decide, by decide⟩
                  obtain ⟨T113, h113, X113, e113, W113, st113⟩ := stC X110 hx hZ e110 Ar112 (j := (1 : Int32)) hin112  (g := (mkF m 264 #[.val (.ref r0), .val (.int p1)] [(.int c1), (.int (1 : Int32)), (.ref b107), (.ref b107), (.ref b106), (.ref b106)])) rfl rfl (hb hby d2_264)
                  have Sf113 : Safe Z consts_1 s.vm h110 b107 := (own_safe_arv hZ.alike V110 (by decide))
                  have hk113 := Nat.le_trans hk110 (Keep.of_wr W113).1
                  have Cx113 := Cx110.trans (CHr.wr W113 Sf113 Cx110.1)
                  have K113 : Keep h0 h113 [] := K110.wr W113 (Or.inr sz_b107)
                  have B113 : Ext h0 h113 := own_keep_ext K113
                  have N113 := Fr.snoc X113 N110 (Nat.le_trans Z0 sz_b107)
                  have V113 : Arv Z h113 b107 k107 .char (7 : Int32) [(.int (nar .char c0)), (.int (nar .char c1)), (.int (0 : Int32)), (.int (0 : Int32)), (.int (0 : Int32)), (.int (0 : Int32)), (.int (0 : Int32))] (.int (0 : Int32)) := Arv.set Ar112 q112 S112 N112 H112 G112 (fits_nar_char _) W113 1 rfl (Nat.le_of_ble_eq_true rfl)
                  obtain ⟨cl114, Ar114, q114, S114, N114, H114, G114⟩ := id ((((V_r0.ext E106).ext E107).other W110 ne_r0_b107).other W113 ne_r0_b107)
                  have hin114 : ¬ ((2 : Int32) < 0 ∨ cl114.slots.size ≤ ((2 : Int32)).toNatClampNeg) := inb_of S114 ⟨by decide, by decide⟩
                  have hat114 : cl114.slots[((2 : Int32)).toNatClampNeg]? = some (.int c2) := (H114 _ (Nat.lt_of_not_le fun q => hin114 (Or.inr q))).trans rfl
                  obtain ⟨cl115, Ar115, q115, S115, N115, H115, G115⟩ := id V113
                  have hin115 : ¬ ((2 : Int32) < 0 ∨ cl115.slots.size ≤ ((2 : Int32)).toNatClampNeg) := inb_of S115 ⟨by decide, by decide⟩
                  obtain ⟨T116, h116, X116, e116, W116, st116⟩ := stC X113 hx hZ e113 Ar115 (j := (2 : Int32)) hin115  (g := (mkF m 270 #[.val (.ref r0), .val (.int p1)] [(.int c2), (.int (2 : Int32)), (.ref b107), (.ref b107), (.ref b106), (.ref b106)])) rfl rfl (hb hby d2_270)
                  have Sf116 : Safe Z consts_1 s.vm h113 b107 := (own_safe_arv hZ.alike V113 (by decide))
                  have hk116 := Nat.le_trans hk113 (Keep.of_wr W116).1
                  have Cx116 := Cx113.trans (CHr.wr W116 Sf116 Cx113.1)
                  have K116 : Keep h0 h116 [] := K113.wr W116 (Or.inr sz_b107)
                  have B116 : Ext h0 h116 := own_keep_ext K116
                  have N116 := Fr.snoc X116 N113 (Nat.le_trans Z0 sz_b107)
                  have V116 : Arv Z h116 b107 k107 .char (7 : Int32) [(.int (nar .char c0)), (.int (nar .char c1)), (.int (nar .char c2)), (.int (0 : Int32)), (.int (0 : Int32)), (.int (0 : Int32)), (.int (0 : Int32))] (.int (0 : Int32)) := Arv.set Ar115 q115 S115 N115 H115 G115 (fits_nar_char _) W116 2 rfl (Nat.le_of_ble_eq_true rfl)
                  obtain ⟨cl117, Ar117, q117, S117, N117, H117, G117⟩ := id (((((V_r0.ext E106).ext E107).other W110 ne_r0_b107).other W113 ne_r0_b107).other W116 ne_r0_b107)
                  have hin117 : ¬ ((3 : Int32) < 0 ∨ cl117.slots.size ≤ ((3 : Int32)).toNatClampNeg) := inb_of S117 ⟨by decide, by decide⟩
                  have hat117 : cl117.slots[((3 : Int32)).toNatClampNeg]? = some (.int c3) := (H117 _ (Nat.lt_of_not_le fun q => hin117 (Or.inr q))).trans rfl
                  obtain ⟨cl118, Ar118, q118, S118, N118, H118, G118⟩ := id V116
                  have hin118 : ¬ ((3 : Int32) < 0 ∨ cl118.slots.size ≤ ((3 : Int32)).toNatClampNeg) := inb_of S118 ⟨by decide, by decide⟩
                  obtain ⟨T119, h119, X119, e119, W119, st119⟩ := stC X116 hx hZ e116 Ar118 (j := (3 : Int32)) hin118  (g := (mkF m 276 #[.val (.ref r0), .val (.int p1)] [(.int c3), (.int (3 : Int32)), (.ref b107), (.ref b107), (.ref b106), (.ref b106)])) rfl rfl (hb hby d2_276)
                  have Sf119 : Safe Z consts_1 s.vm h116 b107 := (own_safe_arv hZ.alike V116 (by decide))
                  have hk119 := Nat.le_trans hk116 (Keep.of_wr W119).1
                  have Cx119 := Cx116.trans (CHr.wr W119 Sf119 Cx116.1)
                  have K119 : Keep h0 h119 [] := K116.wr W119 (Or.inr sz_b107)
                  have B119 : Ext h0 h119 := own_keep_ext K119
                  have N119 := Fr.snoc X119 N116 (Nat.le_trans Z0 sz_b107)
                  have V119 : Arv Z h119 b107 k107 .char (7 : Int32) [(.int (nar .char c0)), (.int (nar .char c1)), (.int (nar .char c2)), (.int (nar .char c3)), (.int (0 : Int32)), (.int (0 : Int32)), (.int (0 : Int32))] (.int (0 : Int32)) := Arv.set Ar118 q118 S118 N118 H118 G118 (fits_nar_char _) W119 3 rfl (Nat.le_of_ble_eq_true rfl)
                  obtain ⟨cl120, Ar120, q120, S120, N120, H120, G120⟩ := id ((((((V_r0.ext E106).ext E107).other W110 ne_r0_b107).other W113 ne_r0_b107).other W116 ne_r0_b107).other W119 ne_r0_b107)
                  have hin120 : ¬ ((4 : Int32) < 0 ∨ cl120.slots.size ≤ ((4 : Int32)).toNatClampNeg) := inb_of S120 ⟨by decide, by decide⟩
                  have hat120 : cl120.slots[((4 : Int32)).toNatClampNeg]? = some (.int c4) := (H120 _ (Nat.lt_of_not_le fun q => hin120 (Or.inr q))).trans rfl
                  obtain ⟨cl121, Ar121, q121, S121, N121, H121, G121⟩ := id V119
                  have hin121 : ¬ ((4 : Int32) < 0 ∨ cl121.slots.size ≤ ((4 : Int32)).toNatClampNeg) := inb_of S121 ⟨by decide, by decide⟩
                  obtain ⟨T122, h122, X122, e122, W122, st122⟩ := stC X119 hx hZ e119 Ar121 (j := (4 : Int32)) hin121  (g := (mkF m 282 #[.val (.ref r0), .val (.int p1)] [(.int c4), (.int (4 : Int32)), (.ref b107), (.ref b107), (.ref b106), (.ref b106)])) rfl rfl (hb hby d2_282)
                  have Sf122 : Safe Z consts_1 s.vm h119 b107 := (own_safe_arv hZ.alike V119 (by decide))
                  have hk122 := Nat.le_trans hk119 (Keep.of_wr W122).1
                  have Cx122 := Cx119.trans (CHr.wr W122 Sf122 Cx119.1)
                  have K122 : Keep h0 h122 [] := K119.wr W122 (Or.inr sz_b107)
                  have B122 : Ext h0 h122 := own_keep_ext K122
                  have N122 := Fr.snoc X122 N119 (Nat.le_trans Z0 sz_b107)
                  have V122 : Arv Z h122 b107 k107 .char (7 : Int32) [(.int (nar .char c0)), (.int (nar .char c1)), (.int (nar .char c2)), (.int (nar .char c3)), (.int (nar .char c4)), (.int (0 : Int32)), (.int (0 : Int32))] (.int (0 : Int32)) := Arv.set Ar121 q121 S121 N121 H121 G121 (fits_nar_char _) W122 4 rfl (Nat.le_of_ble_eq_true rfl)
                  obtain ⟨cl123, Ar123, q123, S123, N123, H123, G123⟩ := id (((((((V_r0.ext E106).ext E107).other W110 ne_r0_b107).other W113 ne_r0_b107).other W116 ne_r0_b107).other W119 ne_r0_b107).other W122 ne_r0_b107)
                  have hin123 : ¬ ((5 : Int32) < 0 ∨ cl123.slots.size ≤ ((5 : Int32)).toNatClampNeg) := inb_of S123 ⟨by decide, by decide⟩
                  have hat123 : cl123.slots[((5 : Int32)).toNatClampNeg]? = some (.int c5) := (H123 _ (Nat.lt_of_not_le fun q => hin123 (Or.inr q))).trans rfl
                  obtain ⟨cl124, Ar124, q124, S124, N124, H124, G124⟩ := id V122
                  have hin124 : ¬ ((5 : Int32) < 0 ∨ cl124.slots.size ≤ ((5 : Int32)).toNatClampNeg) := inb_of S124 ⟨by decide, by decide⟩
                  obtain ⟨T125, h125, X125, e125, W125, st125⟩ := stC X122 hx hZ e122 Ar124 (j := (5 : Int32)) hin124  (g := (mkF m 288 #[.val (.ref r0), .val (.int p1)] [(.int c5), (.int (5 : Int32)), (.ref b107), (.ref b107), (.ref b106), (.ref b106)])) rfl rfl (hb hby d2_288)
                  have Sf125 : Safe Z consts_1 s.vm h122 b107 := (own_safe_arv hZ.alike V122 (by decide))
                  have hk125 := Nat.le_trans hk122 (Keep.of_wr W125).1
                  have Cx125 := Cx122.trans (CHr.wr W125 Sf125 Cx122.1)
                  have K125 : Keep h0 h125 [] := K122.wr W125 (Or.inr sz_b107)
                  have B125 : Ext h0 h125 := own_keep_ext K125
                  have N125 := Fr.snoc X125 N122 (Nat.le_trans Z0 sz_b107)
                  have V125 : Arv Z h125 b107 k107 .char (7 : Int32) [(.int (nar .char c0)), (.int (nar .char c1)), (.int (nar .char c2)), (.int (nar .char c3)), (.int (nar .char c4)), (.int (nar .char c5)), (.int (0 : Int32))] (.int (0 : Int32)) := Arv.set Ar124 q124 S124 N124 H124 G124 (fits_nar_char _) W125 5 rfl (Nat.le_of_ble_eq_true rfl)
                  obtain ⟨cl126, Ar126, q126, S126, N126, H126, G126⟩ := id ((((((((V_r0.ext E106).ext E107).other W110 ne_r0_b107).other W113 ne_r0_b107).other W116 ne_r0_b107).other W119 ne_r0_b107).other W122 ne_r0_b107).other W125 ne_r0_b107)
                  have hin126 : ¬ ((6 : Int32) < 0 ∨ cl126.slots.size ≤ ((6 : Int32)).toNatClampNeg) := inb_of S126 ⟨by decide, by decide⟩
                  have hat126 : cl126.slots[((6 : Int32)).toNatClampNeg]? = some (.int c6) := (H126 _ (Nat.lt_of_not_le fun q => hin126 (Or.inr q))).trans rfl
                  obtain ⟨cl127, Ar127, q127, S127, N127, H127, G127⟩ := id V125
                  have hin127 : ¬ ((6 : Int32) < 0 ∨ cl127.slots.size ≤ ((6 : Int32)).toNatClampNeg) := inb_of S127 ⟨by decide, by decide⟩
                  obtain ⟨T128, h128, X128, e128, W128, st128⟩ := stC X125 hx hZ e125 Ar127 (j := (6 : Int32)) hin127  (g := (mkF m 296 #[.val (.ref r0), .val (.int p1)] [(.int c6), (.int (6 : Int32)), (.ref b107), (.ref b107), (.ref b106), (.ref b106)])) rfl rfl (hb hby d2_296)
                  have Sf128 : Safe Z consts_1 s.vm h125 b107 := (own_safe_arv hZ.alike V125 (by decide))
                  have hk128 := Nat.le_trans hk125 (Keep.of_wr W128).1
                  have Cx128 := Cx125.trans (CHr.wr W128 Sf128 Cx125.1)
                  have K128 : Keep h0 h128 [] := K125.wr W128 (Or.inr sz_b107)
                  have B128 : Ext h0 h128 := own_keep_ext K128
                  have N128 := Fr.snoc X128 N125 (Nat.le_trans Z0 sz_b107)
                  have V128 : Arv Z h128 b107 k107 .char (7 : Int32) [(.int (nar .char c0)), (.int (nar .char c1)), (.int (nar .char c2)), (.int (nar .char c3)), (.int (nar .char c4)), (.int (nar .char c5)), (.int (nar .char c6))] (.int (0 : Int32)) := Arv.set Ar127 q127 S127 N127 H127 G127 (fits_nar_char _) W128 6 rfl (Nat.le_of_ble_eq_true rfl)
                  have hws130 : ∀ d ∈ StrChars.Road.words, d.before a0 Z = true := fun d hd => hw d ((by decide +kernel : ∀ d ∈ StrChars.Road.words, d ∈ tables_1) d hd)
                  have hlat130 : ∀ c ∈ ([(nar .char c0), (nar .char c1), (nar .char c2), (nar .char c3), (nar .char c4), (nar .char c5), (nar .char c6)] : List Int32), ¬ c < 0 ∧ ¬ (255 : Int32) < c := by
                    intro c hc
                    simp only [List.mem_cons, List.not_mem_nil, or_false] at hc
                    rcases hc with rfl | rfl | rfl | rfl | rfl | rfl | rfl
                    · exact own_rgl (own_rgr g0)
                    · exact own_rgl (own_rgr g1)
                    · exact own_rgl (own_rgr g2)
                    · exact own_rgl (own_rgr g3)
                    · exact own_rgl (own_rgr g4)
                    · exact own_rgl (own_rgr g5)
                    · exact own_rgl (own_rgr g6)
                  obtain ⟨_, _, ⟨T129, L129, k129, n129⟩, -, X129, ⟨Lc129, hQ129, l129, y129, z129⟩, st129⟩ := X128.specialBack hx (y := (⟨"java/lang/String", "<init>", "([C)V"⟩ : MethodName)) rfl hown (mvT hZ (hw _ (List.mem_of_getElem? (i := 11) rfl))) (mvT hZ (hw _ (List.mem_of_getElem? (i := 12) rfl))) (mvT hZ (hw _ (List.mem_of_getElem? (i := 13) rfl))) (by decide) (StrChars.Road.backV (W := 1) hZ hws130 (kI := 4) (hw _ (List.mem_of_getElem? (i := 9) rfl)) (cs := [(nar .char c0), (nar .char c1), (nar .char c2), (nar .char c3), (nar .char c4), (nar .char c5), (nar .char c6)]) (bs := [((nar .char c0)).toInt8.toInt32, ((nar .char c1)).toInt8.toInt32, ((nar .char c2)).toInt8.toInt32, ((nar .char c3)).toInt8.toInt32, ((nar .char c4)).toInt8.toInt32, ((nar .char c5)).toInt8.toInt32, ((nar .char c6)).toInt8.toInt32]) (n := 7) (Nat.le_trans Z0 sz_b106) (Nat.le_trans Z0 K128.1) ((((((((A106.ext E107).wr W110).wr W113).wr W116).wr W119).wr W122).wr W125).wr W128) ((((((((F106_value.ext E107).other W110 (Or.inl ne_b106_b107)).other W113 (Or.inl ne_b106_b107)).other W116 (Or.inl ne_b106_b107)).other W119 (Or.inl ne_b106_b107)).other W122 (Or.inl ne_b106_b107)).other W125 (Or.inl ne_b106_b107)).other W128 (Or.inl ne_b106_b107)) ((((((((F106_coder.ext E107).other W110 (Or.inl ne_b106_b107)).other W113 (Or.inl ne_b106_b107)).other W116 (Or.inl ne_b106_b107)).other W119 (Or.inl ne_b106_b107)).other W122 (Or.inl ne_b106_b107)).other W125 (Or.inl ne_b106_b107)).other W128 (Or.inl ne_b106_b107)) V128 (S_CS.ext B128) hCS rfl rfl (by decide) (by decide) hlat130 rfl (by decide) (by decide)) (g := (mkF m 297 #[.val (.ref r0), .val (.int p1)] [(.ref b107), (.ref b106), (.ref b106)])) rfl (by rw [hml]; rfl) (Steps.refl _) (a := b106) (argsL := [(.ref b107)]) (rest := [(.ref b106)]) (lenOf pd_1 rfl) rfl (by show 2 * 0 + _ ≤ _; exact Nat.le_of_eq rfl) (hb hby d2_297) (fun _ _ => ⟨rfl, e128, (by decide : 2 + 1 ≤ _), (by decide : 11 + 7 ≤ _)⟩)
                  dsimp only [Pt.U, Pt.locs, Pt.cells, Pt.slots] at X129 l129 y129 z129 st129 hQ129
                  subst l129 y129 z129
                  obtain ⟨rfl, N129q, K129q, E129q, C129q, t129, kb129, ht129a, ht129b, ht129c, V129q, A129q⟩ := hQ129
                  have N129 := Fr.app N128 N129q
                  have As129 : ∀ x ∈ ([b106] : List Addr), Safe Z consts_1 s.vm h128 x := (allS (own_safe_null hZ.alike ((((((((A106.ext E107).wr W110).wr W113).wr W116).wr W119).wr W122).wr W125).wr W128) ((((((((F106_value.ext E107).other W110 (Or.inl ne_b106_b107)).other W113 (Or.inl ne_b106_b107)).other W116 (Or.inl ne_b106_b107)).other W119 (Or.inl ne_b106_b107)).other W122 (Or.inl ne_b106_b107)).other W125 (Or.inl ne_b106_b107)).other W128 (Or.inl ne_b106_b107))) all0)
                  have hk129 := Nat.le_trans hk128 K129q.1
                  have Cx129 := Cx128.trans (CHr.keep K129q As129 Cx128.1)
                  have K129 : Keep h0 T129.heap [] := K128.trans K129q (allS (Or.inr sz_b106) all0)
                  have B129 : Ext h0 T129.heap := own_keep_ext K129
                  refine own_go (A' := (T129.setTop (mkF m 300 #[.val (.ref r0), .val (.int p1)] [(.ref b106)]))) (fun t k => ?_) ?_
                  · show Steps p.tables e below (s₁.setTop (mkF m 245 #[.val (.ref r0), .val (.int p1)] [])) _
                    refine st106 _ ?_
                    show Steps p.tables e below (T106.setTop (mkF m 248 #[.val (.ref r0), .val (.int p1)] [(.ref b106)])) _
                    refine XS.dup X106.here hx rfl (hb hby d2_248) rfl rfl ?_
                    show Steps p.tables e below (T106.setTop (mkF m 249 #[.val (.ref r0), .val (.int p1)] [(.ref b106), (.ref b106)])) _
                    refine XS.bipush X106.here hx rfl (hb hby d2_249) ?_
                    show Steps p.tables e below (T106.setTop (mkF m 251 #[.val (.ref r0), .val (.int p1)] [(.int (7 : Int32)), (.ref b106), (.ref b106)])) _
                    refine st107 _ ?_
                    show Steps p.tables e below (T107.setTop (mkF m 253 #[.val (.ref r0), .val (.int p1)] [(.ref b107), (.ref b106), (.ref b106)])) _
                    refine XS.dup X107.here hx rfl (hb hby d2_253) rfl rfl ?_
                    show Steps p.tables e below (T107.setTop (mkF m 254 #[.val (.ref r0), .val (.int p1)] [(.ref b107), (.ref b107), (.ref b106), (.ref b106)])) _
                    refine XS.iconst X107.here hx rfl (hb hby d2_254) ?_
                    show Steps p.tables e below (T107.setTop (mkF m 255 #[.val (.ref r0), .val (.int p1)] [(.int (0 : Int32)), (.ref b107), (.ref b107), (.ref b106), (.ref b106)])) _
                    refine XS.aloadN X107.here hx rfl (hb hby d2_255) rfl rfl ?_
                    show Steps p.tables e below (T107.setTop (mkF m 256 #[.val (.ref r0), .val (.int p1)] [(.ref r0), (.int (0 : Int32)), (.ref b107), (.ref b107), (.ref b106), (.ref b106)])) _
                    refine XS.iconst X107.here hx rfl (hb hby d2_256) ?_
                    show Steps p.tables e below (T107.setTop (mkF m 257 #[.val (.ref r0), .val (.int p1)] [(.int (0 : Int32)), (.ref r0), (.int (0 : Int32)), (.ref b107), (.ref b107), (.ref b106), (.ref b106)])) _
                    refine X107.caload hx (j := (0 : Int32)) (v := (.int c0)) (by rw [e107]; exact Ar108.1) (State.isArrayOf_alike hZ.alike Ar108.2.1) Ar108.2.2 hin108 hat108 (g := (mkF m 257 #[.val (.ref r0), .val (.int p1)] [(.int (0 : Int32)), (.ref r0), (.int (0 : Int32)), (.ref b107), (.ref b107), (.ref b106), (.ref b106)])) rfl rfl (hb hby d2_257) _ ?_
                    show Steps p.tables e below (T107.setTop (mkF m 258 #[.val (.ref r0), .val (.int p1)] [(.int c0), (.int (0 : Int32)), (.ref b107), (.ref b107), (.ref b106), (.ref b106)])) _
                    refine st110 _ ?_
                    show Steps p.tables e below (T110.setTop (mkF m 259 #[.val (.ref r0), .val (.int p1)] [(.ref b107), (.ref b106), (.ref b106)])) _
                    refine XS.dup X110.here hx rfl (hb hby d2_259) rfl rfl ?_
                    show Steps p.tables e below (T110.setTop (mkF m 260 #[.val (.ref r0), .val (.int p1)] [(.ref b107), (.ref b107), (.ref b106), (.ref b106)])) _
                    refine XS.iconst X110.here hx rfl (hb hby d2_260) ?_
                    show Steps p.tables e below (T110.setTop (mkF m 261 #[.val (.ref r0), .val (.int p1)] [(.int (1 : Int32)), (.ref b107), (.ref b107), (.ref b106), (.ref b106)])) _
                    refine XS.aloadN X110.here hx rfl (hb hby d2_261) rfl rfl ?_
                    show Steps p.tables e below (T110.setTop (mkF m 262 #[.val (.ref r0), .val (.int p1)] [(.ref r0), (.int (1 : Int32)), (.ref b107), (.ref b107), (.ref b106), (.ref b106)])) _
                    refine XS.iconst X110.here hx rfl (hb hby d2_262) ?_
                    show Steps p.tables e below (T110.setTop (mkF m 263 #[.val (.ref r0), .val (.int p1)] [(.int (1 : Int32)), (.ref r0), (.int (1 : Int32)), (.ref b107), (.ref b107), (.ref b106), (.ref b106)])) _
                    refine X110.caload hx (j := (1 : Int32)) (v := (.int c1)) (by rw [e110]; exact Ar111.1) (State.isArrayOf_alike hZ.alike Ar111.2.1) Ar111.2.2 hin111 hat111 (g := (mkF m 263 #[.val (.ref r0), .val (.int p1)] [(.int (1 : Int32)), (.ref r0), (.int (1 : Int32)), (.ref b107), (.ref b107), (.ref b106), (.ref b106)])) rfl rfl (hb hby d2_263) _ ?_
                    show Steps p.tables e below (T110.setTop (mkF m 264 #[.val (.ref r0), .val (.int p1)] [(.int c1), (.int (1 : Int32)), (.ref b107), (.ref b107), (.ref b106), (.ref b106)])) _
                    refine st113 _ ?_
                    show Steps p.tables e below (T113.setTop (mkF m 265 #[.val (.ref r0), .val (.int p1)] [(.ref b107), (.ref b106), (.ref b106)])) _
                    refine XS.dup X113.here hx rfl (hb hby d2_265) rfl rfl ?_
                    show Steps p.tables e below (T113.setTop (mkF m 266 #[.val (.ref r0), .val (.int p1)] [(.ref b107), (.ref b107), (.ref b106), (.ref b106)])) _
                    refine XS.iconst X113.here hx rfl (hb hby d2_266) ?_
                    show Steps p.tables e below (T113.setTop (mkF m 267 #[.val (.ref r0), .val (.int p1)] [(.int (2 : Int32)), (.ref b107), (.ref b107), (.ref b106), (.ref b106)])) _
                    refine XS.aloadN X113.here hx rfl (hb hby d2_267) rfl rfl ?_
                    show Steps p.tables e below (T113.setTop (mkF m 268 #[.val (.ref r0), .val (.int p1)] [(.ref r0), (.int (2 : Int32)), (.ref b107), (.ref b107), (.ref b106), (.ref b106)])) _
                    refine XS.iconst X113.here hx rfl (hb hby d2_268) ?_
                    show Steps p.tables e below (T113.setTop (mkF m 269 #[.val (.ref r0), .val (.int p1)] [(.int (2 : Int32)), (.ref r0), (.int (2 : Int32)), (.ref b107), (.ref b107), (.ref b106), (.ref b106)])) _
                    refine X113.caload hx (j := (2 : Int32)) (v := (.int c2)) (by rw [e113]; exact Ar114.1) (State.isArrayOf_alike hZ.alike Ar114.2.1) Ar114.2.2 hin114 hat114 (g := (mkF m 269 #[.val (.ref r0), .val (.int p1)] [(.int (2 : Int32)), (.ref r0), (.int (2 : Int32)), (.ref b107), (.ref b107), (.ref b106), (.ref b106)])) rfl rfl (hb hby d2_269) _ ?_
                    show Steps p.tables e below (T113.setTop (mkF m 270 #[.val (.ref r0), .val (.int p1)] [(.int c2), (.int (2 : Int32)), (.ref b107), (.ref b107), (.ref b106), (.ref b106)])) _
                    refine st116 _ ?_
                    show Steps p.tables e below (T116.setTop (mkF m 271 #[.val (.ref r0), .val (.int p1)] [(.ref b107), (.ref b106), (.ref b106)])) _
                    refine XS.dup X116.here hx rfl (hb hby d2_271) rfl rfl ?_
                    show Steps p.tables e below (T116.setTop (mkF m 272 #[.val (.ref r0), .val (.int p1)] [(.ref b107), (.ref b107), (.ref b106), (.ref b106)])) _
                    refine XS.iconst X116.here hx rfl (hb hby d2_272) ?_
                    show Steps p.tables e below (T116.setTop (mkF m 273 #[.val (.ref r0), .val (.int p1)] [(.int (3 : Int32)), (.ref b107), (.ref b107), (.ref b106), (.ref b106)])) _
                    refine XS.aloadN X116.here hx rfl (hb hby d2_273) rfl rfl ?_
                    show Steps p.tables e below (T116.setTop (mkF m 274 #[.val (.ref r0), .val (.int p1)] [(.ref r0), (.int (3 : Int32)), (.ref b107), (.ref b107), (.ref b106), (.ref b106)])) _
                    refine XS.iconst X116.here hx rfl (hb hby d2_274) ?_
                    show Steps p.tables e below (T116.setTop (mkF m 275 #[.val (.ref r0), .val (.int p1)] [(.int (3 : Int32)), (.ref r0), (.int (3 : Int32)), (.ref b107), (.ref b107), (.ref b106), (.ref b106)])) _
                    refine X116.caload hx (j := (3 : Int32)) (v := (.int c3)) (by rw [e116]; exact Ar117.1) (State.isArrayOf_alike hZ.alike Ar117.2.1) Ar117.2.2 hin117 hat117 (g := (mkF m 275 #[.val (.ref r0), .val (.int p1)] [(.int (3 : Int32)), (.ref r0), (.int (3 : Int32)), (.ref b107), (.ref b107), (.ref b106), (.ref b106)])) rfl rfl (hb hby d2_275) _ ?_
                    show Steps p.tables e below (T116.setTop (mkF m 276 #[.val (.ref r0), .val (.int p1)] [(.int c3), (.int (3 : Int32)), (.ref b107), (.ref b107), (.ref b106), (.ref b106)])) _
                    refine st119 _ ?_
                    show Steps p.tables e below (T119.setTop (mkF m 277 #[.val (.ref r0), .val (.int p1)] [(.ref b107), (.ref b106), (.ref b106)])) _
                    refine XS.dup X119.here hx rfl (hb hby d2_277) rfl rfl ?_
                    show Steps p.tables e below (T119.setTop (mkF m 278 #[.val (.ref r0), .val (.int p1)] [(.ref b107), (.ref b107), (.ref b106), (.ref b106)])) _
                    refine XS.iconst X119.here hx rfl (hb hby d2_278) ?_
                    show Steps p.tables e below (T119.setTop (mkF m 279 #[.val (.ref r0), .val (.int p1)] [(.int (4 : Int32)), (.ref b107), (.ref b107), (.ref b106), (.ref b106)])) _
                    refine XS.aloadN X119.here hx rfl (hb hby d2_279) rfl rfl ?_
                    show Steps p.tables e below (T119.setTop (mkF m 280 #[.val (.ref r0), .val (.int p1)] [(.ref r0), (.int (4 : Int32)), (.ref b107), (.ref b107), (.ref b106), (.ref b106)])) _
                    refine XS.iconst X119.here hx rfl (hb hby d2_280) ?_
                    show Steps p.tables e below (T119.setTop (mkF m 281 #[.val (.ref r0), .val (.int p1)] [(.int (4 : Int32)), (.ref r0), (.int (4 : Int32)), (.ref b107), (.ref b107), (.ref b106), (.ref b106)])) _
                    refine X119.caload hx (j := (4 : Int32)) (v := (.int c4)) (by rw [e119]; exact Ar120.1) (State.isArrayOf_alike hZ.alike Ar120.2.1) Ar120.2.2 hin120 hat120 (g := (mkF m 281 #[.val (.ref r0), .val (.int p1)] [(.int (4 : Int32)), (.ref r0), (.int (4 : Int32)), (.ref b107), (.ref b107), (.ref b106), (.ref b106)])) rfl rfl (hb hby d2_281) _ ?_
                    show Steps p.tables e below (T119.setTop (mkF m 282 #[.val (.ref r0), .val (.int p1)] [(.int c4), (.int (4 : Int32)), (.ref b107), (.ref b107), (.ref b106), (.ref b106)])) _
                    refine st122 _ ?_
                    show Steps p.tables e below (T122.setTop (mkF m 283 #[.val (.ref r0), .val (.int p1)] [(.ref b107), (.ref b106), (.ref b106)])) _
                    refine XS.dup X122.here hx rfl (hb hby d2_283) rfl rfl ?_
                    show Steps p.tables e below (T122.setTop (mkF m 284 #[.val (.ref r0), .val (.int p1)] [(.ref b107), (.ref b107), (.ref b106), (.ref b106)])) _
                    refine XS.iconst X122.here hx rfl (hb hby d2_284) ?_
                    show Steps p.tables e below (T122.setTop (mkF m 285 #[.val (.ref r0), .val (.int p1)] [(.int (5 : Int32)), (.ref b107), (.ref b107), (.ref b106), (.ref b106)])) _
                    refine XS.aloadN X122.here hx rfl (hb hby d2_285) rfl rfl ?_
                    show Steps p.tables e below (T122.setTop (mkF m 286 #[.val (.ref r0), .val (.int p1)] [(.ref r0), (.int (5 : Int32)), (.ref b107), (.ref b107), (.ref b106), (.ref b106)])) _
                    refine XS.iconst X122.here hx rfl (hb hby d2_286) ?_
                    show Steps p.tables e below (T122.setTop (mkF m 287 #[.val (.ref r0), .val (.int p1)] [(.int (5 : Int32)), (.ref r0), (.int (5 : Int32)), (.ref b107), (.ref b107), (.ref b106), (.ref b106)])) _
                    refine X122.caload hx (j := (5 : Int32)) (v := (.int c5)) (by rw [e122]; exact Ar123.1) (State.isArrayOf_alike hZ.alike Ar123.2.1) Ar123.2.2 hin123 hat123 (g := (mkF m 287 #[.val (.ref r0), .val (.int p1)] [(.int (5 : Int32)), (.ref r0), (.int (5 : Int32)), (.ref b107), (.ref b107), (.ref b106), (.ref b106)])) rfl rfl (hb hby d2_287) _ ?_
                    show Steps p.tables e below (T122.setTop (mkF m 288 #[.val (.ref r0), .val (.int p1)] [(.int c5), (.int (5 : Int32)), (.ref b107), (.ref b107), (.ref b106), (.ref b106)])) _
                    refine st125 _ ?_
                    show Steps p.tables e below (T125.setTop (mkF m 289 #[.val (.ref r0), .val (.int p1)] [(.ref b107), (.ref b106), (.ref b106)])) _
                    refine XS.dup X125.here hx rfl (hb hby d2_289) rfl rfl ?_
                    show Steps p.tables e below (T125.setTop (mkF m 290 #[.val (.ref r0), .val (.int p1)] [(.ref b107), (.ref b107), (.ref b106), (.ref b106)])) _
                    refine XS.bipush X125.here hx rfl (hb hby d2_290) ?_
                    show Steps p.tables e below (T125.setTop (mkF m 292 #[.val (.ref r0), .val (.int p1)] [(.int (6 : Int32)), (.ref b107), (.ref b107), (.ref b106), (.ref b106)])) _
                    refine XS.aloadN X125.here hx rfl (hb hby d2_292) rfl rfl ?_
                    show Steps p.tables e below (T125.setTop (mkF m 293 #[.val (.ref r0), .val (.int p1)] [(.ref r0), (.int (6 : Int32)), (.ref b107), (.ref b107), (.ref b106), (.ref b106)])) _
                    refine XS.bipush X125.here hx rfl (hb hby d2_293) ?_
                    show Steps p.tables e below (T125.setTop (mkF m 295 #[.val (.ref r0), .val (.int p1)] [(.int (6 : Int32)), (.ref r0), (.int (6 : Int32)), (.ref b107), (.ref b107), (.ref b106), (.ref b106)])) _
                    refine X125.caload hx (j := (6 : Int32)) (v := (.int c6)) (by rw [e125]; exact Ar126.1) (State.isArrayOf_alike hZ.alike Ar126.2.1) Ar126.2.2 hin126 hat126 (g := (mkF m 295 #[.val (.ref r0), .val (.int p1)] [(.int (6 : Int32)), (.ref r0), (.int (6 : Int32)), (.ref b107), (.ref b107), (.ref b106), (.ref b106)])) rfl rfl (hb hby d2_295) _ ?_
                    show Steps p.tables e below (T125.setTop (mkF m 296 #[.val (.ref r0), .val (.int p1)] [(.int c6), (.int (6 : Int32)), (.ref b107), (.ref b107), (.ref b106), (.ref b106)])) _
                    refine st128 _ ?_
                    show Steps p.tables e below (T128.setTop (mkF m 297 #[.val (.ref r0), .val (.int p1)] [(.ref b107), (.ref b106), (.ref b106)])) _
                    refine st129.trans ?_
                    exact k
                  obtain ⟨fs, hr, hrun, hended, hend⟩ := X129.leaveW (v := some (.ref b106)) hS0 hk129 (fun h => by rw [Bd.returns] at h; cases h) hlk
                  refine ⟨_, _, ?_, hrun, hended, _, _, rfl, ?_, ?_, ⟨_, rfl⟩, hend.2.1, hend.2.2.1, hend.2.2.2.mono (by decide) (by decide)⟩
                  · show Steps p.tables e below (T129.setTop (mkF m 300 #[.val (.ref r0), .val (.int p1)] [(.ref b106)])) _
                    exact own_retV X129 hx Bd.returns rfl rfl (hb hby d2_300) hr
                  · show Q2 Z r0 p1 kC c0 c1 c2 c3 c4 c5 c6 c7 zCS h0 n0 _ T129.heap _
                    exact ⟨b106, [(nar .char c0), (nar .char c1), (nar .char c2), (nar .char c3), (nar .char c4), (nar .char c5), (nar .char c6)], rfl, N129, K129, E129q, C129q, (fun c hc => by
                        simp only [List.mem_cons, List.not_mem_nil, or_false] at hc
                        rcases hc with rfl | rfl | rfl | rfl | rfl | rfl | rfl
                        · exact own_rgl (own_rgr g0)
                        · exact own_rgl (own_rgr g1)
                        · exact own_rgl (own_rgr g2)
                        · exact own_rgl (own_rgr g3)
                        · exact own_rgl (own_rgr g4)
                        · exact own_rgl (own_rgr g5)
                        · exact own_rgl (own_rgr g6)), Nat.le_of_ble_eq_true rfl, _, _, V129q, A129q⟩
                  · show CHr Z consts_1 s.vm s.heap T129.vm T129.heap
                    rw [hh]
                    exact Cx129.trans (CHv.at X129 hZ hEL Cx129.1)
                · -- hc105: no
                  refine own_go (A' := (s₁.setTop (mkF m 301 #[.val (.ref r0), .val (.int p1)] []))) (fun t k => XS.icmpYes X0.here hx rfl (pc0 := 242) (pc' := 301) rfl (hb hby d2_242) rfl (feq hc105).2 (by decide) (by decide) k) ?_
                  obtain ⟨T131, h131, X131, e131, E131, A131, D131, -, st131⟩ := newO X0 hx hZ hown (hw _ (List.mem_of_getElem? (i := 8) rfl)) (hw _ (List.mem_of_getElem? (i := 9) rfl)) (hw _ (List.mem_of_getElem? (i := 10) rfl)) e0 (g := (mkF m 301 #[.val (.ref r0), .val (.int p1)] [])) rfl (hb hby d2_301) (by decide) (by decide)
                  obtain ⟨b131, g131⟩ : ∃ z, z = h0.size := ⟨_, rfl⟩
                  have sz_b131 : h0.size ≤ b131 := Nat.le_of_eq g131.symm
                  have ne_r0_b131 : r0 ≠ b131 := Nat.ne_of_lt (Nat.lt_of_lt_of_le V_r0.lt (Nat.le_of_eq g131.symm))
                  rw [← g131] at A131 D131 st131
                  have hk131 := Nat.le_trans hk0 E131.1
                  have Cx131 := Cx0.trans (CHr.ext E131 Cx0.1)
                  have K131 : Keep h0 h131 [] := (Keep.refl h0 []).ext E131
                  have B131 : Ext h0 h131 := own_keep_ext K131
                  have F131_coder : Fld Z h131 b131 "java/lang/String" "coder" "B" (.int (0 : Int32)) := D131 (Or.inr (hw _ (List.mem_of_getElem? (i := 34) rfl))) (ty := .byte) (by decide)
                  have F131_value : Fld Z h131 b131 "java/lang/String" "value" "[B" .null := D131 (Or.inr (hw _ (List.mem_of_getElem? (i := 36) rfl))) (ty := (.array .byte)) (by decide)
                  obtain ⟨T132, h132, k132, X132, e132, E132, A132, st132⟩ := newP X131 hx hZ (hw _ (List.mem_of_getElem? (i := 0) rfl)) e131 (g := (mkF m 307 #[.val (.ref r0), .val (.int p1)] [(.int (8 : Int32)), (.ref b131), (.ref b131)])) rfl (hb hby d2_307) rfl (by decide) (cap := 8) (by decide) (by decide) (by decide) (by decide)
                  obtain ⟨b132, g132⟩ : ∃ z, z = h131.size := ⟨_, rfl⟩
                  have sz_b132 : h0.size ≤ b132 := Nat.le_trans K131.1 (Nat.le_of_eq g132.symm)
                  have ne_r0_b132 : r0 ≠ b132 := Nat.ne_of_lt (Nat.lt_of_lt_of_le (V_r0.ext E131).lt (Nat.le_of_eq g132.symm))
                  have ne_b131_b132 : b131 ≠ b132 := Nat.ne_of_lt (Nat.lt_of_lt_of_le A131.lt (Nat.le_of_eq g132.symm))
                  rw [← g132] at A132 st132
                  have hk132 := Nat.le_trans hk131 E132.1
                  have Cx132 := Cx131.trans (CHr.ext E132 Cx131.1)
                  have K132 : Keep h0 h132 [] := K131.ext E132
                  have B132 : Ext h0 h132 := own_keep_ext K132
                  have V132 : Arv Z h132 b132 k132 .char (8 : Int32) [(.int (0 : Int32)), (.int (0 : Int32)), (.int (0 : Int32)), (.int (0 : Int32)), (.int (0 : Int32)), (.int (0 : Int32)), (.int (0 : Int32)), (.int (0 : Int32))] (.int (0 : Int32)) := (Arv.new A132 (by decide)).pad (pad_rep [] (.int (0 : Int32)) 8)
                  obtain ⟨cl133, Ar133, q133, S133, N133, H133, G133⟩ := id ((V_r0.ext E131).ext E132)
                  have hin133 : ¬ ((0 : Int32) < 0 ∨ cl133.slots.size ≤ ((0 : Int32)).toNatClampNeg) := inb_of S133 ⟨by decide, by decide⟩
                  have hat133 : cl133.slots[((0 : Int32)).toNatClampNeg]? = some (.int c0) := (H133 _ (Nat.lt_of_not_le fun q => hin133 (Or.inr q))).trans rfl
                  obtain ⟨cl134, Ar134, q134, S134, N134, H134, G134⟩ := id V132
                  have hin134 : ¬ ((0 : Int32) < 0 ∨ cl134.slots.size ≤ ((0 : Int32)).toNatClampNeg) := inb_of S134 ⟨by decide, by decide⟩
                  obtain ⟨T135, h135, X135, e135, W135, st135⟩ := stC X132 hx hZ e132 Ar134 (j := (0 : Int32)) hin134  (g := (mkF m 314 #[.val (.ref r0), .val (.int p1)] [(.int c0), (.int (0 : Int32)), (.ref b132), (.ref b132), (.ref b131), (.ref b131)])) rfl rfl (hb hby d2_314)
                  have Sf135 : Safe Z consts_1 s.vm h132 b132 := (own_safe_arv hZ.alike V132 (by decide))
                  have hk135 := Nat.le_trans hk132 (Keep.of_wr W135).1
                  have Cx135 := Cx132.trans (CHr.wr W135 Sf135 Cx132.1)
                  have K135 : Keep h0 h135 [] := K132.wr W135 (Or.inr sz_b132)
                  have B135 : Ext h0 h135 := own_keep_ext K135
                  have N135 := Fr.snoc X135 N0 (Nat.le_trans Z0 sz_b132)
                  have V135 : Arv Z h135 b132 k132 .char (8 : Int32) [(.int (nar .char c0)), (.int (0 : Int32)), (.int (0 : Int32)), (.int (0 : Int32)), (.int (0 : Int32)), (.int (0 : Int32)), (.int (0 : Int32)), (.int (0 : Int32))] (.int (0 : Int32)) := Arv.set Ar134 q134 S134 N134 H134 G134 (fits_nar_char _) W135 0 rfl (Nat.le_of_ble_eq_true rfl)
                  obtain ⟨cl136, Ar136, q136, S136, N136, H136, G136⟩ := id (((V_r0.ext E131).ext E132).other W135 ne_r0_b132)
                  have hin136 : ¬ ((1 : Int32) < 0 ∨ cl136.slots.size ≤ ((1 : Int32)).toNatClampNeg) := inb_of S136 ⟨by decide, by decide⟩
                  have hat136 : cl136.slots[((1 : Int32)).toNatClampNeg]? = some (.int c1) := (H136 _ (Nat.lt_of_not_le fun q => hin136 (Or.inr q))).trans rfl
                  obtain ⟨cl137, Ar137, q137, S137, N137, H137, G137⟩ := id V135
                  have hin137 : ¬ ((1 : Int32) < 0 ∨ cl137.slots.size ≤ ((1 : Int32)).toNatClampNeg) := inb_of S137 ⟨by decide, by decide⟩
                  obtain ⟨T138, h138, X138, e138, W138, st138⟩ := stC X135 hx hZ e135 Ar137 (j := (1 : Int32)) hin137  (g := (mkF m 320 #[.val (.ref r0), .val (.int p1)] [(.int c1), (.int (1 : Int32)), (.ref b132), (.ref b132), (.ref b131), (.ref b131)])) rfl rfl (hb hby d2_320)
                  have Sf138 : Safe Z consts_1 s.vm h135 b132 := (own_safe_arv hZ.alike V135 (by decide))
                  have hk138 := Nat.le_trans hk135 (Keep.of_wr W138).1
                  have Cx138 := Cx135.trans (CHr.wr W138 Sf138 Cx135.1)
                  have K138 : Keep h0 h138 [] := K135.wr W138 (Or.inr sz_b132)
                  have B138 : Ext h0 h138 := own_keep_ext K138
                  have N138 := Fr.snoc X138 N135 (Nat.le_trans Z0 sz_b132)
                  have V138 : Arv Z h138 b132 k132 .char (8 : Int32) [(.int (nar .char c0)), (.int (nar .char c1)), (.int (0 : Int32)), (.int (0 : Int32)), (.int (0 : Int32)), (.int (0 : Int32)), (.int (0 : Int32)), (.int (0 : Int32))] (.int (0 : Int32)) := Arv.set Ar137 q137 S137 N137 H137 G137 (fits_nar_char _) W138 1 rfl (Nat.le_of_ble_eq_true rfl)
                  obtain ⟨cl139, Ar139, q139, S139, N139, H139, G139⟩ := id ((((V_r0.ext E131).ext E132).other W135 ne_r0_b132).other W138 ne_r0_b132)
                  have hin139 : ¬ ((2 : Int32) < 0 ∨ cl139.slots.size ≤ ((2 : Int32)).toNatClampNeg) := inb_of S139 ⟨by decide, by decide⟩
                  have hat139 : cl139.slots[((2 : Int32)).toNatClampNeg]? = some (.int c2) := (H139 _ (Nat.lt_of_not_le fun q => hin139 (Or.inr q))).trans rfl
                  obtain ⟨cl140, Ar140, q140, S140, N140, H140, G140⟩ := id V138
                  have hin140 : ¬ ((2 : Int32) < 0 ∨ cl140.slots.size ≤ ((2 : Int32)).toNatClampNeg) := inb_of S140 ⟨by decide, by decide⟩
                  obtain ⟨T141, h141, X141, e141, W141, st141⟩ := stC X138 hx hZ e138 Ar140 (j := (2 : Int32)) hin140  (g := (mkF m 326 #[.val (.ref r0), .val (.int p1)] [(.int c2), (.int (2 : Int32)), (.ref b132), (.ref b132), (.ref b131), (.ref b131)])) rfl rfl (hb hby d2_326)
                  have Sf141 : Safe Z consts_1 s.vm h138 b132 := (own_safe_arv hZ.alike V138 (by decide))
                  have hk141 := Nat.le_trans hk138 (Keep.of_wr W141).1
                  have Cx141 := Cx138.trans (CHr.wr W141 Sf141 Cx138.1)
                  have K141 : Keep h0 h141 [] := K138.wr W141 (Or.inr sz_b132)
                  have B141 : Ext h0 h141 := own_keep_ext K141
                  have N141 := Fr.snoc X141 N138 (Nat.le_trans Z0 sz_b132)
                  have V141 : Arv Z h141 b132 k132 .char (8 : Int32) [(.int (nar .char c0)), (.int (nar .char c1)), (.int (nar .char c2)), (.int (0 : Int32)), (.int (0 : Int32)), (.int (0 : Int32)), (.int (0 : Int32)), (.int (0 : Int32))] (.int (0 : Int32)) := Arv.set Ar140 q140 S140 N140 H140 G140 (fits_nar_char _) W141 2 rfl (Nat.le_of_ble_eq_true rfl)
                  obtain ⟨cl142, Ar142, q142, S142, N142, H142, G142⟩ := id (((((V_r0.ext E131).ext E132).other W135 ne_r0_b132).other W138 ne_r0_b132).other W141 ne_r0_b132)
                  have hin142 : ¬ ((3 : Int32) < 0 ∨ cl142.slots.size ≤ ((3 : Int32)).toNatClampNeg) := inb_of S142 ⟨by decide, by decide⟩
                  have hat142 : cl142.slots[((3 : Int32)).toNatClampNeg]? = some (.int c3) := (H142 _ (Nat.lt_of_not_le fun q => hin142 (Or.inr q))).trans rfl
                  obtain ⟨cl143, Ar143, q143, S143, N143, H143, G143⟩ := id V141
                  have hin143 : ¬ ((3 : Int32) < 0 ∨ cl143.slots.size ≤ ((3 : Int32)).toNatClampNeg) := inb_of S143 ⟨by decide, by decide⟩
                  obtain ⟨T144, h144, X144, e144, W144, st144⟩ := stC X141 hx hZ e141 Ar143 (j := (3 : Int32)) hin143  (g := (mkF m 332 #[.val (.ref r0), .val (.int p1)] [(.int c3), (.int (3 : Int32)), (.ref b132), (.ref b132), (.ref b131), (.ref b131)])) rfl rfl (hb hby d2_332)
                  have Sf144 : Safe Z consts_1 s.vm h141 b132 := (own_safe_arv hZ.alike V141 (by decide))
                  have hk144 := Nat.le_trans hk141 (Keep.of_wr W144).1
                  have Cx144 := Cx141.trans (CHr.wr W144 Sf144 Cx141.1)
                  have K144 : Keep h0 h144 [] := K141.wr W144 (Or.inr sz_b132)
                  have B144 : Ext h0 h144 := own_keep_ext K144
                  have N144 := Fr.snoc X144 N141 (Nat.le_trans Z0 sz_b132)
                  have V144 : Arv Z h144 b132 k132 .char (8 : Int32) [(.int (nar .char c0)), (.int (nar .char c1)), (.int (nar .char c2)), (.int (nar .char c3)), (.int (0 : Int32)), (.int (0 : Int32)), (.int (0 : Int32)), (.int (0 : Int32))] (.int (0 : Int32)) := Arv.set Ar143 q143 S143 N143 H143 G143 (fits_nar_char _) W144 3 rfl (Nat.le_of_ble_eq_true rfl)
                  obtain ⟨cl145, Ar145, q145, S145, N145, H145, G145⟩ := id ((((((V_r0.ext E131).ext E132).other W135 ne_r0_b132).other W138 ne_r0_b132).other W141 ne_r0_b132).other W144 ne_r0_b132)
                  have hin145 : ¬ ((4 : Int32) < 0 ∨ cl145.slots.size ≤ ((4 : Int32)).toNatClampNeg) := inb_of S145 ⟨by decide, by decide⟩
                  have hat145 : cl145.slots[((4 : Int32)).toNatClampNeg]? = some (.int c4) := (H145 _ (Nat.lt_of_not_le fun q => hin145 (Or.inr q))).trans rfl
                  obtain ⟨cl146, Ar146, q146, S146, N146, H146, G146⟩ := id V144
                  have hin146 : ¬ ((4 : Int32) < 0 ∨ cl146.slots.size ≤ ((4 : Int32)).toNatClampNeg) := inb_of S146 ⟨by decide, by decide⟩
                  obtain ⟨T147, h147, X147, e147, W147, st147⟩ := stC X144 hx hZ e144 Ar146 (j := (4 : Int32)) hin146  (g := (mkF m 338 #[.val (.ref r0), .val (.int p1)] [(.int c4), (.int (4 : Int32)), (.ref b132), (.ref b132), (.ref b131), (.ref b131)])) rfl rfl (hb hby d2_338)
                  have Sf147 : Safe Z consts_1 s.vm h144 b132 := (own_safe_arv hZ.alike V144 (by decide))
                  have hk147 := Nat.le_trans hk144 (Keep.of_wr W147).1
                  have Cx147 := Cx144.trans (CHr.wr W147 Sf147 Cx144.1)
                  have K147 : Keep h0 h147 [] := K144.wr W147 (Or.inr sz_b132)
                  have B147 : Ext h0 h147 := own_keep_ext K147
                  have N147 := Fr.snoc X147 N144 (Nat.le_trans Z0 sz_b132)
                  have V147 : Arv Z h147 b132 k132 .char (8 : Int32) [(.int (nar .char c0)), (.int (nar .char c1)), (.int (nar .char c2)), (.int (nar .char c3)), (.int (nar .char c4)), (.int (0 : Int32)), (.int (0 : Int32)), (.int (0 : Int32))] (.int (0 : Int32)) := Arv.set Ar146 q146 S146 N146 H146 G146 (fits_nar_char _) W147 4 rfl (Nat.le_of_ble_eq_true rfl)
                  obtain ⟨cl148, Ar148, q148, S148, N148, H148, G148⟩ := id (((((((V_r0.ext E131).ext E132).other W135 ne_r0_b132).other W138 ne_r0_b132).other W141 ne_r0_b132).other W144 ne_r0_b132).other W147 ne_r0_b132)
                  have hin148 : ¬ ((5 : Int32) < 0 ∨ cl148.slots.size ≤ ((5 : Int32)).toNatClampNeg) := inb_of S148 ⟨by decide, by decide⟩
                  have hat148 : cl148.slots[((5 : Int32)).toNatClampNeg]? = some (.int c5) := (H148 _ (Nat.lt_of_not_le fun q => hin148 (Or.inr q))).trans rfl
                  obtain ⟨cl149, Ar149, q149, S149, N149, H149, G149⟩ := id V147
                  have hin149 : ¬ ((5 : Int32) < 0 ∨ cl149.slots.size ≤ ((5 : Int32)).toNatClampNeg) := inb_of S149 ⟨by decide, by decide⟩
                  obtain ⟨T150, h150, X150, e150, W150, st150⟩ := stC X147 hx hZ e147 Ar149 (j := (5 : Int32)) hin149  (g := (mkF m 344 #[.val (.ref r0), .val (.int p1)] [(.int c5), (.int (5 : Int32)), (.ref b132), (.ref b132), (.ref b131), (.ref b131)])) rfl rfl (hb hby d2_344)
                  have Sf150 : Safe Z consts_1 s.vm h147 b132 := (own_safe_arv hZ.alike V147 (by decide))
                  have hk150 := Nat.le_trans hk147 (Keep.of_wr W150).1
                  have Cx150 := Cx147.trans (CHr.wr W150 Sf150 Cx147.1)
                  have K150 : Keep h0 h150 [] := K147.wr W150 (Or.inr sz_b132)
                  have B150 : Ext h0 h150 := own_keep_ext K150
                  have N150 := Fr.snoc X150 N147 (Nat.le_trans Z0 sz_b132)
                  have V150 : Arv Z h150 b132 k132 .char (8 : Int32) [(.int (nar .char c0)), (.int (nar .char c1)), (.int (nar .char c2)), (.int (nar .char c3)), (.int (nar .char c4)), (.int (nar .char c5)), (.int (0 : Int32)), (.int (0 : Int32))] (.int (0 : Int32)) := Arv.set Ar149 q149 S149 N149 H149 G149 (fits_nar_char _) W150 5 rfl (Nat.le_of_ble_eq_true rfl)
                  obtain ⟨cl151, Ar151, q151, S151, N151, H151, G151⟩ := id ((((((((V_r0.ext E131).ext E132).other W135 ne_r0_b132).other W138 ne_r0_b132).other W141 ne_r0_b132).other W144 ne_r0_b132).other W147 ne_r0_b132).other W150 ne_r0_b132)
                  have hin151 : ¬ ((6 : Int32) < 0 ∨ cl151.slots.size ≤ ((6 : Int32)).toNatClampNeg) := inb_of S151 ⟨by decide, by decide⟩
                  have hat151 : cl151.slots[((6 : Int32)).toNatClampNeg]? = some (.int c6) := (H151 _ (Nat.lt_of_not_le fun q => hin151 (Or.inr q))).trans rfl
                  obtain ⟨cl152, Ar152, q152, S152, N152, H152, G152⟩ := id V150
                  have hin152 : ¬ ((6 : Int32) < 0 ∨ cl152.slots.size ≤ ((6 : Int32)).toNatClampNeg) := inb_of S152 ⟨by decide, by decide⟩
                  obtain ⟨T153, h153, X153, e153, W153, st153⟩ := stC X150 hx hZ e150 Ar152 (j := (6 : Int32)) hin152  (g := (mkF m 352 #[.val (.ref r0), .val (.int p1)] [(.int c6), (.int (6 : Int32)), (.ref b132), (.ref b132), (.ref b131), (.ref b131)])) rfl rfl (hb hby d2_352)
                  have Sf153 : Safe Z consts_1 s.vm h150 b132 := (own_safe_arv hZ.alike V150 (by decide))
                  have hk153 := Nat.le_trans hk150 (Keep.of_wr W153).1
                  have Cx153 := Cx150.trans (CHr.wr W153 Sf153 Cx150.1)
                  have K153 : Keep h0 h153 [] := K150.wr W153 (Or.inr sz_b132)
                  have B153 : Ext h0 h153 := own_keep_ext K153
                  have N153 := Fr.snoc X153 N150 (Nat.le_trans Z0 sz_b132)
                  have V153 : Arv Z h153 b132 k132 .char (8 : Int32) [(.int (nar .char c0)), (.int (nar .char c1)), (.int (nar .char c2)), (.int (nar .char c3)), (.int (nar .char c4)), (.int (nar .char c5)), (.int (nar .char c6)), (.int (0 : Int32))] (.int (0 : Int32)) := Arv.set Ar152 q152 S152 N152 H152 G152 (fits_nar_char _) W153 6 rfl (Nat.le_of_ble_eq_true rfl)
                  obtain ⟨cl154, Ar154, q154, S154, N154, H154, G154⟩ := id (((((((((V_r0.ext E131).ext E132).other W135 ne_r0_b132).other W138 ne_r0_b132).other W141 ne_r0_b132).other W144 ne_r0_b132).other W147 ne_r0_b132).other W150 ne_r0_b132).other W153 ne_r0_b132)
                  have hin154 : ¬ ((7 : Int32) < 0 ∨ cl154.slots.size ≤ ((7 : Int32)).toNatClampNeg) := inb_of S154 ⟨by decide, by decide⟩
                  have hat154 : cl154.slots[((7 : Int32)).toNatClampNeg]? = some (.int c7) := (H154 _ (Nat.lt_of_not_le fun q => hin154 (Or.inr q))).trans rfl
                  obtain ⟨cl155, Ar155, q155, S155, N155, H155, G155⟩ := id V153
                  have hin155 : ¬ ((7 : Int32) < 0 ∨ cl155.slots.size ≤ ((7 : Int32)).toNatClampNeg) := inb_of S155 ⟨by decide, by decide⟩
                  obtain ⟨T156, h156, X156, e156, W156, st156⟩ := stC X153 hx hZ e153 Ar155 (j := (7 : Int32)) hin155  (g := (mkF m 360 #[.val (.ref r0), .val (.int p1)] [(.int c7), (.int (7 : Int32)), (.ref b132), (.ref b132), (.ref b131), (.ref b131)])) rfl rfl (hb hby d2_360)
                  have Sf156 : Safe Z consts_1 s.vm h153 b132 := (own_safe_arv hZ.alike V153 (by decide))
                  have hk156 := Nat.le_trans hk153 (Keep.of_wr W156).1
                  have Cx156 := Cx153.trans (CHr.wr W156 Sf156 Cx153.1)
                  have K156 : Keep h0 h156 [] := K153.wr W156 (Or.inr sz_b132)
                  have B156 : Ext h0 h156 := own_keep_ext K156
                  have N156 := Fr.snoc X156 N153 (Nat.le_trans Z0 sz_b132)
                  have V156 : Arv Z h156 b132 k132 .char (8 : Int32) [(.int (nar .char c0)), (.int (nar .char c1)), (.int (nar .char c2)), (.int (nar .char c3)), (.int (nar .char c4)), (.int (nar .char c5)), (.int (nar .char c6)), (.int (nar .char c7))] (.int (0 : Int32)) := Arv.set Ar155 q155 S155 N155 H155 G155 (fits_nar_char _) W156 7 rfl (Nat.le_of_ble_eq_true rfl)
                  have hws158 : ∀ d ∈ StrChars.Road.words, d.before a0 Z = true := fun d hd => hw d ((by decide +kernel : ∀ d ∈ StrChars.Road.words, d ∈ tables_1) d hd)
                  have hlat158 : ∀ c ∈ ([(nar .char c0), (nar .char c1), (nar .char c2), (nar .char c3), (nar .char c4), (nar .char c5), (nar .char c6), (nar .char c7)] : List Int32), ¬ c < 0 ∧ ¬ (255 : Int32) < c := by
                    intro c hc
                    simp only [List.mem_cons, List.not_mem_nil, or_false] at hc
                    rcases hc with rfl | rfl | rfl | rfl | rfl | rfl | rfl | rfl
                    · exact own_rgl (own_rgr g0)
                    · exact own_rgl (own_rgr g1)
                    · exact own_rgl (own_rgr g2)
                    · exact own_rgl (own_rgr g3)
                    · exact own_rgl (own_rgr g4)
                    · exact own_rgl (own_rgr g5)
                    · exact own_rgl (own_rgr g6)
                    · exact own_rgl (own_rgr g7)
                  obtain ⟨_, _, ⟨T157, L157, k157, n157⟩, -, X157, ⟨Lc157, hQ157, l157, y157, z157⟩, st157⟩ := X156.specialBack hx (y := (⟨"java/lang/String", "<init>", "([C)V"⟩ : MethodName)) rfl hown (mvT hZ (hw _ (List.mem_of_getElem? (i := 11) rfl))) (mvT hZ (hw _ (List.mem_of_getElem? (i := 12) rfl))) (mvT hZ (hw _ (List.mem_of_getElem? (i := 13) rfl))) (by decide) (StrChars.Road.backV (W := 1) hZ hws158 (kI := 4) (hw _ (List.mem_of_getElem? (i := 9) rfl)) (cs := [(nar .char c0), (nar .char c1), (nar .char c2), (nar .char c3), (nar .char c4), (nar .char c5), (nar .char c6), (nar .char c7)]) (bs := [((nar .char c0)).toInt8.toInt32, ((nar .char c1)).toInt8.toInt32, ((nar .char c2)).toInt8.toInt32, ((nar .char c3)).toInt8.toInt32, ((nar .char c4)).toInt8.toInt32, ((nar .char c5)).toInt8.toInt32, ((nar .char c6)).toInt8.toInt32, ((nar .char c7)).toInt8.toInt32]) (n := 8) (Nat.le_trans Z0 sz_b131) (Nat.le_trans Z0 K156.1) (((((((((A131.ext E132).wr W135).wr W138).wr W141).wr W144).wr W147).wr W150).wr W153).wr W156) (((((((((F131_value.ext E132).other W135 (Or.inl ne_b131_b132)).other W138 (Or.inl ne_b131_b132)).other W141 (Or.inl ne_b131_b132)).other W144 (Or.inl ne_b131_b132)).other W147 (Or.inl ne_b131_b132)).other W150 (Or.inl ne_b131_b132)).other W153 (Or.inl ne_b131_b132)).other W156 (Or.inl ne_b131_b132)) (((((((((F131_coder.ext E132).other W135 (Or.inl ne_b131_b132)).other W138 (Or.inl ne_b131_b132)).other W141 (Or.inl ne_b131_b132)).other W144 (Or.inl ne_b131_b132)).other W147 (Or.inl ne_b131_b132)).other W150 (Or.inl ne_b131_b132)).other W153 (Or.inl ne_b131_b132)).other W156 (Or.inl ne_b131_b132)) V156 (S_CS.ext B156) hCS rfl rfl (by decide) (by decide) hlat158 rfl (by decide) (by decide)) (g := (mkF m 361 #[.val (.ref r0), .val (.int p1)] [(.ref b132), (.ref b131), (.ref b131)])) rfl (by rw [hml]; rfl) (Steps.refl _) (a := b131) (argsL := [(.ref b132)]) (rest := [(.ref b131)]) (lenOf pd_1 rfl) rfl (by show 2 * 0 + _ ≤ _; exact Nat.le_of_eq rfl) (hb hby d2_361) (fun _ _ => ⟨rfl, e156, (by decide : 2 + 1 ≤ _), (by decide : 12 + 8 ≤ _)⟩)
                  dsimp only [Pt.U, Pt.locs, Pt.cells, Pt.slots] at X157 l157 y157 z157 st157 hQ157
                  subst l157 y157 z157
                  obtain ⟨rfl, N157q, K157q, E157q, C157q, t157, kb157, ht157a, ht157b, ht157c, V157q, A157q⟩ := hQ157
                  have N157 := Fr.app N156 N157q
                  have As157 : ∀ x ∈ ([b131] : List Addr), Safe Z consts_1 s.vm h156 x := (allS (own_safe_null hZ.alike (((((((((A131.ext E132).wr W135).wr W138).wr W141).wr W144).wr W147).wr W150).wr W153).wr W156) (((((((((F131_value.ext E132).other W135 (Or.inl ne_b131_b132)).other W138 (Or.inl ne_b131_b132)).other W141 (Or.inl ne_b131_b132)).other W144 (Or.inl ne_b131_b132)).other W147 (Or.inl ne_b131_b132)).other W150 (Or.inl ne_b131_b132)).other W153 (Or.inl ne_b131_b132)).other W156 (Or.inl ne_b131_b132))) all0)
                  have hk157 := Nat.le_trans hk156 K157q.1
                  have Cx157 := Cx156.trans (CHr.keep K157q As157 Cx156.1)
                  have K157 : Keep h0 T157.heap [] := K156.trans K157q (allS (Or.inr sz_b131) all0)
                  have B157 : Ext h0 T157.heap := own_keep_ext K157
                  refine own_go (A' := (T157.setTop (mkF m 364 #[.val (.ref r0), .val (.int p1)] [(.ref b131)]))) (fun t k => ?_) ?_
                  · show Steps p.tables e below (s₁.setTop (mkF m 301 #[.val (.ref r0), .val (.int p1)] [])) _
                    refine st131 _ ?_
                    show Steps p.tables e below (T131.setTop (mkF m 304 #[.val (.ref r0), .val (.int p1)] [(.ref b131)])) _
                    refine XS.dup X131.here hx rfl (hb hby d2_304) rfl rfl ?_
                    show Steps p.tables e below (T131.setTop (mkF m 305 #[.val (.ref r0), .val (.int p1)] [(.ref b131), (.ref b131)])) _
                    refine XS.bipush X131.here hx rfl (hb hby d2_305) ?_
                    show Steps p.tables e below (T131.setTop (mkF m 307 #[.val (.ref r0), .val (.int p1)] [(.int (8 : Int32)), (.ref b131), (.ref b131)])) _
                    refine st132 _ ?_
                    show Steps p.tables e below (T132.setTop (mkF m 309 #[.val (.ref r0), .val (.int p1)] [(.ref b132), (.ref b131), (.ref b131)])) _
                    refine XS.dup X132.here hx rfl (hb hby d2_309) rfl rfl ?_
                    show Steps p.tables e below (T132.setTop (mkF m 310 #[.val (.ref r0), .val (.int p1)] [(.ref b132), (.ref b132), (.ref b131), (.ref b131)])) _
                    refine XS.iconst X132.here hx rfl (hb hby d2_310) ?_
                    show Steps p.tables e below (T132.setTop (mkF m 311 #[.val (.ref r0), .val (.int p1)] [(.int (0 : Int32)), (.ref b132), (.ref b132), (.ref b131), (.ref b131)])) _
                    refine XS.aloadN X132.here hx rfl (hb hby d2_311) rfl rfl ?_
                    show Steps p.tables e below (T132.setTop (mkF m 312 #[.val (.ref r0), .val (.int p1)] [(.ref r0), (.int (0 : Int32)), (.ref b132), (.ref b132), (.ref b131), (.ref b131)])) _
                    refine XS.iconst X132.here hx rfl (hb hby d2_312) ?_
                    show Steps p.tables e below (T132.setTop (mkF m 313 #[.val (.ref r0), .val (.int p1)] [(.int (0 : Int32)), (.ref r0), (.int (0 : Int32)), (.ref b132), (.ref b132), (.ref b131), (.ref b131)])) _
                    refine X132.caload hx (j := (0 : Int32)) (v := (.int c0)) (by rw [e132]; exact Ar133.1) (State.isArrayOf_alike hZ.alike Ar133.2.1) Ar133.2.2 hin133 hat133 (g := (mkF m 313 #[.val (.ref r0), .val (.int p1)] [(.int (0 : Int32)), (.ref r0), (.int (0 : Int32)), (.ref b132), (.ref b132), (.ref b131), (.ref b131)])) rfl rfl (hb hby d2_313) _ ?_
                    show Steps p.tables e below (T132.setTop (mkF m 314 #[.val (.ref r0), .val (.int p1)] [(.int c0), (.int (0 : Int32)), (.ref b132), (.ref b132), (.ref b131), (.ref b131)])) _
                    refine st135 _ ?_
                    show Steps p.tables e below (T135.setTop (mkF m 315 #[.val (.ref r0), .val (.int p1)] [(.ref b132), (.ref b131), (.ref b131)])) _
                    refine XS.dup X135.here hx rfl (hb hby d2_315) rfl rfl ?_
                    show Steps p.tables e below (T135.setTop (mkF m 316 #[.val (.ref r0), .val (.int p1)] [(.ref b132), (.ref b132), (.ref b131), (.ref b131)])) _
                    refine XS.iconst X135.here hx rfl (hb hby d2_316) ?_
                    show Steps p.tables e below (T135.setTop (mkF m 317 #[.val (.ref r0), .val (.int p1)] [(.int (1 : Int32)), (.ref b132), (.ref b132), (.ref b131), (.ref b131)])) _
                    refine XS.aloadN X135.here hx rfl (hb hby d2_317) rfl rfl ?_
                    show Steps p.tables e below (T135.setTop (mkF m 318 #[.val (.ref r0), .val (.int p1)] [(.ref r0), (.int (1 : Int32)), (.ref b132), (.ref b132), (.ref b131), (.ref b131)])) _
                    refine XS.iconst X135.here hx rfl (hb hby d2_318) ?_
                    show Steps p.tables e below (T135.setTop (mkF m 319 #[.val (.ref r0), .val (.int p1)] [(.int (1 : Int32)), (.ref r0), (.int (1 : Int32)), (.ref b132), (.ref b132), (.ref b131), (.ref b131)])) _
                    refine X135.caload hx (j := (1 : Int32)) (v := (.int c1)) (by rw [e135]; exact Ar136.1) (State.isArrayOf_alike hZ.alike Ar136.2.1) Ar136.2.2 hin136 hat136 (g := (mkF m 319 #[.val (.ref r0), .val (.int p1)] [(.int (1 : Int32)), (.ref r0), (.int (1 : Int32)), (.ref b132), (.ref b132), (.ref b131), (.ref b131)])) rfl rfl (hb hby d2_319) _ ?_
                    show Steps p.tables e below (T135.setTop (mkF m 320 #[.val (.ref r0), .val (.int p1)] [(.int c1), (.int (1 : Int32)), (.ref b132), (.ref b132), (.ref b131), (.ref b131)])) _
                    refine st138 _ ?_
                    show Steps p.tables e below (T138.setTop (mkF m 321 #[.val (.ref r0), .val (.int p1)] [(.ref b132), (.ref b131), (.ref b131)])) _
                    refine XS.dup X138.here hx rfl (hb hby d2_321) rfl rfl ?_
                    show Steps p.tables e below (T138.setTop (mkF m 322 #[.val (.ref r0), .val (.int p1)] [(.ref b132), (.ref b132), (.ref b131), (.ref b131)])) _
                    refine XS.iconst X138.here hx rfl (hb hby d2_322) ?_
                    show Steps p.tables e below (T138.setTop (mkF m 323 #[.val (.ref r0), .val (.int p1)] [(.int (2 : Int32)), (.ref b132), (.ref b132), (.ref b131), (.ref b131)])) _
                    refine XS.aloadN X138.here hx rfl (hb hby d2_323) rfl rfl ?_
                    show Steps p.tables e below (T138.setTop (mkF m 324 #[.val (.ref r0), .val (.int p1)] [(.ref r0), (.int (2 : Int32)), (.ref b132), (.ref b132), (.ref b131), (.ref b131)])) _
                    refine XS.iconst X138.here hx rfl (hb hby d2_324) ?_
                    show Steps p.tables e below (T138.setTop (mkF m 325 #[.val (.ref r0), .val (.int p1)] [(.int (2 : Int32)), (.ref r0), (.int (2 : Int32)), (.ref b132), (.ref b132), (.ref b131), (.ref b131)])) _
                    refine X138.caload hx (j := (2 : Int32)) (v := (.int c2)) (by rw [e138]; exact Ar139.1) (State.isArrayOf_alike hZ.alike Ar139.2.1) Ar139.2.2 hin139 hat139 (g := (mkF m 325 #[.val (.ref r0), .val (.int p1)] [(.int (2 : Int32)), (.ref r0), (.int (2 : Int32)), (.ref b132), (.ref b132), (.ref b131), (.ref b131)])) rfl rfl (hb hby d2_325) _ ?_
                    show Steps p.tables e below (T138.setTop (mkF m 326 #[.val (.ref r0), .val (.int p1)] [(.int c2), (.int (2 : Int32)), (.ref b132), (.ref b132), (.ref b131), (.ref b131)])) _
                    refine st141 _ ?_
                    show Steps p.tables e below (T141.setTop (mkF m 327 #[.val (.ref r0), .val (.int p1)] [(.ref b132), (.ref b131), (.ref b131)])) _
                    refine XS.dup X141.here hx rfl (hb hby d2_327) rfl rfl ?_
                    show Steps p.tables e below (T141.setTop (mkF m 328 #[.val (.ref r0), .val (.int p1)] [(.ref b132), (.ref b132), (.ref b131), (.ref b131)])) _
                    refine XS.iconst X141.here hx rfl (hb hby d2_328) ?_
                    show Steps p.tables e below (T141.setTop (mkF m 329 #[.val (.ref r0), .val (.int p1)] [(.int (3 : Int32)), (.ref b132), (.ref b132), (.ref b131), (.ref b131)])) _
                    refine XS.aloadN X141.here hx rfl (hb hby d2_329) rfl rfl ?_
                    show Steps p.tables e below (T141.setTop (mkF m 330 #[.val (.ref r0), .val (.int p1)] [(.ref r0), (.int (3 : Int32)), (.ref b132), (.ref b132), (.ref b131), (.ref b131)])) _
                    refine XS.iconst X141.here hx rfl (hb hby d2_330) ?_
                    show Steps p.tables e below (T141.setTop (mkF m 331 #[.val (.ref r0), .val (.int p1)] [(.int (3 : Int32)), (.ref r0), (.int (3 : Int32)), (.ref b132), (.ref b132), (.ref b131), (.ref b131)])) _
                    refine X141.caload hx (j := (3 : Int32)) (v := (.int c3)) (by rw [e141]; exact Ar142.1) (State.isArrayOf_alike hZ.alike Ar142.2.1) Ar142.2.2 hin142 hat142 (g := (mkF m 331 #[.val (.ref r0), .val (.int p1)] [(.int (3 : Int32)), (.ref r0), (.int (3 : Int32)), (.ref b132), (.ref b132), (.ref b131), (.ref b131)])) rfl rfl (hb hby d2_331) _ ?_
                    show Steps p.tables e below (T141.setTop (mkF m 332 #[.val (.ref r0), .val (.int p1)] [(.int c3), (.int (3 : Int32)), (.ref b132), (.ref b132), (.ref b131), (.ref b131)])) _
                    refine st144 _ ?_
                    show Steps p.tables e below (T144.setTop (mkF m 333 #[.val (.ref r0), .val (.int p1)] [(.ref b132), (.ref b131), (.ref b131)])) _
                    refine XS.dup X144.here hx rfl (hb hby d2_333) rfl rfl ?_
                    show Steps p.tables e below (T144.setTop (mkF m 334 #[.val (.ref r0), .val (.int p1)] [(.ref b132), (.ref b132), (.ref b131), (.ref b131)])) _
                    refine XS.iconst X144.here hx rfl (hb hby d2_334) ?_
                    show Steps p.tables e below (T144.setTop (mkF m 335 #[.val (.ref r0), .val (.int p1)] [(.int (4 : Int32)), (.ref b132), (.ref b132), (.ref b131), (.ref b131)])) _
                    refine XS.aloadN X144.here hx rfl (hb hby d2_335) rfl rfl ?_
                    show Steps p.tables e below (T144.setTop (mkF m 336 #[.val (.ref r0), .val (.int p1)] [(.ref r0), (.int (4 : Int32)), (.ref b132), (.ref b132), (.ref b131), (.ref b131)])) _
                    refine XS.iconst X144.here hx rfl (hb hby d2_336) ?_
                    show Steps p.tables e below (T144.setTop (mkF m 337 #[.val (.ref r0), .val (.int p1)] [(.int (4 : Int32)), (.ref r0), (.int (4 : Int32)), (.ref b132), (.ref b132), (.ref b131), (.ref b131)])) _
                    refine X144.caload hx (j := (4 : Int32)) (v := (.int c4)) (by rw [e144]; exact Ar145.1) (State.isArrayOf_alike hZ.alike Ar145.2.1) Ar145.2.2 hin145 hat145 (g := (mkF m 337 #[.val (.ref r0), .val (.int p1)] [(.int (4 : Int32)), (.ref r0), (.int (4 : Int32)), (.ref b132), (.ref b132), (.ref b131), (.ref b131)])) rfl rfl (hb hby d2_337) _ ?_
                    show Steps p.tables e below (T144.setTop (mkF m 338 #[.val (.ref r0), .val (.int p1)] [(.int c4), (.int (4 : Int32)), (.ref b132), (.ref b132), (.ref b131), (.ref b131)])) _
                    refine st147 _ ?_
                    show Steps p.tables e below (T147.setTop (mkF m 339 #[.val (.ref r0), .val (.int p1)] [(.ref b132), (.ref b131), (.ref b131)])) _
                    refine XS.dup X147.here hx rfl (hb hby d2_339) rfl rfl ?_
                    show Steps p.tables e below (T147.setTop (mkF m 340 #[.val (.ref r0), .val (.int p1)] [(.ref b132), (.ref b132), (.ref b131), (.ref b131)])) _
                    refine XS.iconst X147.here hx rfl (hb hby d2_340) ?_
                    show Steps p.tables e below (T147.setTop (mkF m 341 #[.val (.ref r0), .val (.int p1)] [(.int (5 : Int32)), (.ref b132), (.ref b132), (.ref b131), (.ref b131)])) _
                    refine XS.aloadN X147.here hx rfl (hb hby d2_341) rfl rfl ?_
                    show Steps p.tables e below (T147.setTop (mkF m 342 #[.val (.ref r0), .val (.int p1)] [(.ref r0), (.int (5 : Int32)), (.ref b132), (.ref b132), (.ref b131), (.ref b131)])) _
                    refine XS.iconst X147.here hx rfl (hb hby d2_342) ?_
                    show Steps p.tables e below (T147.setTop (mkF m 343 #[.val (.ref r0), .val (.int p1)] [(.int (5 : Int32)), (.ref r0), (.int (5 : Int32)), (.ref b132), (.ref b132), (.ref b131), (.ref b131)])) _
                    refine X147.caload hx (j := (5 : Int32)) (v := (.int c5)) (by rw [e147]; exact Ar148.1) (State.isArrayOf_alike hZ.alike Ar148.2.1) Ar148.2.2 hin148 hat148 (g := (mkF m 343 #[.val (.ref r0), .val (.int p1)] [(.int (5 : Int32)), (.ref r0), (.int (5 : Int32)), (.ref b132), (.ref b132), (.ref b131), (.ref b131)])) rfl rfl (hb hby d2_343) _ ?_
                    show Steps p.tables e below (T147.setTop (mkF m 344 #[.val (.ref r0), .val (.int p1)] [(.int c5), (.int (5 : Int32)), (.ref b132), (.ref b132), (.ref b131), (.ref b131)])) _
                    refine st150 _ ?_
                    show Steps p.tables e below (T150.setTop (mkF m 345 #[.val (.ref r0), .val (.int p1)] [(.ref b132), (.ref b131), (.ref b131)])) _
                    refine XS.dup X150.here hx rfl (hb hby d2_345) rfl rfl ?_
                    show Steps p.tables e below (T150.setTop (mkF m 346 #[.val (.ref r0), .val (.int p1)] [(.ref b132), (.ref b132), (.ref b131), (.ref b131)])) _
                    refine XS.bipush X150.here hx rfl (hb hby d2_346) ?_
                    show Steps p.tables e below (T150.setTop (mkF m 348 #[.val (.ref r0), .val (.int p1)] [(.int (6 : Int32)), (.ref b132), (.ref b132), (.ref b131), (.ref b131)])) _
                    refine XS.aloadN X150.here hx rfl (hb hby d2_348) rfl rfl ?_
                    show Steps p.tables e below (T150.setTop (mkF m 349 #[.val (.ref r0), .val (.int p1)] [(.ref r0), (.int (6 : Int32)), (.ref b132), (.ref b132), (.ref b131), (.ref b131)])) _
                    refine XS.bipush X150.here hx rfl (hb hby d2_349) ?_
                    show Steps p.tables e below (T150.setTop (mkF m 351 #[.val (.ref r0), .val (.int p1)] [(.int (6 : Int32)), (.ref r0), (.int (6 : Int32)), (.ref b132), (.ref b132), (.ref b131), (.ref b131)])) _
                    refine X150.caload hx (j := (6 : Int32)) (v := (.int c6)) (by rw [e150]; exact Ar151.1) (State.isArrayOf_alike hZ.alike Ar151.2.1) Ar151.2.2 hin151 hat151 (g := (mkF m 351 #[.val (.ref r0), .val (.int p1)] [(.int (6 : Int32)), (.ref r0), (.int (6 : Int32)), (.ref b132), (.ref b132), (.ref b131), (.ref b131)])) rfl rfl (hb hby d2_351) _ ?_
                    show Steps p.tables e below (T150.setTop (mkF m 352 #[.val (.ref r0), .val (.int p1)] [(.int c6), (.int (6 : Int32)), (.ref b132), (.ref b132), (.ref b131), (.ref b131)])) _
                    refine st153 _ ?_
                    show Steps p.tables e below (T153.setTop (mkF m 353 #[.val (.ref r0), .val (.int p1)] [(.ref b132), (.ref b131), (.ref b131)])) _
                    refine XS.dup X153.here hx rfl (hb hby d2_353) rfl rfl ?_
                    show Steps p.tables e below (T153.setTop (mkF m 354 #[.val (.ref r0), .val (.int p1)] [(.ref b132), (.ref b132), (.ref b131), (.ref b131)])) _
                    refine XS.bipush X153.here hx rfl (hb hby d2_354) ?_
                    show Steps p.tables e below (T153.setTop (mkF m 356 #[.val (.ref r0), .val (.int p1)] [(.int (7 : Int32)), (.ref b132), (.ref b132), (.ref b131), (.ref b131)])) _
                    refine XS.aloadN X153.here hx rfl (hb hby d2_356) rfl rfl ?_
                    show Steps p.tables e below (T153.setTop (mkF m 357 #[.val (.ref r0), .val (.int p1)] [(.ref r0), (.int (7 : Int32)), (.ref b132), (.ref b132), (.ref b131), (.ref b131)])) _
                    refine XS.bipush X153.here hx rfl (hb hby d2_357) ?_
                    show Steps p.tables e below (T153.setTop (mkF m 359 #[.val (.ref r0), .val (.int p1)] [(.int (7 : Int32)), (.ref r0), (.int (7 : Int32)), (.ref b132), (.ref b132), (.ref b131), (.ref b131)])) _
                    refine X153.caload hx (j := (7 : Int32)) (v := (.int c7)) (by rw [e153]; exact Ar154.1) (State.isArrayOf_alike hZ.alike Ar154.2.1) Ar154.2.2 hin154 hat154 (g := (mkF m 359 #[.val (.ref r0), .val (.int p1)] [(.int (7 : Int32)), (.ref r0), (.int (7 : Int32)), (.ref b132), (.ref b132), (.ref b131), (.ref b131)])) rfl rfl (hb hby d2_359) _ ?_
                    show Steps p.tables e below (T153.setTop (mkF m 360 #[.val (.ref r0), .val (.int p1)] [(.int c7), (.int (7 : Int32)), (.ref b132), (.ref b132), (.ref b131), (.ref b131)])) _
                    refine st156 _ ?_
                    show Steps p.tables e below (T156.setTop (mkF m 361 #[.val (.ref r0), .val (.int p1)] [(.ref b132), (.ref b131), (.ref b131)])) _
                    refine st157.trans ?_
                    exact k
                  obtain ⟨fs, hr, hrun, hended, hend⟩ := X157.leaveW (v := some (.ref b131)) hS0 hk157 (fun h => by rw [Bd.returns] at h; cases h) hlk
                  refine ⟨_, _, ?_, hrun, hended, _, _, rfl, ?_, ?_, ⟨_, rfl⟩, hend.2.1, hend.2.2.1, hend.2.2.2.mono (by decide) (by decide)⟩
                  · show Steps p.tables e below (T157.setTop (mkF m 364 #[.val (.ref r0), .val (.int p1)] [(.ref b131)])) _
                    exact own_retV X157 hx Bd.returns rfl rfl (hb hby d2_364) hr
                  · show Q2 Z r0 p1 kC c0 c1 c2 c3 c4 c5 c6 c7 zCS h0 n0 _ T157.heap _
                    exact ⟨b131, [(nar .char c0), (nar .char c1), (nar .char c2), (nar .char c3), (nar .char c4), (nar .char c5), (nar .char c6), (nar .char c7)], rfl, N157, K157, E157q, C157q, (fun c hc => by
                        simp only [List.mem_cons, List.not_mem_nil, or_false] at hc
                        rcases hc with rfl | rfl | rfl | rfl | rfl | rfl | rfl | rfl
                        · exact own_rgl (own_rgr g0)
                        · exact own_rgl (own_rgr g1)
                        · exact own_rgl (own_rgr g2)
                        · exact own_rgl (own_rgr g3)
                        · exact own_rgl (own_rgr g4)
                        · exact own_rgl (own_rgr g5)
                        · exact own_rgl (own_rgr g6)
                        · exact own_rgl (own_rgr g7)), Nat.le_of_ble_eq_true rfl, _, _, V157q, A157q⟩
                  · show CHr Z consts_1 s.vm s.heap T157.vm T157.heap
                    rw [hh]
                    exact Cx157.trans (CHv.at X157 hZ hEL Cx157.1)
  · -- hc11: no
    refine own_go (A' := (s₁.setTop (mkF m 4 #[.val (.ref r0), .val (.int p1)] []))) (fun t k => XS.ifNo X0.here hx rfl (hb hby d2_1) rfl ((if0 _ _).trans (flt hc11).2.2.1) k) ?_
    obtain ⟨T159, h159, X159, e159, E159, A159, D159, -, st159⟩ := newO X0 hx hZ hown (hw _ (List.mem_of_getElem? (i := 8) rfl)) (hw _ (List.mem_of_getElem? (i := 9) rfl)) (hw _ (List.mem_of_getElem? (i := 10) rfl)) e0 (g := (mkF m 4 #[.val (.ref r0), .val (.int p1)] [])) rfl (hb hby d2_4) (by decide) (by decide)
    obtain ⟨b159, g159⟩ : ∃ z, z = h0.size := ⟨_, rfl⟩
    have sz_b159 : h0.size ≤ b159 := Nat.le_of_eq g159.symm
    have ne_r0_b159 : r0 ≠ b159 := Nat.ne_of_lt (Nat.lt_of_lt_of_le V_r0.lt (Nat.le_of_eq g159.symm))
    rw [← g159] at A159 D159 st159
    have hk159 := Nat.le_trans hk0 E159.1
    have Cx159 := Cx0.trans (CHr.ext E159 Cx0.1)
    have K159 : Keep h0 h159 [] := (Keep.refl h0 []).ext E159
    have B159 : Ext h0 h159 := own_keep_ext K159
    have F159_coder : Fld Z h159 b159 "java/lang/String" "coder" "B" (.int (0 : Int32)) := D159 (Or.inr (hw _ (List.mem_of_getElem? (i := 34) rfl))) (ty := .byte) (by decide)
    have F159_value : Fld Z h159 b159 "java/lang/String" "value" "[B" .null := D159 (Or.inr (hw _ (List.mem_of_getElem? (i := 36) rfl))) (ty := (.array .byte)) (by decide)
    obtain ⟨T160, h160, k160, X160, e160, E160, A160, st160⟩ := newP X159 hx hZ (hw _ (List.mem_of_getElem? (i := 0) rfl)) e159 (g := (mkF m 9 #[.val (.ref r0), .val (.int p1)] [(.int (0 : Int32)), (.ref b159), (.ref b159)])) rfl (hb hby d2_9) rfl (by decide) (cap := 0) (by decide) (by decide) (by decide) (by decide)
    obtain ⟨b160, g160⟩ : ∃ z, z = h159.size := ⟨_, rfl⟩
    have sz_b160 : h0.size ≤ b160 := Nat.le_trans K159.1 (Nat.le_of_eq g160.symm)
    have ne_r0_b160 : r0 ≠ b160 := Nat.ne_of_lt (Nat.lt_of_lt_of_le (V_r0.ext E159).lt (Nat.le_of_eq g160.symm))
    have ne_b159_b160 : b159 ≠ b160 := Nat.ne_of_lt (Nat.lt_of_lt_of_le A159.lt (Nat.le_of_eq g160.symm))
    rw [← g160] at A160 st160
    have hk160 := Nat.le_trans hk159 E160.1
    have Cx160 := Cx159.trans (CHr.ext E160 Cx159.1)
    have K160 : Keep h0 h160 [] := K159.ext E160
    have B160 : Ext h0 h160 := own_keep_ext K160
    have V160 : Arv Z h160 b160 k160 .char (0 : Int32) [] (.int (0 : Int32)) := (Arv.new A160 (by decide)).pad (pad_rep [] (.int (0 : Int32)) 0)
    obtain ⟨_, _, ⟨T161, L161, k161, n161⟩, -, Xs161, hSs161, gl161, ⟨Lc161, hQ161, l161, y161, z161, Cr161⟩, st161⟩ := X160.specialBackS hx (y := (⟨"java/lang/String", "<init>", "([C)V"⟩ : MethodName)) rfl hown (mvT hZ (hw _ (List.mem_of_getElem? (i := 11) rfl))) (mvT hZ (hw _ (List.mem_of_getElem? (i := 12) rfl))) (mvT hZ (hw _ (List.mem_of_getElem? (i := 13) rfl))) (by decide) (backOfSH (W := 1) (rm3e l Z a0 hw [] b159 b160 k160 (.int (0 : Int32)) h160 n0 (Nat.le_trans Z0 K160.1) (A159.ext E160) (F159_value.ext E160) (F159_coder.ext E160) (Nat.le_trans Z0 sz_b159) V160) hZ (hw _ (List.mem_of_getElem? (i := 13) rfl)) (hw _ (List.mem_of_getElem? (i := 10) rfl)) (by decide) (by decide) hEL Cx160.1) (g := (mkF m 11 #[.val (.ref r0), .val (.int p1)] [(.ref b160), (.ref b159), (.ref b159)])) rfl (by rw [hml]; rfl) (Steps.refl _) (a := b159) (argsL := [(.ref b160)]) (rest := [(.ref b159)]) (lenOf pd_1 rfl) rfl (by show 2 * 0 + _ ≤ _; exact Nat.le_of_eq rfl) (hb hby d2_11) (fun _ _ => ⟨rfl, e160, (by decide : 2 + 4 ≤ _), (by decide : 4 + 8 ≤ _)⟩)
    dsimp only [Pt.U, Pt.locs, Pt.cells, Pt.slots] at Xs161 hSs161 gl161 Cr161 l161 y161 z161 st161 hQ161
    subst l161 y161 z161
    obtain ⟨X161, hS161, hZ161, hown161⟩ := rebS (n1 := T160.heap.size) hS0 (by rw [e160]; exact hk160) Xs161 hSs161 gl161 hZ hown
    have hk161 : T161.heap.size ≤ T161.heap.size := Nat.le_refl _
    have Cx161 := Cx160.trans Cr161
    obtain ⟨rfl, N161q, K161q, E161q, C161q, t161, kb161, V161q, A161q⟩ := hQ161
    have N161 := Fr.app N0 N161q
    have K161 : Keep h0 T161.heap [] := K160.trans K161q (allS (Or.inr sz_b159) all0)
    have B161 : Ext h0 T161.heap := own_keep_ext K161
    refine own_go (A' := (T161.setTop (mkF m 14 #[.val (.ref r0), .val (.int p1)] [(.ref b159)]))) (fun t k => ?_) ?_
    · show Steps p.tables e below (s₁.setTop (mkF m 4 #[.val (.ref r0), .val (.int p1)] [])) _
      refine st159 _ ?_
      show Steps p.tables e below (T159.setTop (mkF m 7 #[.val (.ref r0), .val (.int p1)] [(.ref b159)])) _
      refine XS.dup X159.here hx rfl (hb hby d2_7) rfl rfl ?_
      show Steps p.tables e below (T159.setTop (mkF m 8 #[.val (.ref r0), .val (.int p1)] [(.ref b159), (.ref b159)])) _
      refine XS.iconst X159.here hx rfl (hb hby d2_8) ?_
      show Steps p.tables e below (T159.setTop (mkF m 9 #[.val (.ref r0), .val (.int p1)] [(.int (0 : Int32)), (.ref b159), (.ref b159)])) _
      refine st160 _ ?_
      show Steps p.tables e below (T160.setTop (mkF m 11 #[.val (.ref r0), .val (.int p1)] [(.ref b160), (.ref b159), (.ref b159)])) _
      refine st161.trans ?_
      exact k
    obtain ⟨fs, hr, hrun, hended, hend⟩ := X161.leaveW (v := some (.ref b159)) hS161 hk161 (fun h => by rw [Bd.returns] at h; cases h) hlk
    refine ⟨_, _, ?_, hrun, hended, _, _, rfl, ?_, ?_, ⟨_, rfl⟩, hend.2.1, hend.2.2.1, hend.2.2.2.mono (by decide) (by decide)⟩
    · show Steps p.tables e below (T161.setTop (mkF m 14 #[.val (.ref r0), .val (.int p1)] [(.ref b159)])) _
      exact own_retV X161 hx Bd.returns rfl rfl (hb hby d2_14) hr
    · show Q2 Z r0 p1 kC c0 c1 c2 c3 c4 c5 c6 c7 zCS h0 n0 _ T161.heap _
      exact ⟨b159, [], rfl, N161, K161, E161q, C161q, (by simp), Nat.le_of_ble_eq_true rfl, _, _, V161q, A161q⟩
    · show CHr Z consts_1 s.vm s.heap T161.vm T161.heap
      rw [hh]
      exact Cx161.trans (CHv.at X161 hZ161 hEL Cx161.1)
theorem own_arv {Z : State} {h : Heap} {b wa wb : Addr} {cl : Cell} {C : String} (A : Arr Z h b (cloneOf cl) (.object C)) (h2 : cl.slots.size = 2) (h0 : cl.slots[0]? = some (.ref wa)) (h1 : cl.slots[1]? = some (.ref wb)) : Arv Z h b cl.cls (.object C) (2 : Int32) [.ref wa, .ref wb] .null := by
  refine ⟨cloneOf cl, A, rfl, h2, by decide, fun i hi => ?_, fun i hi => ?_⟩
  · have hi' : i < 2 := h2 ▸ hi
    match i, hi' with
    | 0, _ => exact h0
    | 1, _ => exact h1
  · have hi' : i < 2 := h2 ▸ hi
    match i, hi' with
    | 0, _ => rfl
    | 1, _ => rfl
theorem d12_0 : decode prog_62_method_1_code 0 = .ok (.getstatic 10, 3) := by decide +kernel
theorem d12_3 : decode prog_62_method_1_code 3 = .ok (.invokevirtual 14, 3) := by decide +kernel
theorem d12_6 : decode prog_62_method_1_code 6 = .ok (.checkcast 15, 3) := by decide +kernel
theorem d12_9 : decode prog_62_method_1_code 9 = .ok (.areturn, 1) := by decide +kernel
theorem pn_12 : plainName "com/example/lading/lading/packaging/ChecksumAlgorithm" = true := by first | (simp [plainName, overriddenIn]; done) | decide +kernel
theorem ef_12 (m : MethodId)  : entryFrame m #[] 0 = mkF m 0 #[] [] := by first | (simp [entryFrame, mkF, argsToLocals, Value.category]; done) | rfl
def Q12 (Z : State)  (w_SHA_256 : Addr) (w_MD5 : Addr) (w_V : Addr) (clV : Cell) (h0 : Heap) (n0 : Nat) (v : Option Value) (h : Heap) (L : List Loc) : Prop := ∃ (b : Addr) (k : ClassId), v = some (.ref b) ∧ Fr n0 L ∧ Keep h0 h [] ∧ Arv Z h b k (.object "com/example/lading/lading/packaging/ChecksumAlgorithm") (2 : Int32) [.ref w_SHA_256, .ref w_MD5] .null
set_option maxRecDepth 65536 in
set_option maxHeartbeats 40000000 in
theorem rm12 (l : Launch) (Z : State) (a0 : Array Value) (hw : ∀ d ∈ tables_1, d.before a0 Z = true) (ws : List Jvm.Cond)  (w_SHA_256 : Addr) (w_MD5 : Addr) (w_V : Addr) (clV : Cell) (h0 : Heap) (n0 : Nat) (Z0 : n0 ≤ h0.size) (S_V : Sta Z h0 "com/example/lading/lading/packaging/ChecksumAlgorithm" "$VALUES" "[Lcom/example/lading/lading/packaging/ChecksumAlgorithm;" (.ref w_V)) (Ar_V : Arr Z h0 w_V clV (.object "com/example/lading/lading/packaging/ChecksumAlgorithm")) (E_V : Exa Z h0 w_V "[Lcom/example/lading/lading/packaging/ChecksumAlgorithm;") (Ft_V : FitC Z clV) (L_V : clV.slots.size = 2) (V_0 : clV.slots[0]? = some (.ref w_SHA_256)) (V_1 : clV.slots[1]? = some (.ref w_MD5)) :
    MetFree l (⟨"com/example/lading/lading/packaging/ChecksumAlgorithm", "values", "()[Lcom/example/lading/lading/packaging/ChecksumAlgorithm;"⟩ : MethodName) (head1 (Jvm.Cond.code (⟨"com/example/lading/lading/packaging/ChecksumAlgorithm", "values", "()[Lcom/example/lading/lading/packaging/ChecksumAlgorithm;"⟩ : MethodName) prog_62_method_1_code 0 (some (.array (.object "com/example/lading/lading/packaging/ChecksumAlgorithm"))) :: ws) ({ frames := 1, cells := 1, slots := 2, locals := 14 } : Room)) (fun a U => a = #[] ∧ Z.Warmed39 U.vm ∧ U.heap = h0) (fun _ _ _ _ _ => True) (fun _ U o U' => ∃ v L, o = .returned v ∧ Q12 Z w_SHA_256 w_MD5 w_V clV h0 n0 v U'.heap L ∧ FrameEnd U o U' L ({ frames := 1, cells := 1, slots := 2, locals := 14 } : Room).cells ({ frames := 1, cells := 1, slots := 2, locals := 14 } : Room).slots) := by
  refine MetFree.of_bodySF (plainFor_of_name pn_12) hisR ?_
  intro p e s m args below meth c s₁ Bd hml0 hP hK
  obtain ⟨rfl, hZ, hh⟩ := hP
  have hx := Bd.exec
  have hlk : meth.locks = false := BodyLoose.notSynchronized Bd
  have hby := Bd.bytes
  have hml : c.maxLocals = 0 := hml0
  have hown : s.vm.findClass "com/example/lading/lading/packaging/ChecksumAlgorithm" = some m.cls := findClass_of_methodNamed Bd.named
  have hnm := (name_of_methodNamed Bd.named Bd.method).1
  have X0 : Stand p l e ({ frames := 1, cells := 1, slots := 2, locals := 14 } : Room) s m #[] below meth c s₁ [] 0 0 := Stand.of_body Bd
  have e0 : s₁.heap = h0 := by rw [← hh, Bd.state]; rfl
  have N0 := Fr.nil n0
  refine own_go (A' := (s₁.setTop (mkF m 0 #[] []))) (fun t k => castTop (ef_12 m ) k) ?_
  obtain ⟨T162, X162, e162, st162⟩ := getS2 X0 hx hZ hown (host := "") (Or.inl (hw _ (List.mem_of_getElem? (i := 59) rfl))) Via.refl e0 S_V (g := (mkF m 0 #[] [])) rfl (hb hby d12_0)
  refine own_go (A' := (T162.setTop (mkF m 3 #[] [(.ref w_V)]))) (fun t k => ?_) ?_
  · show Steps p.tables e below (s₁.setTop (mkF m 0 #[] [])) _
    refine st162 _ ?_
    exact k
  obtain ⟨T163, h163, X163, e163, E163, A163, Q163, st163⟩ := cloneA X162 hx hZ hown (hw _ (List.mem_of_getElem? (i := 61) rfl)) (hw _ (List.mem_of_getElem? (i := 62) rfl)) (hw _ (List.mem_of_getElem? (i := 66) rfl)) (hw _ (List.mem_of_getElem? (i := 64) rfl)) (hw _ (List.mem_of_getElem? (i := 65) rfl)) (hw _ (List.mem_of_getElem? (i := 67) rfl)) e162 Ar_V E_V Ft_V (g := (mkF m 3 #[] [(.ref w_V)])) rfl (by rw [hml]; rfl) rfl (hb hby d12_3) (by decide) (W := 0) (cap := 2) (by show 2 * 0 + _ ≤ _; exact Nat.le_of_eq rfl) (by decide) (Nat.le_of_eq L_V) (by decide) (by decide)
  obtain ⟨b163, g163⟩ : ∃ z, z = h0.size := ⟨_, rfl⟩
  have sz_b163 : h0.size ≤ b163 := Nat.le_of_eq g163.symm
  rw [← g163] at A163 Q163 st163
  have K163 : Keep h0 h163 [] := (Keep.refl h0 []).ext E163
  have B163 : Ext h0 h163 := own_keep_ext K163
  have V163 := own_arv A163 L_V V_0 V_1
  obtain ⟨T164, X164, e164, st164⟩ := castY X163 hx hZ hown (hw _ (List.mem_of_getElem? (i := 70) rfl)) e163 (Ins.self Q163) (g := (mkF m 6 #[] [(.ref b163)])) rfl rfl (hb hby d12_6)
  refine own_go (A' := (T164.setTop (mkF m 9 #[] [(.ref b163)]))) (fun t k => ?_) ?_
  · show Steps p.tables e below (T162.setTop (mkF m 3 #[] [(.ref w_V)])) _
    refine st163 _ ?_
    show Steps p.tables e below (T163.setTop (mkF m 6 #[] [(.ref b163)])) _
    refine st164 _ ?_
    exact k
  obtain ⟨fs, hr, hrun, hended, hW, hsame⟩ := X164.leave (v := some (.ref b163)) (fun h => by rw [Bd.returns] at h; cases h) hlk
  refine ⟨_, _, ?_, hrun, hended, _, _, rfl, ?_, ⟨_, rfl⟩, hW, hsame.mono (by decide) (by decide)⟩
  · show Steps p.tables e below (T164.setTop (mkF m 9 #[] [(.ref b163)])) _
    exact own_retV X164 hx Bd.returns rfl rfl (hb hby d12_9) hr
  · show Q12 Z w_SHA_256 w_MD5 w_V clV h0 n0 _ T164.heap _
    rw [e164]
    exact ⟨_, _, rfl, N0, K163, V163⟩
def nmV (w1 w2 : Addr) (cs : List Int32) : Value := if eqI md5 cs = (0 : Int32) then (if eqI sha cs = (0 : Int32) then .null else .ref w1) else .ref w2
theorem own_eqI0 {cs ds : List Int32} : eqI cs ds = (0 : Int32) ↔ ¬ cs = ds := by
  unfold eqI
  by_cases h : cs = ds
  · rw [if_pos h]; exact ⟨fun q => absurd q (by decide), fun q => absurd h q⟩
  · rw [if_neg h]; exact ⟨fun _ => h, fun _ => rfl⟩
theorem pd_2 : parseMethodDescriptor "()[Lcom/example/lading/lading/packaging/ChecksumAlgorithm;" = some ⟨[], some (.array (.object "com/example/lading/lading/packaging/ChecksumAlgorithm"))⟩ := by decide +kernel
theorem pd_3 : parseMethodDescriptor "(Ljava/lang/Object;)Z" = some ⟨[(.object "java/lang/Object")], some .boolean⟩ := by decide +kernel
theorem d11_0 : decode prog_62_method_5_code 0 = .ok (.aconst_null, 1) := by decide +kernel
theorem d11_1 : decode prog_62_method_5_code 1 = .ok (.astore_n 1, 1) := by decide +kernel
theorem d11_2 : decode prog_62_method_5_code 2 = .ok (.invokestatic 33, 3) := by decide +kernel
theorem d11_5 : decode prog_62_method_5_code 5 = .ok (.astore_n 2, 1) := by decide +kernel
theorem d11_6 : decode prog_62_method_5_code 6 = .ok (.aload_n 2, 1) := by decide +kernel
theorem d11_7 : decode prog_62_method_5_code 7 = .ok (.arraylength, 1) := by decide +kernel
theorem d11_8 : decode prog_62_method_5_code 8 = .ok (.istore_n 3, 1) := by decide +kernel
theorem d11_9 : decode prog_62_method_5_code 9 = .ok (.iconst 0, 1) := by decide +kernel
theorem d11_10 : decode prog_62_method_5_code 10 = .ok (.istore 4, 2) := by decide +kernel
theorem d11_12 : decode prog_62_method_5_code 12 = .ok (.iload 4, 2) := by decide +kernel
theorem d11_14 : decode prog_62_method_5_code 14 = .ok (.iload_n 3, 1) := by decide +kernel
theorem d11_15 : decode prog_62_method_5_code 15 = .ok (.if_icmp .ge 30, 3) := by decide +kernel
theorem d11_18 : decode prog_62_method_5_code 18 = .ok (.aload_n 2, 1) := by decide +kernel
theorem d11_19 : decode prog_62_method_5_code 19 = .ok (.iload 4, 2) := by decide +kernel
theorem d11_21 : decode prog_62_method_5_code 21 = .ok (.aaload, 1) := by decide +kernel
theorem d11_22 : decode prog_62_method_5_code 22 = .ok (.astore 5, 2) := by decide +kernel
theorem d11_24 : decode prog_62_method_5_code 24 = .ok (.aload 5, 2) := by decide +kernel
theorem d11_26 : decode prog_62_method_5_code 26 = .ok (.getfield 29, 3) := by decide +kernel
theorem d11_29 : decode prog_62_method_5_code 29 = .ok (.aload_n 0, 1) := by decide +kernel
theorem d11_30 : decode prog_62_method_5_code 30 = .ok (.invokevirtual 37, 3) := by decide +kernel
theorem d11_33 : decode prog_62_method_5_code 33 = .ok (.ifCond .eq 6, 3) := by decide +kernel
theorem d11_39 : decode prog_62_method_5_code 39 = .ok (.iinc 4 1, 3) := by decide +kernel
theorem d11_42 : decode prog_62_method_5_code 42 = .ok (.goto (-30), 3) := by decide +kernel
theorem d11_45 : decode prog_62_method_5_code 45 = .ok (.aload_n 1, 1) := by decide +kernel
theorem d11_46 : decode prog_62_method_5_code 46 = .ok (.areturn, 1) := by decide +kernel
theorem pn_11 : plainName "com/example/lading/lading/packaging/ChecksumAlgorithm" = true := by first | (simp [plainName, overriddenIn]; done) | decide +kernel
theorem ef_11n (m : MethodId)  : entryFrame m #[.null] 6 = mkF m 0 #[.val .null, .unset, .unset, .unset, .unset, .unset] [] := by first | (simp [entryFrame, mkF, argsToLocals, Value.category]; done) | rfl
def Q11n (Z : State)  (w_SHA_256 : Addr) (w_MD5 : Addr) (x_SHA_256 : Addr) (x_MD5 : Addr) (w_V : Addr) (clV : Cell) (zCS : Int32) (h0 : Heap) (n0 : Nat) (v : Option Value) (h : Heap) (L : List Loc) : Prop := v = some .null ∧ Fr n0 L ∧ Keep h0 h []
set_option maxRecDepth 65536 in
set_option maxHeartbeats 40000000 in
theorem rm11n (l : Launch) (Z : State) (a0 : Array Value) (hw : ∀ d ∈ tables_1, d.before a0 Z = true) (ws : List Jvm.Cond)  (w_SHA_256 : Addr) (w_MD5 : Addr) (x_SHA_256 : Addr) (x_MD5 : Addr) (w_V : Addr) (clV : Cell) (zCS : Int32) (h0 : Heap) (n0 : Nat) (Z0 : n0 ≤ h0.size) (S_V : Sta Z h0 "com/example/lading/lading/packaging/ChecksumAlgorithm" "$VALUES" "[Lcom/example/lading/lading/packaging/ChecksumAlgorithm;" (.ref w_V)) (Ar_V : Arr Z h0 w_V clV (.object "com/example/lading/lading/packaging/ChecksumAlgorithm")) (E_V : Exa Z h0 w_V "[Lcom/example/lading/lading/packaging/ChecksumAlgorithm;") (Ft_V : FitC Z clV) (L_V : clV.slots.size = 2) (V_0 : clV.slots[0]? = some (.ref w_SHA_256)) (V_1 : clV.slots[1]? = some (.ref w_MD5)) (M_SHA_256 : Fld Z h0 w_SHA_256 "com/example/lading/lading/packaging/ChecksumAlgorithm" "manifestName" "Ljava/lang/String;" (.ref x_SHA_256)) (M_MD5 : Fld Z h0 w_MD5 "com/example/lading/lading/packaging/ChecksumAlgorithm" "manifestName" "Ljava/lang/String;" (.ref x_MD5)) (X_SHA_256 : SF Z h0 x_SHA_256 sha) (X_MD5 : SF Z h0 x_MD5 md5) (S_CS : Sta Z h0 "java/lang/String" "COMPACT_STRINGS" "Z" (.int zCS)) (hCS : ¬ zCS = 0) :
    MetFree l (⟨"com/example/lading/lading/packaging/ChecksumAlgorithm", "named", "(Ljava/lang/String;)Lcom/example/lading/lading/packaging/ChecksumAlgorithm;"⟩ : MethodName) (head1 (Jvm.Cond.code (⟨"com/example/lading/lading/packaging/ChecksumAlgorithm", "named", "(Ljava/lang/String;)Lcom/example/lading/lading/packaging/ChecksumAlgorithm;"⟩ : MethodName) prog_62_method_5_code 6 (some (.object "com/example/lading/lading/packaging/ChecksumAlgorithm")) :: ws) ({ frames := 2, cells := 1, slots := 2, locals := 25 } : Room)) (fun a U => a = #[.null] ∧ Z.Warmed39 U.vm ∧ U.heap = h0) (fun _ _ _ _ _ => True) (fun _ U o U' => ∃ v L, o = .returned v ∧ Q11n Z w_SHA_256 w_MD5 x_SHA_256 x_MD5 w_V clV zCS h0 n0 v U'.heap L ∧ FrameEnd U o U' L ({ frames := 2, cells := 1, slots := 2, locals := 25 } : Room).cells ({ frames := 2, cells := 1, slots := 2, locals := 25 } : Room).slots) := by
  refine MetFree.of_bodySF (plainFor_of_name pn_11) hisR ?_
  intro p e s m args below meth c s₁ Bd hml0 hP hK
  obtain ⟨rfl, hZ, hh⟩ := hP
  have hx := Bd.exec
  have hlk : meth.locks = false := BodyLoose.notSynchronized Bd
  have hby := Bd.bytes
  have hml : c.maxLocals = 6 := hml0
  have hown : s.vm.findClass "com/example/lading/lading/packaging/ChecksumAlgorithm" = some m.cls := findClass_of_methodNamed Bd.named
  have hnm := (name_of_methodNamed Bd.named Bd.method).1
  have X0 : Stand p l e ({ frames := 2, cells := 1, slots := 2, locals := 25 } : Room) s m #[.null] below meth c s₁ [] 0 0 := Stand.of_body Bd
  have e0 : s₁.heap = h0 := by rw [← hh, Bd.state]; rfl
  have N0 := Fr.nil n0
  refine own_go (A' := (s₁.setTop (mkF m 0 #[.val .null, .unset, .unset, .unset, .unset, .unset] []))) (fun t k => castTop (ef_11n m ) k) ?_
  obtain ⟨_, _, ⟨T165, L165, k165, n165⟩, -, X165, ⟨Lc165, hQ165, l165, y165, z165⟩, st165⟩ := Jvm.LawKit.callS X0 hx (y := (⟨"com/example/lading/lading/packaging/ChecksumAlgorithm", "values", "()[Lcom/example/lading/lading/packaging/ChecksumAlgorithm;"⟩ : MethodName)) hown (mvT hZ (hw _ (List.mem_of_getElem? (i := 56) rfl))) (mvT hZ (hw _ (List.mem_of_getElem? (i := 57) rfl))) (mvT hZ (hw _ (List.mem_of_getElem? (i := 51) rfl))) (mvT hZ (hw _ (List.mem_of_getElem? (i := 58) rfl))) (by decide) (backOf (W := 0) (rm12 l Z a0 hw []  w_SHA_256 w_MD5 w_V clV h0 n0 Z0 S_V Ar_V E_V Ft_V L_V V_0 V_1) hZ (hw _ (List.mem_of_getElem? (i := 58) rfl)) (hw _ (List.mem_of_getElem? (i := 51) rfl)) (by decide) (by decide)) (g := (mkF m 2 #[.val .null, .val .null, .unset, .unset, .unset, .unset] [])) rfl (by rw [hml]; rfl) (argsL := []) (rest := []) (lenOf pd_2 rfl) rfl (by show 2 * 0 + _ ≤ _; exact Nat.le_of_eq rfl) (hb hby d11_2) (fun _ _ => ⟨rfl, e0, (by decide : 0 + 1 ≤ _), (by decide : 0 + 2 ≤ _)⟩)
  dsimp only [Pt.U, Pt.locs, Pt.cells, Pt.slots] at X165 l165 y165 z165 st165 hQ165
  subst l165 y165 z165
  obtain ⟨c165, kv165, rfl, N165q, K165q, A165q⟩ := hQ165
  have N165 := Fr.app N0 N165q
  have K165 : Keep h0 T165.heap [] := (Keep.refl h0 []).trans K165q all0
  have B165 : Ext h0 T165.heap := own_keep_ext K165
  obtain ⟨cl166, Ar166, q166, S166, N166, H166, G166⟩ := id A165q
  refine own_go (A' := (T165.setTop (mkF m 15 #[.val .null, .val .null, .val (.ref c165), .val (.int (2 : Int32)), .val (.int (0 : Int32)), .unset] [(.int (2 : Int32)), (.int (0 : Int32))]))) (fun t k => ?_) ?_
  · show Steps p.tables e below (s₁.setTop (mkF m 0 #[.val .null, .unset, .unset, .unset, .unset, .unset] [])) _
    refine XS.aconstNull X0.here hx rfl (hb hby d11_0) ?_
    show Steps p.tables e below (s₁.setTop (mkF m 1 #[.val .null, .unset, .unset, .unset, .unset, .unset] [.null])) _
    refine XS.astoreN X0.here hx rfl (hb hby d11_1) rfl rfl (l' := #[.val .null, .val .null, .unset, .unset, .unset, .unset]) rfl ?_
    show Steps p.tables e below (s₁.setTop (mkF m 2 #[.val .null, .val .null, .unset, .unset, .unset, .unset] [])) _
    refine st165 _ ?_
    show Steps p.tables e below (T165.setTop (mkF m 5 #[.val .null, .val .null, .unset, .unset, .unset, .unset] [(.ref c165)])) _
    refine XS.astoreN X165.here hx rfl (hb hby d11_5) rfl rfl (l' := #[.val .null, .val .null, .val (.ref c165), .unset, .unset, .unset]) rfl ?_
    show Steps p.tables e below (T165.setTop (mkF m 6 #[.val .null, .val .null, .val (.ref c165), .unset, .unset, .unset] [])) _
    refine XS.aloadN X165.here hx rfl (hb hby d11_6) rfl rfl ?_
    show Steps p.tables e below (T165.setTop (mkF m 7 #[.val .null, .val .null, .val (.ref c165), .unset, .unset, .unset] [(.ref c165)])) _
    refine X165.arraylength hx Ar166.1 (State.isArrayOf_alike hZ.alike Ar166.2.1) (g := (mkF m 7 #[.val .null, .val .null, .val (.ref c165), .unset, .unset, .unset] [(.ref c165)])) rfl rfl (hb hby d11_7) _ ?_
    rw [len_of S166 N166]
    show Steps p.tables e below (T165.setTop (mkF m 8 #[.val .null, .val .null, .val (.ref c165), .unset, .unset, .unset] [(.int (2 : Int32))])) _
    refine XS.istoreN X165.here hx rfl (hb hby d11_8) rfl (l' := #[.val .null, .val .null, .val (.ref c165), .val (.int (2 : Int32)), .unset, .unset]) rfl ?_
    show Steps p.tables e below (T165.setTop (mkF m 9 #[.val .null, .val .null, .val (.ref c165), .val (.int (2 : Int32)), .unset, .unset] [])) _
    refine XS.iconst X165.here hx rfl (hb hby d11_9) ?_
    show Steps p.tables e below (T165.setTop (mkF m 10 #[.val .null, .val .null, .val (.ref c165), .val (.int (2 : Int32)), .unset, .unset] [(.int (0 : Int32))])) _
    refine XS.istore X165.here hx rfl (hb hby d11_10) rfl (l' := #[.val .null, .val .null, .val (.ref c165), .val (.int (2 : Int32)), .val (.int (0 : Int32)), .unset]) rfl ?_
    show Steps p.tables e below (T165.setTop (mkF m 12 #[.val .null, .val .null, .val (.ref c165), .val (.int (2 : Int32)), .val (.int (0 : Int32)), .unset] [])) _
    refine XS.iload X165.here hx rfl (hb hby d11_12) rfl ?_
    show Steps p.tables e below (T165.setTop (mkF m 14 #[.val .null, .val .null, .val (.ref c165), .val (.int (2 : Int32)), .val (.int (0 : Int32)), .unset] [(.int (0 : Int32))])) _
    refine XS.iloadN X165.here hx rfl (hb hby d11_14) rfl ?_
    exact k
  refine own_go (A' := (T165.setTop (mkF m 18 #[.val .null, .val .null, .val (.ref c165), .val (.int (2 : Int32)), .val (.int (0 : Int32)), .unset] []))) (fun t k => XS.icmpNo X165.here hx rfl (hb hby d11_15) rfl (tlt (by decide : (0 : Int32) < (2 : Int32))).2.1 k) ?_
  obtain ⟨cl167, Ar167, q167, S167, N167, H167, G167⟩ := id A165q
  have hin167 : ¬ ((0 : Int32) < 0 ∨ cl167.slots.size ≤ ((0 : Int32)).toNatClampNeg) := inb_of S167 ⟨by decide, by decide⟩
  have hat167 : cl167.slots[((0 : Int32)).toNatClampNeg]? = some (.ref w_SHA_256) := (H167 _ (Nat.lt_of_not_le fun q => hin167 (Or.inr q))).trans rfl
  obtain ⟨T168, X168, e168, st168⟩ := getF X165 hx hZ hown (host := "") (Or.inl (hw _ (List.mem_of_getElem? (i := 72) rfl))) Via.refl rfl (M_SHA_256.ext B165) (g := (mkF m 26 #[.val .null, .val .null, .val (.ref c165), .val (.int (2 : Int32)), .val (.int (0 : Int32)), .val (.ref w_SHA_256)] [(.ref w_SHA_256)])) rfl rfl (hb hby d11_26)
  obtain ⟨cq169, kq169, q169a, q169b, q169c⟩ := isOf hZ e168 (X_SHA_256.ext B165).1
  obtain ⟨_, _, ⟨T169, L169, k169, n169⟩, -, X169, ⟨Lc169, hQ169, l169, y169, z169⟩, st169⟩ := X168.virtualBack hx (y := (⟨"java/lang/String", "equals", "(Ljava/lang/Object;)Z"⟩ : MethodName)) (z := (⟨"java/lang/String", "equals", "(Ljava/lang/Object;)Z"⟩ : MethodName)) hown (mvT hZ (hw _ (List.mem_of_getElem? (i := 74) rfl))) (mvT hZ (hw _ (List.mem_of_getElem? (i := 41) rfl))) (notFace_of_selects (args := #[]) (mvT hZ (hw _ (List.mem_of_getElem? (i := 43) rfl)))) (mvT hZ (hw _ (List.mem_of_getElem? (i := 43) rfl))) (mvT hZ (hw _ (List.mem_of_getElem? (i := 42) rfl))) (by decide) (backOf (W := 0) (rm9n l Z a0 hw [] x_SHA_256  T165.heap n0 (Nat.le_trans Z0 K165.1) ) hZ (hw _ (List.mem_of_getElem? (i := 44) rfl)) (hw _ (List.mem_of_getElem? (i := 10) rfl)) (by decide) (by decide)) q169a q169c (g := (mkF m 30 #[.val .null, .val .null, .val (.ref c165), .val (.int (2 : Int32)), .val (.int (0 : Int32)), .val (.ref w_SHA_256)] [.null, (.ref x_SHA_256)])) rfl (by rw [hml]; rfl) (Steps.refl _) (argsL := [.null]) (rest := []) (lenOf pd_3 rfl) rfl (by show 2 * 0 + _ ≤ _; exact Nat.le_of_eq rfl) (hb hby d11_30) (fun _ _ => ⟨rfl, e168, (by decide : 1 + 0 ≤ _), (by decide : 2 + 0 ≤ _)⟩)
  dsimp only [Pt.U, Pt.locs, Pt.cells, Pt.slots] at X169 l169 y169 z169 st169 hQ169
  subst l169 y169 z169
  obtain ⟨rfl, N169q, e169⟩ := hQ169
  have N169 := Fr.app N165 N169q
  refine own_go (A' := (T169.setTop (mkF m 33 #[.val .null, .val .null, .val (.ref c165), .val (.int (2 : Int32)), .val (.int (0 : Int32)), .val (.ref w_SHA_256)] [(.int (0 : Int32))]))) (fun t k => ?_) ?_
  · show Steps p.tables e below (T165.setTop (mkF m 18 #[.val .null, .val .null, .val (.ref c165), .val (.int (2 : Int32)), .val (.int (0 : Int32)), .unset] [])) _
    refine XS.aloadN X165.here hx rfl (hb hby d11_18) rfl rfl ?_
    show Steps p.tables e below (T165.setTop (mkF m 19 #[.val .null, .val .null, .val (.ref c165), .val (.int (2 : Int32)), .val (.int (0 : Int32)), .unset] [(.ref c165)])) _
    refine XS.iload X165.here hx rfl (hb hby d11_19) rfl ?_
    show Steps p.tables e below (T165.setTop (mkF m 21 #[.val .null, .val .null, .val (.ref c165), .val (.int (2 : Int32)), .val (.int (0 : Int32)), .unset] [(.int (0 : Int32)), (.ref c165)])) _
    refine X165.aaload hx (j := (0 : Int32)) (v := (.ref w_SHA_256)) Ar167.1 (State.isArrayOf_alike hZ.alike Ar167.2.1) rfl Ar167.2.2 hin167 hat167 (g := (mkF m 21 #[.val .null, .val .null, .val (.ref c165), .val (.int (2 : Int32)), .val (.int (0 : Int32)), .unset] [(.int (0 : Int32)), (.ref c165)])) rfl rfl (hb hby d11_21) _ ?_
    show Steps p.tables e below (T165.setTop (mkF m 22 #[.val .null, .val .null, .val (.ref c165), .val (.int (2 : Int32)), .val (.int (0 : Int32)), .unset] [(.ref w_SHA_256)])) _
    refine XS.astore X165.here hx rfl (hb hby d11_22) rfl rfl (l' := #[.val .null, .val .null, .val (.ref c165), .val (.int (2 : Int32)), .val (.int (0 : Int32)), .val (.ref w_SHA_256)]) rfl ?_
    show Steps p.tables e below (T165.setTop (mkF m 24 #[.val .null, .val .null, .val (.ref c165), .val (.int (2 : Int32)), .val (.int (0 : Int32)), .val (.ref w_SHA_256)] [])) _
    refine XS.aload X165.here hx rfl (hb hby d11_24) rfl rfl ?_
    show Steps p.tables e below (T165.setTop (mkF m 26 #[.val .null, .val .null, .val (.ref c165), .val (.int (2 : Int32)), .val (.int (0 : Int32)), .val (.ref w_SHA_256)] [(.ref w_SHA_256)])) _
    refine st168 _ ?_
    show Steps p.tables e below (T168.setTop (mkF m 29 #[.val .null, .val .null, .val (.ref c165), .val (.int (2 : Int32)), .val (.int (0 : Int32)), .val (.ref w_SHA_256)] [(.ref x_SHA_256)])) _
    refine XS.aloadN X168.here hx rfl (hb hby d11_29) rfl rfl ?_
    show Steps p.tables e below (T168.setTop (mkF m 30 #[.val .null, .val .null, .val (.ref c165), .val (.int (2 : Int32)), .val (.int (0 : Int32)), .val (.ref w_SHA_256)] [.null, (.ref x_SHA_256)])) _
    refine st169.trans ?_
    exact k
  refine own_go (A' := (T169.setTop (mkF m 39 #[.val .null, .val .null, .val (.ref c165), .val (.int (2 : Int32)), .val (.int (0 : Int32)), .val (.ref w_SHA_256)] []))) (fun t k => XS.ifYes X169.here hx rfl (pc0 := 33) (pc' := 39) rfl (hb hby d11_33) rfl ((if0 _ _).trans (teq (by decide : (0 : Int32) = (0 : Int32))).1) (by decide) (by decide) k) ?_
  refine own_go (A' := (T169.setTop (mkF m 15 #[.val .null, .val .null, .val (.ref c165), .val (.int (2 : Int32)), .val (.int (1 : Int32)), .val (.ref w_SHA_256)] [(.int (2 : Int32)), (.int (1 : Int32))]))) (fun t k => ?_) ?_
  · show Steps p.tables e below (T169.setTop (mkF m 39 #[.val .null, .val .null, .val (.ref c165), .val (.int (2 : Int32)), .val (.int (0 : Int32)), .val (.ref w_SHA_256)] [])) _
    refine XS.iinc X169.here hx rfl (hb hby d11_39) rfl (l' := #[.val .null, .val .null, .val (.ref c165), .val (.int (2 : Int32)), .val (.int (1 : Int32)), .val (.ref w_SHA_256)]) rfl ?_
    show Steps p.tables e below (T169.setTop (mkF m 42 #[.val .null, .val .null, .val (.ref c165), .val (.int (2 : Int32)), .val (.int (1 : Int32)), .val (.ref w_SHA_256)] [])) _
    refine XS.goto X169.here hx rfl (pc0 := 42) (pc' := 12) rfl (hb hby d11_42) (by decide) (by decide) ?_
    show Steps p.tables e below (T169.setTop (mkF m 12 #[.val .null, .val .null, .val (.ref c165), .val (.int (2 : Int32)), .val (.int (1 : Int32)), .val (.ref w_SHA_256)] [])) _
    refine XS.iload X169.here hx rfl (hb hby d11_12) rfl ?_
    show Steps p.tables e below (T169.setTop (mkF m 14 #[.val .null, .val .null, .val (.ref c165), .val (.int (2 : Int32)), .val (.int (1 : Int32)), .val (.ref w_SHA_256)] [(.int (1 : Int32))])) _
    refine XS.iloadN X169.here hx rfl (hb hby d11_14) rfl ?_
    exact k
  refine own_go (A' := (T169.setTop (mkF m 18 #[.val .null, .val .null, .val (.ref c165), .val (.int (2 : Int32)), .val (.int (1 : Int32)), .val (.ref w_SHA_256)] []))) (fun t k => XS.icmpNo X169.here hx rfl (hb hby d11_15) rfl (tlt (by decide : (1 : Int32) < (2 : Int32))).2.1 k) ?_
  obtain ⟨cl170, Ar170, q170, S170, N170, H170, G170⟩ := id A165q
  have hin170 : ¬ ((1 : Int32) < 0 ∨ cl170.slots.size ≤ ((1 : Int32)).toNatClampNeg) := inb_of S170 ⟨by decide, by decide⟩
  have hat170 : cl170.slots[((1 : Int32)).toNatClampNeg]? = some (.ref w_MD5) := (H170 _ (Nat.lt_of_not_le fun q => hin170 (Or.inr q))).trans rfl
  obtain ⟨T171, X171, e171, st171⟩ := getF X169 hx hZ hown (host := "") (Or.inl (hw _ (List.mem_of_getElem? (i := 72) rfl))) Via.refl e169 (M_MD5.ext B165) (g := (mkF m 26 #[.val .null, .val .null, .val (.ref c165), .val (.int (2 : Int32)), .val (.int (1 : Int32)), .val (.ref w_MD5)] [(.ref w_MD5)])) rfl rfl (hb hby d11_26)
  obtain ⟨cq172, kq172, q172a, q172b, q172c⟩ := isOf hZ e171 (X_MD5.ext B165).1
  obtain ⟨_, _, ⟨T172, L172, k172, n172⟩, -, X172, ⟨Lc172, hQ172, l172, y172, z172⟩, st172⟩ := X171.virtualBack hx (y := (⟨"java/lang/String", "equals", "(Ljava/lang/Object;)Z"⟩ : MethodName)) (z := (⟨"java/lang/String", "equals", "(Ljava/lang/Object;)Z"⟩ : MethodName)) hown (mvT hZ (hw _ (List.mem_of_getElem? (i := 74) rfl))) (mvT hZ (hw _ (List.mem_of_getElem? (i := 41) rfl))) (notFace_of_selects (args := #[]) (mvT hZ (hw _ (List.mem_of_getElem? (i := 43) rfl)))) (mvT hZ (hw _ (List.mem_of_getElem? (i := 43) rfl))) (mvT hZ (hw _ (List.mem_of_getElem? (i := 42) rfl))) (by decide) (backOf (W := 0) (rm9n l Z a0 hw [] x_MD5  T165.heap n0 (Nat.le_trans Z0 K165.1) ) hZ (hw _ (List.mem_of_getElem? (i := 44) rfl)) (hw _ (List.mem_of_getElem? (i := 10) rfl)) (by decide) (by decide)) q172a q172c (g := (mkF m 30 #[.val .null, .val .null, .val (.ref c165), .val (.int (2 : Int32)), .val (.int (1 : Int32)), .val (.ref w_MD5)] [.null, (.ref x_MD5)])) rfl (by rw [hml]; rfl) (Steps.refl _) (argsL := [.null]) (rest := []) (lenOf pd_3 rfl) rfl (by show 2 * 0 + _ ≤ _; exact Nat.le_of_eq rfl) (hb hby d11_30) (fun _ _ => ⟨rfl, e171, (by decide : 1 + 0 ≤ _), (by decide : 2 + 0 ≤ _)⟩)
  dsimp only [Pt.U, Pt.locs, Pt.cells, Pt.slots] at X172 l172 y172 z172 st172 hQ172
  subst l172 y172 z172
  obtain ⟨rfl, N172q, e172⟩ := hQ172
  have N172 := Fr.app N169 N172q
  refine own_go (A' := (T172.setTop (mkF m 33 #[.val .null, .val .null, .val (.ref c165), .val (.int (2 : Int32)), .val (.int (1 : Int32)), .val (.ref w_MD5)] [(.int (0 : Int32))]))) (fun t k => ?_) ?_
  · show Steps p.tables e below (T169.setTop (mkF m 18 #[.val .null, .val .null, .val (.ref c165), .val (.int (2 : Int32)), .val (.int (1 : Int32)), .val (.ref w_SHA_256)] [])) _
    refine XS.aloadN X169.here hx rfl (hb hby d11_18) rfl rfl ?_
    show Steps p.tables e below (T169.setTop (mkF m 19 #[.val .null, .val .null, .val (.ref c165), .val (.int (2 : Int32)), .val (.int (1 : Int32)), .val (.ref w_SHA_256)] [(.ref c165)])) _
    refine XS.iload X169.here hx rfl (hb hby d11_19) rfl ?_
    show Steps p.tables e below (T169.setTop (mkF m 21 #[.val .null, .val .null, .val (.ref c165), .val (.int (2 : Int32)), .val (.int (1 : Int32)), .val (.ref w_SHA_256)] [(.int (1 : Int32)), (.ref c165)])) _
    refine X169.aaload hx (j := (1 : Int32)) (v := (.ref w_MD5)) (by rw [e169]; exact Ar170.1) (State.isArrayOf_alike hZ.alike Ar170.2.1) rfl Ar170.2.2 hin170 hat170 (g := (mkF m 21 #[.val .null, .val .null, .val (.ref c165), .val (.int (2 : Int32)), .val (.int (1 : Int32)), .val (.ref w_SHA_256)] [(.int (1 : Int32)), (.ref c165)])) rfl rfl (hb hby d11_21) _ ?_
    show Steps p.tables e below (T169.setTop (mkF m 22 #[.val .null, .val .null, .val (.ref c165), .val (.int (2 : Int32)), .val (.int (1 : Int32)), .val (.ref w_SHA_256)] [(.ref w_MD5)])) _
    refine XS.astore X169.here hx rfl (hb hby d11_22) rfl rfl (l' := #[.val .null, .val .null, .val (.ref c165), .val (.int (2 : Int32)), .val (.int (1 : Int32)), .val (.ref w_MD5)]) rfl ?_
    show Steps p.tables e below (T169.setTop (mkF m 24 #[.val .null, .val .null, .val (.ref c165), .val (.int (2 : Int32)), .val (.int (1 : Int32)), .val (.ref w_MD5)] [])) _
    refine XS.aload X169.here hx rfl (hb hby d11_24) rfl rfl ?_
    show Steps p.tables e below (T169.setTop (mkF m 26 #[.val .null, .val .null, .val (.ref c165), .val (.int (2 : Int32)), .val (.int (1 : Int32)), .val (.ref w_MD5)] [(.ref w_MD5)])) _
    refine st171 _ ?_
    show Steps p.tables e below (T171.setTop (mkF m 29 #[.val .null, .val .null, .val (.ref c165), .val (.int (2 : Int32)), .val (.int (1 : Int32)), .val (.ref w_MD5)] [(.ref x_MD5)])) _
    refine XS.aloadN X171.here hx rfl (hb hby d11_29) rfl rfl ?_
    show Steps p.tables e below (T171.setTop (mkF m 30 #[.val .null, .val .null, .val (.ref c165), .val (.int (2 : Int32)), .val (.int (1 : Int32)), .val (.ref w_MD5)] [.null, (.ref x_MD5)])) _
    refine st172.trans ?_
    exact k
  refine own_go (A' := (T172.setTop (mkF m 39 #[.val .null, .val .null, .val (.ref c165), .val (.int (2 : Int32)), .val (.int (1 : Int32)), .val (.ref w_MD5)] []))) (fun t k => XS.ifYes X172.here hx rfl (pc0 := 33) (pc' := 39) rfl (hb hby d11_33) rfl ((if0 _ _).trans (teq (by decide : (0 : Int32) = (0 : Int32))).1) (by decide) (by decide) k) ?_
  refine own_go (A' := (T172.setTop (mkF m 15 #[.val .null, .val .null, .val (.ref c165), .val (.int (2 : Int32)), .val (.int (2 : Int32)), .val (.ref w_MD5)] [(.int (2 : Int32)), (.int (2 : Int32))]))) (fun t k => ?_) ?_
  · show Steps p.tables e below (T172.setTop (mkF m 39 #[.val .null, .val .null, .val (.ref c165), .val (.int (2 : Int32)), .val (.int (1 : Int32)), .val (.ref w_MD5)] [])) _
    refine XS.iinc X172.here hx rfl (hb hby d11_39) rfl (l' := #[.val .null, .val .null, .val (.ref c165), .val (.int (2 : Int32)), .val (.int (2 : Int32)), .val (.ref w_MD5)]) rfl ?_
    show Steps p.tables e below (T172.setTop (mkF m 42 #[.val .null, .val .null, .val (.ref c165), .val (.int (2 : Int32)), .val (.int (2 : Int32)), .val (.ref w_MD5)] [])) _
    refine XS.goto X172.here hx rfl (pc0 := 42) (pc' := 12) rfl (hb hby d11_42) (by decide) (by decide) ?_
    show Steps p.tables e below (T172.setTop (mkF m 12 #[.val .null, .val .null, .val (.ref c165), .val (.int (2 : Int32)), .val (.int (2 : Int32)), .val (.ref w_MD5)] [])) _
    refine XS.iload X172.here hx rfl (hb hby d11_12) rfl ?_
    show Steps p.tables e below (T172.setTop (mkF m 14 #[.val .null, .val .null, .val (.ref c165), .val (.int (2 : Int32)), .val (.int (2 : Int32)), .val (.ref w_MD5)] [(.int (2 : Int32))])) _
    refine XS.iloadN X172.here hx rfl (hb hby d11_14) rfl ?_
    exact k
  refine own_go (A' := (T172.setTop (mkF m 45 #[.val .null, .val .null, .val (.ref c165), .val (.int (2 : Int32)), .val (.int (2 : Int32)), .val (.ref w_MD5)] []))) (fun t k => XS.icmpYes X172.here hx rfl (pc0 := 15) (pc' := 45) rfl (hb hby d11_15) rfl (flt (by decide : ¬ ((2 : Int32) < (2 : Int32)))).2.1 (by decide) (by decide) k) ?_
  refine own_go (A' := (T172.setTop (mkF m 46 #[.val .null, .val .null, .val (.ref c165), .val (.int (2 : Int32)), .val (.int (2 : Int32)), .val (.ref w_MD5)] [.null]))) (fun t k => ?_) ?_
  · show Steps p.tables e below (T172.setTop (mkF m 45 #[.val .null, .val .null, .val (.ref c165), .val (.int (2 : Int32)), .val (.int (2 : Int32)), .val (.ref w_MD5)] [])) _
    refine XS.aloadN X172.here hx rfl (hb hby d11_45) rfl rfl ?_
    exact k
  obtain ⟨fs, hr, hrun, hended, hW, hsame⟩ := X172.leave (v := some .null) (fun h => by rw [Bd.returns] at h; cases h) hlk
  refine ⟨_, _, ?_, hrun, hended, _, _, rfl, ?_, ⟨_, rfl⟩, hW, hsame.mono (by decide) (by decide)⟩
  · show Steps p.tables e below (T172.setTop (mkF m 46 #[.val .null, .val .null, .val (.ref c165), .val (.int (2 : Int32)), .val (.int (2 : Int32)), .val (.ref w_MD5)] [.null])) _
    exact own_retV X172 hx Bd.returns rfl rfl (hb hby d11_46) hr
  · show Q11n Z w_SHA_256 w_MD5 x_SHA_256 x_MD5 w_V clV zCS h0 n0 _ T172.heap _
    rw [e172]
    exact ⟨rfl, N172, K165⟩
theorem d11_36 : decode prog_62_method_5_code 36 = .ok (.aload 5, 2) := by decide +kernel
theorem d11_38 : decode prog_62_method_5_code 38 = .ok (.astore_n 1, 1) := by decide +kernel
theorem ef_11 (m : MethodId) (r0 : Addr) : entryFrame m #[(.ref r0)] 6 = mkF m 0 #[.val (.ref r0), .unset, .unset, .unset, .unset, .unset] [] := by first | (simp [entryFrame, mkF, argsToLocals, Value.category]; done) | rfl
def Q11 (Z : State) (r0 : Addr) (w_SHA_256 : Addr) (w_MD5 : Addr) (x_SHA_256 : Addr) (x_MD5 : Addr) (w_V : Addr) (clV : Cell) (zCS : Int32) (cs : List Int32) (h0 : Heap) (n0 : Nat) (v : Option Value) (h : Heap) (L : List Loc) : Prop := v = some (nmV w_SHA_256 w_MD5 cs) ∧ Fr n0 L ∧ Keep h0 h []
set_option maxRecDepth 65536 in
set_option maxHeartbeats 40000000 in
theorem rm11 (l : Launch) (Z : State) (a0 : Array Value) (hw : ∀ d ∈ tables_1, d.before a0 Z = true) (ws : List Jvm.Cond) (r0 : Addr) (w_SHA_256 : Addr) (w_MD5 : Addr) (x_SHA_256 : Addr) (x_MD5 : Addr) (w_V : Addr) (clV : Cell) (zCS : Int32) (cs : List Int32) (h0 : Heap) (n0 : Nat) (Z0 : n0 ≤ h0.size) (S_V : Sta Z h0 "com/example/lading/lading/packaging/ChecksumAlgorithm" "$VALUES" "[Lcom/example/lading/lading/packaging/ChecksumAlgorithm;" (.ref w_V)) (Ar_V : Arr Z h0 w_V clV (.object "com/example/lading/lading/packaging/ChecksumAlgorithm")) (E_V : Exa Z h0 w_V "[Lcom/example/lading/lading/packaging/ChecksumAlgorithm;") (Ft_V : FitC Z clV) (L_V : clV.slots.size = 2) (V_0 : clV.slots[0]? = some (.ref w_SHA_256)) (V_1 : clV.slots[1]? = some (.ref w_MD5)) (M_SHA_256 : Fld Z h0 w_SHA_256 "com/example/lading/lading/packaging/ChecksumAlgorithm" "manifestName" "Ljava/lang/String;" (.ref x_SHA_256)) (M_MD5 : Fld Z h0 w_MD5 "com/example/lading/lading/packaging/ChecksumAlgorithm" "manifestName" "Ljava/lang/String;" (.ref x_MD5)) (X_SHA_256 : SF Z h0 x_SHA_256 sha) (X_MD5 : SF Z h0 x_MD5 md5) (S_CS : Sta Z h0 "java/lang/String" "COMPACT_STRINGS" "Z" (.int zCS)) (hCS : ¬ zCS = 0) (X_r0 : SF Z h0 r0 cs) :
    MetFree l (⟨"com/example/lading/lading/packaging/ChecksumAlgorithm", "named", "(Ljava/lang/String;)Lcom/example/lading/lading/packaging/ChecksumAlgorithm;"⟩ : MethodName) (head1 (Jvm.Cond.code (⟨"com/example/lading/lading/packaging/ChecksumAlgorithm", "named", "(Ljava/lang/String;)Lcom/example/lading/lading/packaging/ChecksumAlgorithm;"⟩ : MethodName) prog_62_method_5_code 6 (some (.object "com/example/lading/lading/packaging/ChecksumAlgorithm")) :: ws) ({ frames := 2, cells := 1, slots := 2, locals := 28 } : Room)) (fun a U => a = #[(.ref r0)] ∧ Z.Warmed39 U.vm ∧ U.heap = h0) (fun _ _ _ _ _ => True) (fun _ U o U' => ∃ v L, o = .returned v ∧ Q11 Z r0 w_SHA_256 w_MD5 x_SHA_256 x_MD5 w_V clV zCS cs h0 n0 v U'.heap L ∧ FrameEnd U o U' L ({ frames := 2, cells := 1, slots := 2, locals := 28 } : Room).cells ({ frames := 2, cells := 1, slots := 2, locals := 28 } : Room).slots) := by
  refine MetFree.of_bodySF (plainFor_of_name pn_11) hisR ?_
  intro p e s m args below meth c s₁ Bd hml0 hP hK
  obtain ⟨rfl, hZ, hh⟩ := hP
  have hx := Bd.exec
  have hlk : meth.locks = false := BodyLoose.notSynchronized Bd
  have hby := Bd.bytes
  have hml : c.maxLocals = 6 := hml0
  have hown : s.vm.findClass "com/example/lading/lading/packaging/ChecksumAlgorithm" = some m.cls := findClass_of_methodNamed Bd.named
  have hnm := (name_of_methodNamed Bd.named Bd.method).1
  have X0 : Stand p l e ({ frames := 2, cells := 1, slots := 2, locals := 28 } : Room) s m #[(.ref r0)] below meth c s₁ [] 0 0 := Stand.of_body Bd
  have e0 : s₁.heap = h0 := by rw [← hh, Bd.state]; rfl
  have N0 := Fr.nil n0
  refine own_go (A' := (s₁.setTop (mkF m 0 #[.val (.ref r0), .unset, .unset, .unset, .unset, .unset] []))) (fun t k => castTop (ef_11 m r0) k) ?_
  obtain ⟨_, _, ⟨T173, L173, k173, n173⟩, -, X173, ⟨Lc173, hQ173, l173, y173, z173⟩, st173⟩ := Jvm.LawKit.callS X0 hx (y := (⟨"com/example/lading/lading/packaging/ChecksumAlgorithm", "values", "()[Lcom/example/lading/lading/packaging/ChecksumAlgorithm;"⟩ : MethodName)) hown (mvT hZ (hw _ (List.mem_of_getElem? (i := 56) rfl))) (mvT hZ (hw _ (List.mem_of_getElem? (i := 57) rfl))) (mvT hZ (hw _ (List.mem_of_getElem? (i := 51) rfl))) (mvT hZ (hw _ (List.mem_of_getElem? (i := 58) rfl))) (by decide) (backOf (W := 0) (rm12 l Z a0 hw []  w_SHA_256 w_MD5 w_V clV h0 n0 Z0 S_V Ar_V E_V Ft_V L_V V_0 V_1) hZ (hw _ (List.mem_of_getElem? (i := 58) rfl)) (hw _ (List.mem_of_getElem? (i := 51) rfl)) (by decide) (by decide)) (g := (mkF m 2 #[.val (.ref r0), .val .null, .unset, .unset, .unset, .unset] [])) rfl (by rw [hml]; rfl) (argsL := []) (rest := []) (lenOf pd_2 rfl) rfl (by show 2 * 0 + _ ≤ _; exact Nat.le_of_eq rfl) (hb hby d11_2) (fun _ _ => ⟨rfl, e0, (by decide : 0 + 1 ≤ _), (by decide : 0 + 2 ≤ _)⟩)
  dsimp only [Pt.U, Pt.locs, Pt.cells, Pt.slots] at X173 l173 y173 z173 st173 hQ173
  subst l173 y173 z173
  obtain ⟨c173, kv173, rfl, N173q, K173q, A173q⟩ := hQ173
  have N173 := Fr.app N0 N173q
  have K173 : Keep h0 T173.heap [] := (Keep.refl h0 []).trans K173q all0
  have B173 : Ext h0 T173.heap := own_keep_ext K173
  obtain ⟨cl174, Ar174, q174, S174, N174, H174, G174⟩ := id A173q
  refine own_go (A' := (T173.setTop (mkF m 15 #[.val (.ref r0), .val .null, .val (.ref c173), .val (.int (2 : Int32)), .val (.int (0 : Int32)), .unset] [(.int (2 : Int32)), (.int (0 : Int32))]))) (fun t k => ?_) ?_
  · show Steps p.tables e below (s₁.setTop (mkF m 0 #[.val (.ref r0), .unset, .unset, .unset, .unset, .unset] [])) _
    refine XS.aconstNull X0.here hx rfl (hb hby d11_0) ?_
    show Steps p.tables e below (s₁.setTop (mkF m 1 #[.val (.ref r0), .unset, .unset, .unset, .unset, .unset] [.null])) _
    refine XS.astoreN X0.here hx rfl (hb hby d11_1) rfl rfl (l' := #[.val (.ref r0), .val .null, .unset, .unset, .unset, .unset]) rfl ?_
    show Steps p.tables e below (s₁.setTop (mkF m 2 #[.val (.ref r0), .val .null, .unset, .unset, .unset, .unset] [])) _
    refine st173 _ ?_
    show Steps p.tables e below (T173.setTop (mkF m 5 #[.val (.ref r0), .val .null, .unset, .unset, .unset, .unset] [(.ref c173)])) _
    refine XS.astoreN X173.here hx rfl (hb hby d11_5) rfl rfl (l' := #[.val (.ref r0), .val .null, .val (.ref c173), .unset, .unset, .unset]) rfl ?_
    show Steps p.tables e below (T173.setTop (mkF m 6 #[.val (.ref r0), .val .null, .val (.ref c173), .unset, .unset, .unset] [])) _
    refine XS.aloadN X173.here hx rfl (hb hby d11_6) rfl rfl ?_
    show Steps p.tables e below (T173.setTop (mkF m 7 #[.val (.ref r0), .val .null, .val (.ref c173), .unset, .unset, .unset] [(.ref c173)])) _
    refine X173.arraylength hx Ar174.1 (State.isArrayOf_alike hZ.alike Ar174.2.1) (g := (mkF m 7 #[.val (.ref r0), .val .null, .val (.ref c173), .unset, .unset, .unset] [(.ref c173)])) rfl rfl (hb hby d11_7) _ ?_
    rw [len_of S174 N174]
    show Steps p.tables e below (T173.setTop (mkF m 8 #[.val (.ref r0), .val .null, .val (.ref c173), .unset, .unset, .unset] [(.int (2 : Int32))])) _
    refine XS.istoreN X173.here hx rfl (hb hby d11_8) rfl (l' := #[.val (.ref r0), .val .null, .val (.ref c173), .val (.int (2 : Int32)), .unset, .unset]) rfl ?_
    show Steps p.tables e below (T173.setTop (mkF m 9 #[.val (.ref r0), .val .null, .val (.ref c173), .val (.int (2 : Int32)), .unset, .unset] [])) _
    refine XS.iconst X173.here hx rfl (hb hby d11_9) ?_
    show Steps p.tables e below (T173.setTop (mkF m 10 #[.val (.ref r0), .val .null, .val (.ref c173), .val (.int (2 : Int32)), .unset, .unset] [(.int (0 : Int32))])) _
    refine XS.istore X173.here hx rfl (hb hby d11_10) rfl (l' := #[.val (.ref r0), .val .null, .val (.ref c173), .val (.int (2 : Int32)), .val (.int (0 : Int32)), .unset]) rfl ?_
    show Steps p.tables e below (T173.setTop (mkF m 12 #[.val (.ref r0), .val .null, .val (.ref c173), .val (.int (2 : Int32)), .val (.int (0 : Int32)), .unset] [])) _
    refine XS.iload X173.here hx rfl (hb hby d11_12) rfl ?_
    show Steps p.tables e below (T173.setTop (mkF m 14 #[.val (.ref r0), .val .null, .val (.ref c173), .val (.int (2 : Int32)), .val (.int (0 : Int32)), .unset] [(.int (0 : Int32))])) _
    refine XS.iloadN X173.here hx rfl (hb hby d11_14) rfl ?_
    exact k
  refine own_go (A' := (T173.setTop (mkF m 18 #[.val (.ref r0), .val .null, .val (.ref c173), .val (.int (2 : Int32)), .val (.int (0 : Int32)), .unset] []))) (fun t k => XS.icmpNo X173.here hx rfl (hb hby d11_15) rfl (tlt (by decide : (0 : Int32) < (2 : Int32))).2.1 k) ?_
  obtain ⟨cl175, Ar175, q175, S175, N175, H175, G175⟩ := id A173q
  have hin175 : ¬ ((0 : Int32) < 0 ∨ cl175.slots.size ≤ ((0 : Int32)).toNatClampNeg) := inb_of S175 ⟨by decide, by decide⟩
  have hat175 : cl175.slots[((0 : Int32)).toNatClampNeg]? = some (.ref w_SHA_256) := (H175 _ (Nat.lt_of_not_le fun q => hin175 (Or.inr q))).trans rfl
  obtain ⟨T176, X176, e176, st176⟩ := getF X173 hx hZ hown (host := "") (Or.inl (hw _ (List.mem_of_getElem? (i := 72) rfl))) Via.refl rfl (M_SHA_256.ext B173) (g := (mkF m 26 #[.val (.ref r0), .val .null, .val (.ref c173), .val (.int (2 : Int32)), .val (.int (0 : Int32)), .val (.ref w_SHA_256)] [(.ref w_SHA_256)])) rfl rfl (hb hby d11_26)
  obtain ⟨cq177, kq177, q177a, q177b, q177c⟩ := isOf hZ e176 (X_SHA_256.ext B173).1
  obtain ⟨_, _, ⟨T177, L177, k177, n177⟩, -, X177, ⟨Lc177, hQ177, l177, y177, z177⟩, st177⟩ := X176.virtualBack hx (y := (⟨"java/lang/String", "equals", "(Ljava/lang/Object;)Z"⟩ : MethodName)) (z := (⟨"java/lang/String", "equals", "(Ljava/lang/Object;)Z"⟩ : MethodName)) hown (mvT hZ (hw _ (List.mem_of_getElem? (i := 74) rfl))) (mvT hZ (hw _ (List.mem_of_getElem? (i := 41) rfl))) (notFace_of_selects (args := #[]) (mvT hZ (hw _ (List.mem_of_getElem? (i := 43) rfl)))) (mvT hZ (hw _ (List.mem_of_getElem? (i := 43) rfl))) (mvT hZ (hw _ (List.mem_of_getElem? (i := 42) rfl))) (by decide) (own_eqB (W := 0) hZ hw (X_SHA_256.ext B173) (X_r0.ext B173) (S_CS.ext B173) hCS (by decide) (by decide)) q177a q177c (g := (mkF m 30 #[.val (.ref r0), .val .null, .val (.ref c173), .val (.int (2 : Int32)), .val (.int (0 : Int32)), .val (.ref w_SHA_256)] [(.ref r0), (.ref x_SHA_256)])) rfl (by rw [hml]; rfl) (Steps.refl _) (argsL := [(.ref r0)]) (rest := []) (lenOf pd_3 rfl) rfl (by show 2 * 0 + _ ≤ _; exact Nat.le_of_eq rfl) (hb hby d11_30) (fun _ _ => ⟨rfl, e176, (by decide : 1 + 0 ≤ _), (by decide : 2 + 0 ≤ _)⟩)
  dsimp only [Pt.U, Pt.locs, Pt.cells, Pt.slots] at X177 l177 y177 z177 st177 hQ177
  subst l177 y177 z177
  obtain ⟨ho177, rfl, e177⟩ := hQ177
  obtain rfl := own_eqI ho177
  have N177 := Fr.app N173 (Fr.nil n0)
  refine own_go (A' := (T177.setTop (mkF m 33 #[.val (.ref r0), .val .null, .val (.ref c173), .val (.int (2 : Int32)), .val (.int (0 : Int32)), .val (.ref w_SHA_256)] [(.int (eqI sha cs))]))) (fun t k => ?_) ?_
  · show Steps p.tables e below (T173.setTop (mkF m 18 #[.val (.ref r0), .val .null, .val (.ref c173), .val (.int (2 : Int32)), .val (.int (0 : Int32)), .unset] [])) _
    refine XS.aloadN X173.here hx rfl (hb hby d11_18) rfl rfl ?_
    show Steps p.tables e below (T173.setTop (mkF m 19 #[.val (.ref r0), .val .null, .val (.ref c173), .val (.int (2 : Int32)), .val (.int (0 : Int32)), .unset] [(.ref c173)])) _
    refine XS.iload X173.here hx rfl (hb hby d11_19) rfl ?_
    show Steps p.tables e below (T173.setTop (mkF m 21 #[.val (.ref r0), .val .null, .val (.ref c173), .val (.int (2 : Int32)), .val (.int (0 : Int32)), .unset] [(.int (0 : Int32)), (.ref c173)])) _
    refine X173.aaload hx (j := (0 : Int32)) (v := (.ref w_SHA_256)) Ar175.1 (State.isArrayOf_alike hZ.alike Ar175.2.1) rfl Ar175.2.2 hin175 hat175 (g := (mkF m 21 #[.val (.ref r0), .val .null, .val (.ref c173), .val (.int (2 : Int32)), .val (.int (0 : Int32)), .unset] [(.int (0 : Int32)), (.ref c173)])) rfl rfl (hb hby d11_21) _ ?_
    show Steps p.tables e below (T173.setTop (mkF m 22 #[.val (.ref r0), .val .null, .val (.ref c173), .val (.int (2 : Int32)), .val (.int (0 : Int32)), .unset] [(.ref w_SHA_256)])) _
    refine XS.astore X173.here hx rfl (hb hby d11_22) rfl rfl (l' := #[.val (.ref r0), .val .null, .val (.ref c173), .val (.int (2 : Int32)), .val (.int (0 : Int32)), .val (.ref w_SHA_256)]) rfl ?_
    show Steps p.tables e below (T173.setTop (mkF m 24 #[.val (.ref r0), .val .null, .val (.ref c173), .val (.int (2 : Int32)), .val (.int (0 : Int32)), .val (.ref w_SHA_256)] [])) _
    refine XS.aload X173.here hx rfl (hb hby d11_24) rfl rfl ?_
    show Steps p.tables e below (T173.setTop (mkF m 26 #[.val (.ref r0), .val .null, .val (.ref c173), .val (.int (2 : Int32)), .val (.int (0 : Int32)), .val (.ref w_SHA_256)] [(.ref w_SHA_256)])) _
    refine st176 _ ?_
    show Steps p.tables e below (T176.setTop (mkF m 29 #[.val (.ref r0), .val .null, .val (.ref c173), .val (.int (2 : Int32)), .val (.int (0 : Int32)), .val (.ref w_SHA_256)] [(.ref x_SHA_256)])) _
    refine XS.aloadN X176.here hx rfl (hb hby d11_29) rfl rfl ?_
    show Steps p.tables e below (T176.setTop (mkF m 30 #[.val (.ref r0), .val .null, .val (.ref c173), .val (.int (2 : Int32)), .val (.int (0 : Int32)), .val (.ref w_SHA_256)] [(.ref r0), (.ref x_SHA_256)])) _
    refine st177.trans ?_
    exact k
  by_cases hc178 : (eqI sha cs) = (0 : Int32)
  · -- hc178: yes
    refine own_go (A' := (T177.setTop (mkF m 39 #[.val (.ref r0), .val .null, .val (.ref c173), .val (.int (2 : Int32)), .val (.int (0 : Int32)), .val (.ref w_SHA_256)] []))) (fun t k => XS.ifYes X177.here hx rfl (pc0 := 33) (pc' := 39) rfl (hb hby d11_33) rfl ((if0 _ _).trans (teq hc178).1) (by decide) (by decide) k) ?_
    refine own_go (A' := (T177.setTop (mkF m 15 #[.val (.ref r0), .val .null, .val (.ref c173), .val (.int (2 : Int32)), .val (.int (1 : Int32)), .val (.ref w_SHA_256)] [(.int (2 : Int32)), (.int (1 : Int32))]))) (fun t k => ?_) ?_
    · show Steps p.tables e below (T177.setTop (mkF m 39 #[.val (.ref r0), .val .null, .val (.ref c173), .val (.int (2 : Int32)), .val (.int (0 : Int32)), .val (.ref w_SHA_256)] [])) _
      refine XS.iinc X177.here hx rfl (hb hby d11_39) rfl (l' := #[.val (.ref r0), .val .null, .val (.ref c173), .val (.int (2 : Int32)), .val (.int (1 : Int32)), .val (.ref w_SHA_256)]) rfl ?_
      show Steps p.tables e below (T177.setTop (mkF m 42 #[.val (.ref r0), .val .null, .val (.ref c173), .val (.int (2 : Int32)), .val (.int (1 : Int32)), .val (.ref w_SHA_256)] [])) _
      refine XS.goto X177.here hx rfl (pc0 := 42) (pc' := 12) rfl (hb hby d11_42) (by decide) (by decide) ?_
      show Steps p.tables e below (T177.setTop (mkF m 12 #[.val (.ref r0), .val .null, .val (.ref c173), .val (.int (2 : Int32)), .val (.int (1 : Int32)), .val (.ref w_SHA_256)] [])) _
      refine XS.iload X177.here hx rfl (hb hby d11_12) rfl ?_
      show Steps p.tables e below (T177.setTop (mkF m 14 #[.val (.ref r0), .val .null, .val (.ref c173), .val (.int (2 : Int32)), .val (.int (1 : Int32)), .val (.ref w_SHA_256)] [(.int (1 : Int32))])) _
      refine XS.iloadN X177.here hx rfl (hb hby d11_14) rfl ?_
      exact k
    refine own_go (A' := (T177.setTop (mkF m 18 #[.val (.ref r0), .val .null, .val (.ref c173), .val (.int (2 : Int32)), .val (.int (1 : Int32)), .val (.ref w_SHA_256)] []))) (fun t k => XS.icmpNo X177.here hx rfl (hb hby d11_15) rfl (tlt (by decide : (1 : Int32) < (2 : Int32))).2.1 k) ?_
    obtain ⟨cl179, Ar179, q179, S179, N179, H179, G179⟩ := id A173q
    have hin179 : ¬ ((1 : Int32) < 0 ∨ cl179.slots.size ≤ ((1 : Int32)).toNatClampNeg) := inb_of S179 ⟨by decide, by decide⟩
    have hat179 : cl179.slots[((1 : Int32)).toNatClampNeg]? = some (.ref w_MD5) := (H179 _ (Nat.lt_of_not_le fun q => hin179 (Or.inr q))).trans rfl
    obtain ⟨T180, X180, e180, st180⟩ := getF X177 hx hZ hown (host := "") (Or.inl (hw _ (List.mem_of_getElem? (i := 72) rfl))) Via.refl e177 (M_MD5.ext B173) (g := (mkF m 26 #[.val (.ref r0), .val .null, .val (.ref c173), .val (.int (2 : Int32)), .val (.int (1 : Int32)), .val (.ref w_MD5)] [(.ref w_MD5)])) rfl rfl (hb hby d11_26)
    obtain ⟨cq181, kq181, q181a, q181b, q181c⟩ := isOf hZ e180 (X_MD5.ext B173).1
    obtain ⟨_, _, ⟨T181, L181, k181, n181⟩, -, X181, ⟨Lc181, hQ181, l181, y181, z181⟩, st181⟩ := X180.virtualBack hx (y := (⟨"java/lang/String", "equals", "(Ljava/lang/Object;)Z"⟩ : MethodName)) (z := (⟨"java/lang/String", "equals", "(Ljava/lang/Object;)Z"⟩ : MethodName)) hown (mvT hZ (hw _ (List.mem_of_getElem? (i := 74) rfl))) (mvT hZ (hw _ (List.mem_of_getElem? (i := 41) rfl))) (notFace_of_selects (args := #[]) (mvT hZ (hw _ (List.mem_of_getElem? (i := 43) rfl)))) (mvT hZ (hw _ (List.mem_of_getElem? (i := 43) rfl))) (mvT hZ (hw _ (List.mem_of_getElem? (i := 42) rfl))) (by decide) (own_eqB (W := 0) hZ hw (X_MD5.ext B173) (X_r0.ext B173) (S_CS.ext B173) hCS (by decide) (by decide)) q181a q181c (g := (mkF m 30 #[.val (.ref r0), .val .null, .val (.ref c173), .val (.int (2 : Int32)), .val (.int (1 : Int32)), .val (.ref w_MD5)] [(.ref r0), (.ref x_MD5)])) rfl (by rw [hml]; rfl) (Steps.refl _) (argsL := [(.ref r0)]) (rest := []) (lenOf pd_3 rfl) rfl (by show 2 * 0 + _ ≤ _; exact Nat.le_of_eq rfl) (hb hby d11_30) (fun _ _ => ⟨rfl, e180, (by decide : 1 + 0 ≤ _), (by decide : 2 + 0 ≤ _)⟩)
    dsimp only [Pt.U, Pt.locs, Pt.cells, Pt.slots] at X181 l181 y181 z181 st181 hQ181
    subst l181 y181 z181
    obtain ⟨ho181, rfl, e181⟩ := hQ181
    obtain rfl := own_eqI ho181
    have N181 := Fr.app N177 (Fr.nil n0)
    refine own_go (A' := (T181.setTop (mkF m 33 #[.val (.ref r0), .val .null, .val (.ref c173), .val (.int (2 : Int32)), .val (.int (1 : Int32)), .val (.ref w_MD5)] [(.int (eqI md5 cs))]))) (fun t k => ?_) ?_
    · show Steps p.tables e below (T177.setTop (mkF m 18 #[.val (.ref r0), .val .null, .val (.ref c173), .val (.int (2 : Int32)), .val (.int (1 : Int32)), .val (.ref w_SHA_256)] [])) _
      refine XS.aloadN X177.here hx rfl (hb hby d11_18) rfl rfl ?_
      show Steps p.tables e below (T177.setTop (mkF m 19 #[.val (.ref r0), .val .null, .val (.ref c173), .val (.int (2 : Int32)), .val (.int (1 : Int32)), .val (.ref w_SHA_256)] [(.ref c173)])) _
      refine XS.iload X177.here hx rfl (hb hby d11_19) rfl ?_
      show Steps p.tables e below (T177.setTop (mkF m 21 #[.val (.ref r0), .val .null, .val (.ref c173), .val (.int (2 : Int32)), .val (.int (1 : Int32)), .val (.ref w_SHA_256)] [(.int (1 : Int32)), (.ref c173)])) _
      refine X177.aaload hx (j := (1 : Int32)) (v := (.ref w_MD5)) (by rw [e177]; exact Ar179.1) (State.isArrayOf_alike hZ.alike Ar179.2.1) rfl Ar179.2.2 hin179 hat179 (g := (mkF m 21 #[.val (.ref r0), .val .null, .val (.ref c173), .val (.int (2 : Int32)), .val (.int (1 : Int32)), .val (.ref w_SHA_256)] [(.int (1 : Int32)), (.ref c173)])) rfl rfl (hb hby d11_21) _ ?_
      show Steps p.tables e below (T177.setTop (mkF m 22 #[.val (.ref r0), .val .null, .val (.ref c173), .val (.int (2 : Int32)), .val (.int (1 : Int32)), .val (.ref w_SHA_256)] [(.ref w_MD5)])) _
      refine XS.astore X177.here hx rfl (hb hby d11_22) rfl rfl (l' := #[.val (.ref r0), .val .null, .val (.ref c173), .val (.int (2 : Int32)), .val (.int (1 : Int32)), .val (.ref w_MD5)]) rfl ?_
      show Steps p.tables e below (T177.setTop (mkF m 24 #[.val (.ref r0), .val .null, .val (.ref c173), .val (.int (2 : Int32)), .val (.int (1 : Int32)), .val (.ref w_MD5)] [])) _
      refine XS.aload X177.here hx rfl (hb hby d11_24) rfl rfl ?_
      show Steps p.tables e below (T177.setTop (mkF m 26 #[.val (.ref r0), .val .null, .val (.ref c173), .val (.int (2 : Int32)), .val (.int (1 : Int32)), .val (.ref w_MD5)] [(.ref w_MD5)])) _
      refine st180 _ ?_
      show Steps p.tables e below (T180.setTop (mkF m 29 #[.val (.ref r0), .val .null, .val (.ref c173), .val (.int (2 : Int32)), .val (.int (1 : Int32)), .val (.ref w_MD5)] [(.ref x_MD5)])) _
      refine XS.aloadN X180.here hx rfl (hb hby d11_29) rfl rfl ?_
      show Steps p.tables e below (T180.setTop (mkF m 30 #[.val (.ref r0), .val .null, .val (.ref c173), .val (.int (2 : Int32)), .val (.int (1 : Int32)), .val (.ref w_MD5)] [(.ref r0), (.ref x_MD5)])) _
      refine st181.trans ?_
      exact k
    by_cases hc182 : (eqI md5 cs) = (0 : Int32)
    · -- hc182: yes
      refine own_go (A' := (T181.setTop (mkF m 39 #[.val (.ref r0), .val .null, .val (.ref c173), .val (.int (2 : Int32)), .val (.int (1 : Int32)), .val (.ref w_MD5)] []))) (fun t k => XS.ifYes X181.here hx rfl (pc0 := 33) (pc' := 39) rfl (hb hby d11_33) rfl ((if0 _ _).trans (teq hc182).1) (by decide) (by decide) k) ?_
      refine own_go (A' := (T181.setTop (mkF m 15 #[.val (.ref r0), .val .null, .val (.ref c173), .val (.int (2 : Int32)), .val (.int (2 : Int32)), .val (.ref w_MD5)] [(.int (2 : Int32)), (.int (2 : Int32))]))) (fun t k => ?_) ?_
      · show Steps p.tables e below (T181.setTop (mkF m 39 #[.val (.ref r0), .val .null, .val (.ref c173), .val (.int (2 : Int32)), .val (.int (1 : Int32)), .val (.ref w_MD5)] [])) _
        refine XS.iinc X181.here hx rfl (hb hby d11_39) rfl (l' := #[.val (.ref r0), .val .null, .val (.ref c173), .val (.int (2 : Int32)), .val (.int (2 : Int32)), .val (.ref w_MD5)]) rfl ?_
        show Steps p.tables e below (T181.setTop (mkF m 42 #[.val (.ref r0), .val .null, .val (.ref c173), .val (.int (2 : Int32)), .val (.int (2 : Int32)), .val (.ref w_MD5)] [])) _
        refine XS.goto X181.here hx rfl (pc0 := 42) (pc' := 12) rfl (hb hby d11_42) (by decide) (by decide) ?_
        show Steps p.tables e below (T181.setTop (mkF m 12 #[.val (.ref r0), .val .null, .val (.ref c173), .val (.int (2 : Int32)), .val (.int (2 : Int32)), .val (.ref w_MD5)] [])) _
        refine XS.iload X181.here hx rfl (hb hby d11_12) rfl ?_
        show Steps p.tables e below (T181.setTop (mkF m 14 #[.val (.ref r0), .val .null, .val (.ref c173), .val (.int (2 : Int32)), .val (.int (2 : Int32)), .val (.ref w_MD5)] [(.int (2 : Int32))])) _
        refine XS.iloadN X181.here hx rfl (hb hby d11_14) rfl ?_
        exact k
      refine own_go (A' := (T181.setTop (mkF m 45 #[.val (.ref r0), .val .null, .val (.ref c173), .val (.int (2 : Int32)), .val (.int (2 : Int32)), .val (.ref w_MD5)] []))) (fun t k => XS.icmpYes X181.here hx rfl (pc0 := 15) (pc' := 45) rfl (hb hby d11_15) rfl (flt (by decide : ¬ ((2 : Int32) < (2 : Int32)))).2.1 (by decide) (by decide) k) ?_
      refine own_go (A' := (T181.setTop (mkF m 46 #[.val (.ref r0), .val .null, .val (.ref c173), .val (.int (2 : Int32)), .val (.int (2 : Int32)), .val (.ref w_MD5)] [.null]))) (fun t k => ?_) ?_
      · show Steps p.tables e below (T181.setTop (mkF m 45 #[.val (.ref r0), .val .null, .val (.ref c173), .val (.int (2 : Int32)), .val (.int (2 : Int32)), .val (.ref w_MD5)] [])) _
        refine XS.aloadN X181.here hx rfl (hb hby d11_45) rfl rfl ?_
        exact k
      obtain ⟨fs, hr, hrun, hended, hW, hsame⟩ := X181.leave (v := some .null) (fun h => by rw [Bd.returns] at h; cases h) hlk
      refine ⟨_, _, ?_, hrun, hended, _, _, rfl, ?_, ⟨_, rfl⟩, hW, hsame.mono (by decide) (by decide)⟩
      · show Steps p.tables e below (T181.setTop (mkF m 46 #[.val (.ref r0), .val .null, .val (.ref c173), .val (.int (2 : Int32)), .val (.int (2 : Int32)), .val (.ref w_MD5)] [.null])) _
        exact own_retV X181 hx Bd.returns rfl rfl (hb hby d11_46) hr
      · show Q11 Z r0 w_SHA_256 w_MD5 x_SHA_256 x_MD5 w_V clV zCS cs h0 n0 _ T181.heap _
        rw [e181]
        exact ⟨(by rw [nmV, if_pos hc182, if_pos hc178]), N181, K173⟩
    · -- hc182: no
      refine own_go (A' := (T181.setTop (mkF m 36 #[.val (.ref r0), .val .null, .val (.ref c173), .val (.int (2 : Int32)), .val (.int (1 : Int32)), .val (.ref w_MD5)] []))) (fun t k => XS.ifNo X181.here hx rfl (hb hby d11_33) rfl ((if0 _ _).trans (feq hc182).1) k) ?_
      refine own_go (A' := (T181.setTop (mkF m 15 #[.val (.ref r0), .val (.ref w_MD5), .val (.ref c173), .val (.int (2 : Int32)), .val (.int (2 : Int32)), .val (.ref w_MD5)] [(.int (2 : Int32)), (.int (2 : Int32))]))) (fun t k => ?_) ?_
      · show Steps p.tables e below (T181.setTop (mkF m 36 #[.val (.ref r0), .val .null, .val (.ref c173), .val (.int (2 : Int32)), .val (.int (1 : Int32)), .val (.ref w_MD5)] [])) _
        refine XS.aload X181.here hx rfl (hb hby d11_36) rfl rfl ?_
        show Steps p.tables e below (T181.setTop (mkF m 38 #[.val (.ref r0), .val .null, .val (.ref c173), .val (.int (2 : Int32)), .val (.int (1 : Int32)), .val (.ref w_MD5)] [(.ref w_MD5)])) _
        refine XS.astoreN X181.here hx rfl (hb hby d11_38) rfl rfl (l' := #[.val (.ref r0), .val (.ref w_MD5), .val (.ref c173), .val (.int (2 : Int32)), .val (.int (1 : Int32)), .val (.ref w_MD5)]) rfl ?_
        show Steps p.tables e below (T181.setTop (mkF m 39 #[.val (.ref r0), .val (.ref w_MD5), .val (.ref c173), .val (.int (2 : Int32)), .val (.int (1 : Int32)), .val (.ref w_MD5)] [])) _
        refine XS.iinc X181.here hx rfl (hb hby d11_39) rfl (l' := #[.val (.ref r0), .val (.ref w_MD5), .val (.ref c173), .val (.int (2 : Int32)), .val (.int (2 : Int32)), .val (.ref w_MD5)]) rfl ?_
        show Steps p.tables e below (T181.setTop (mkF m 42 #[.val (.ref r0), .val (.ref w_MD5), .val (.ref c173), .val (.int (2 : Int32)), .val (.int (2 : Int32)), .val (.ref w_MD5)] [])) _
        refine XS.goto X181.here hx rfl (pc0 := 42) (pc' := 12) rfl (hb hby d11_42) (by decide) (by decide) ?_
        show Steps p.tables e below (T181.setTop (mkF m 12 #[.val (.ref r0), .val (.ref w_MD5), .val (.ref c173), .val (.int (2 : Int32)), .val (.int (2 : Int32)), .val (.ref w_MD5)] [])) _
        refine XS.iload X181.here hx rfl (hb hby d11_12) rfl ?_
        show Steps p.tables e below (T181.setTop (mkF m 14 #[.val (.ref r0), .val (.ref w_MD5), .val (.ref c173), .val (.int (2 : Int32)), .val (.int (2 : Int32)), .val (.ref w_MD5)] [(.int (2 : Int32))])) _
        refine XS.iloadN X181.here hx rfl (hb hby d11_14) rfl ?_
        exact k
      refine own_go (A' := (T181.setTop (mkF m 45 #[.val (.ref r0), .val (.ref w_MD5), .val (.ref c173), .val (.int (2 : Int32)), .val (.int (2 : Int32)), .val (.ref w_MD5)] []))) (fun t k => XS.icmpYes X181.here hx rfl (pc0 := 15) (pc' := 45) rfl (hb hby d11_15) rfl (flt (by decide : ¬ ((2 : Int32) < (2 : Int32)))).2.1 (by decide) (by decide) k) ?_
      refine own_go (A' := (T181.setTop (mkF m 46 #[.val (.ref r0), .val (.ref w_MD5), .val (.ref c173), .val (.int (2 : Int32)), .val (.int (2 : Int32)), .val (.ref w_MD5)] [(.ref w_MD5)]))) (fun t k => ?_) ?_
      · show Steps p.tables e below (T181.setTop (mkF m 45 #[.val (.ref r0), .val (.ref w_MD5), .val (.ref c173), .val (.int (2 : Int32)), .val (.int (2 : Int32)), .val (.ref w_MD5)] [])) _
        refine XS.aloadN X181.here hx rfl (hb hby d11_45) rfl rfl ?_
        exact k
      obtain ⟨fs, hr, hrun, hended, hW, hsame⟩ := X181.leave (v := some (.ref w_MD5)) (fun h => by rw [Bd.returns] at h; cases h) hlk
      refine ⟨_, _, ?_, hrun, hended, _, _, rfl, ?_, ⟨_, rfl⟩, hW, hsame.mono (by decide) (by decide)⟩
      · show Steps p.tables e below (T181.setTop (mkF m 46 #[.val (.ref r0), .val (.ref w_MD5), .val (.ref c173), .val (.int (2 : Int32)), .val (.int (2 : Int32)), .val (.ref w_MD5)] [(.ref w_MD5)])) _
        exact own_retV X181 hx Bd.returns rfl rfl (hb hby d11_46) hr
      · show Q11 Z r0 w_SHA_256 w_MD5 x_SHA_256 x_MD5 w_V clV zCS cs h0 n0 _ T181.heap _
        rw [e181]
        exact ⟨(by rw [nmV, if_neg hc182]), N181, K173⟩
  · -- hc178: no
    refine own_go (A' := (T177.setTop (mkF m 36 #[.val (.ref r0), .val .null, .val (.ref c173), .val (.int (2 : Int32)), .val (.int (0 : Int32)), .val (.ref w_SHA_256)] []))) (fun t k => XS.ifNo X177.here hx rfl (hb hby d11_33) rfl ((if0 _ _).trans (feq hc178).1) k) ?_
    refine own_go (A' := (T177.setTop (mkF m 15 #[.val (.ref r0), .val (.ref w_SHA_256), .val (.ref c173), .val (.int (2 : Int32)), .val (.int (1 : Int32)), .val (.ref w_SHA_256)] [(.int (2 : Int32)), (.int (1 : Int32))]))) (fun t k => ?_) ?_
    · show Steps p.tables e below (T177.setTop (mkF m 36 #[.val (.ref r0), .val .null, .val (.ref c173), .val (.int (2 : Int32)), .val (.int (0 : Int32)), .val (.ref w_SHA_256)] [])) _
      refine XS.aload X177.here hx rfl (hb hby d11_36) rfl rfl ?_
      show Steps p.tables e below (T177.setTop (mkF m 38 #[.val (.ref r0), .val .null, .val (.ref c173), .val (.int (2 : Int32)), .val (.int (0 : Int32)), .val (.ref w_SHA_256)] [(.ref w_SHA_256)])) _
      refine XS.astoreN X177.here hx rfl (hb hby d11_38) rfl rfl (l' := #[.val (.ref r0), .val (.ref w_SHA_256), .val (.ref c173), .val (.int (2 : Int32)), .val (.int (0 : Int32)), .val (.ref w_SHA_256)]) rfl ?_
      show Steps p.tables e below (T177.setTop (mkF m 39 #[.val (.ref r0), .val (.ref w_SHA_256), .val (.ref c173), .val (.int (2 : Int32)), .val (.int (0 : Int32)), .val (.ref w_SHA_256)] [])) _
      refine XS.iinc X177.here hx rfl (hb hby d11_39) rfl (l' := #[.val (.ref r0), .val (.ref w_SHA_256), .val (.ref c173), .val (.int (2 : Int32)), .val (.int (1 : Int32)), .val (.ref w_SHA_256)]) rfl ?_
      show Steps p.tables e below (T177.setTop (mkF m 42 #[.val (.ref r0), .val (.ref w_SHA_256), .val (.ref c173), .val (.int (2 : Int32)), .val (.int (1 : Int32)), .val (.ref w_SHA_256)] [])) _
      refine XS.goto X177.here hx rfl (pc0 := 42) (pc' := 12) rfl (hb hby d11_42) (by decide) (by decide) ?_
      show Steps p.tables e below (T177.setTop (mkF m 12 #[.val (.ref r0), .val (.ref w_SHA_256), .val (.ref c173), .val (.int (2 : Int32)), .val (.int (1 : Int32)), .val (.ref w_SHA_256)] [])) _
      refine XS.iload X177.here hx rfl (hb hby d11_12) rfl ?_
      show Steps p.tables e below (T177.setTop (mkF m 14 #[.val (.ref r0), .val (.ref w_SHA_256), .val (.ref c173), .val (.int (2 : Int32)), .val (.int (1 : Int32)), .val (.ref w_SHA_256)] [(.int (1 : Int32))])) _
      refine XS.iloadN X177.here hx rfl (hb hby d11_14) rfl ?_
      exact k
    refine own_go (A' := (T177.setTop (mkF m 18 #[.val (.ref r0), .val (.ref w_SHA_256), .val (.ref c173), .val (.int (2 : Int32)), .val (.int (1 : Int32)), .val (.ref w_SHA_256)] []))) (fun t k => XS.icmpNo X177.here hx rfl (hb hby d11_15) rfl (tlt (by decide : (1 : Int32) < (2 : Int32))).2.1 k) ?_
    obtain ⟨cl183, Ar183, q183, S183, N183, H183, G183⟩ := id A173q
    have hin183 : ¬ ((1 : Int32) < 0 ∨ cl183.slots.size ≤ ((1 : Int32)).toNatClampNeg) := inb_of S183 ⟨by decide, by decide⟩
    have hat183 : cl183.slots[((1 : Int32)).toNatClampNeg]? = some (.ref w_MD5) := (H183 _ (Nat.lt_of_not_le fun q => hin183 (Or.inr q))).trans rfl
    obtain ⟨T184, X184, e184, st184⟩ := getF X177 hx hZ hown (host := "") (Or.inl (hw _ (List.mem_of_getElem? (i := 72) rfl))) Via.refl e177 (M_MD5.ext B173) (g := (mkF m 26 #[.val (.ref r0), .val (.ref w_SHA_256), .val (.ref c173), .val (.int (2 : Int32)), .val (.int (1 : Int32)), .val (.ref w_MD5)] [(.ref w_MD5)])) rfl rfl (hb hby d11_26)
    obtain ⟨cq185, kq185, q185a, q185b, q185c⟩ := isOf hZ e184 (X_MD5.ext B173).1
    obtain ⟨_, _, ⟨T185, L185, k185, n185⟩, -, X185, ⟨Lc185, hQ185, l185, y185, z185⟩, st185⟩ := X184.virtualBack hx (y := (⟨"java/lang/String", "equals", "(Ljava/lang/Object;)Z"⟩ : MethodName)) (z := (⟨"java/lang/String", "equals", "(Ljava/lang/Object;)Z"⟩ : MethodName)) hown (mvT hZ (hw _ (List.mem_of_getElem? (i := 74) rfl))) (mvT hZ (hw _ (List.mem_of_getElem? (i := 41) rfl))) (notFace_of_selects (args := #[]) (mvT hZ (hw _ (List.mem_of_getElem? (i := 43) rfl)))) (mvT hZ (hw _ (List.mem_of_getElem? (i := 43) rfl))) (mvT hZ (hw _ (List.mem_of_getElem? (i := 42) rfl))) (by decide) (own_eqB (W := 0) hZ hw (X_MD5.ext B173) (X_r0.ext B173) (S_CS.ext B173) hCS (by decide) (by decide)) q185a q185c (g := (mkF m 30 #[.val (.ref r0), .val (.ref w_SHA_256), .val (.ref c173), .val (.int (2 : Int32)), .val (.int (1 : Int32)), .val (.ref w_MD5)] [(.ref r0), (.ref x_MD5)])) rfl (by rw [hml]; rfl) (Steps.refl _) (argsL := [(.ref r0)]) (rest := []) (lenOf pd_3 rfl) rfl (by show 2 * 0 + _ ≤ _; exact Nat.le_of_eq rfl) (hb hby d11_30) (fun _ _ => ⟨rfl, e184, (by decide : 1 + 0 ≤ _), (by decide : 2 + 0 ≤ _)⟩)
    dsimp only [Pt.U, Pt.locs, Pt.cells, Pt.slots] at X185 l185 y185 z185 st185 hQ185
    subst l185 y185 z185
    obtain ⟨ho185, rfl, e185⟩ := hQ185
    obtain rfl := own_eqI ho185
    have N185 := Fr.app N177 (Fr.nil n0)
    refine own_go (A' := (T185.setTop (mkF m 33 #[.val (.ref r0), .val (.ref w_SHA_256), .val (.ref c173), .val (.int (2 : Int32)), .val (.int (1 : Int32)), .val (.ref w_MD5)] [(.int (eqI md5 cs))]))) (fun t k => ?_) ?_
    · show Steps p.tables e below (T177.setTop (mkF m 18 #[.val (.ref r0), .val (.ref w_SHA_256), .val (.ref c173), .val (.int (2 : Int32)), .val (.int (1 : Int32)), .val (.ref w_SHA_256)] [])) _
      refine XS.aloadN X177.here hx rfl (hb hby d11_18) rfl rfl ?_
      show Steps p.tables e below (T177.setTop (mkF m 19 #[.val (.ref r0), .val (.ref w_SHA_256), .val (.ref c173), .val (.int (2 : Int32)), .val (.int (1 : Int32)), .val (.ref w_SHA_256)] [(.ref c173)])) _
      refine XS.iload X177.here hx rfl (hb hby d11_19) rfl ?_
      show Steps p.tables e below (T177.setTop (mkF m 21 #[.val (.ref r0), .val (.ref w_SHA_256), .val (.ref c173), .val (.int (2 : Int32)), .val (.int (1 : Int32)), .val (.ref w_SHA_256)] [(.int (1 : Int32)), (.ref c173)])) _
      refine X177.aaload hx (j := (1 : Int32)) (v := (.ref w_MD5)) (by rw [e177]; exact Ar183.1) (State.isArrayOf_alike hZ.alike Ar183.2.1) rfl Ar183.2.2 hin183 hat183 (g := (mkF m 21 #[.val (.ref r0), .val (.ref w_SHA_256), .val (.ref c173), .val (.int (2 : Int32)), .val (.int (1 : Int32)), .val (.ref w_SHA_256)] [(.int (1 : Int32)), (.ref c173)])) rfl rfl (hb hby d11_21) _ ?_
      show Steps p.tables e below (T177.setTop (mkF m 22 #[.val (.ref r0), .val (.ref w_SHA_256), .val (.ref c173), .val (.int (2 : Int32)), .val (.int (1 : Int32)), .val (.ref w_SHA_256)] [(.ref w_MD5)])) _
      refine XS.astore X177.here hx rfl (hb hby d11_22) rfl rfl (l' := #[.val (.ref r0), .val (.ref w_SHA_256), .val (.ref c173), .val (.int (2 : Int32)), .val (.int (1 : Int32)), .val (.ref w_MD5)]) rfl ?_
      show Steps p.tables e below (T177.setTop (mkF m 24 #[.val (.ref r0), .val (.ref w_SHA_256), .val (.ref c173), .val (.int (2 : Int32)), .val (.int (1 : Int32)), .val (.ref w_MD5)] [])) _
      refine XS.aload X177.here hx rfl (hb hby d11_24) rfl rfl ?_
      show Steps p.tables e below (T177.setTop (mkF m 26 #[.val (.ref r0), .val (.ref w_SHA_256), .val (.ref c173), .val (.int (2 : Int32)), .val (.int (1 : Int32)), .val (.ref w_MD5)] [(.ref w_MD5)])) _
      refine st184 _ ?_
      show Steps p.tables e below (T184.setTop (mkF m 29 #[.val (.ref r0), .val (.ref w_SHA_256), .val (.ref c173), .val (.int (2 : Int32)), .val (.int (1 : Int32)), .val (.ref w_MD5)] [(.ref x_MD5)])) _
      refine XS.aloadN X184.here hx rfl (hb hby d11_29) rfl rfl ?_
      show Steps p.tables e below (T184.setTop (mkF m 30 #[.val (.ref r0), .val (.ref w_SHA_256), .val (.ref c173), .val (.int (2 : Int32)), .val (.int (1 : Int32)), .val (.ref w_MD5)] [(.ref r0), (.ref x_MD5)])) _
      refine st185.trans ?_
      exact k
    by_cases hc186 : (eqI md5 cs) = (0 : Int32)
    · -- hc186: yes
      refine own_go (A' := (T185.setTop (mkF m 39 #[.val (.ref r0), .val (.ref w_SHA_256), .val (.ref c173), .val (.int (2 : Int32)), .val (.int (1 : Int32)), .val (.ref w_MD5)] []))) (fun t k => XS.ifYes X185.here hx rfl (pc0 := 33) (pc' := 39) rfl (hb hby d11_33) rfl ((if0 _ _).trans (teq hc186).1) (by decide) (by decide) k) ?_
      refine own_go (A' := (T185.setTop (mkF m 15 #[.val (.ref r0), .val (.ref w_SHA_256), .val (.ref c173), .val (.int (2 : Int32)), .val (.int (2 : Int32)), .val (.ref w_MD5)] [(.int (2 : Int32)), (.int (2 : Int32))]))) (fun t k => ?_) ?_
      · show Steps p.tables e below (T185.setTop (mkF m 39 #[.val (.ref r0), .val (.ref w_SHA_256), .val (.ref c173), .val (.int (2 : Int32)), .val (.int (1 : Int32)), .val (.ref w_MD5)] [])) _
        refine XS.iinc X185.here hx rfl (hb hby d11_39) rfl (l' := #[.val (.ref r0), .val (.ref w_SHA_256), .val (.ref c173), .val (.int (2 : Int32)), .val (.int (2 : Int32)), .val (.ref w_MD5)]) rfl ?_
        show Steps p.tables e below (T185.setTop (mkF m 42 #[.val (.ref r0), .val (.ref w_SHA_256), .val (.ref c173), .val (.int (2 : Int32)), .val (.int (2 : Int32)), .val (.ref w_MD5)] [])) _
        refine XS.goto X185.here hx rfl (pc0 := 42) (pc' := 12) rfl (hb hby d11_42) (by decide) (by decide) ?_
        show Steps p.tables e below (T185.setTop (mkF m 12 #[.val (.ref r0), .val (.ref w_SHA_256), .val (.ref c173), .val (.int (2 : Int32)), .val (.int (2 : Int32)), .val (.ref w_MD5)] [])) _
        refine XS.iload X185.here hx rfl (hb hby d11_12) rfl ?_
        show Steps p.tables e below (T185.setTop (mkF m 14 #[.val (.ref r0), .val (.ref w_SHA_256), .val (.ref c173), .val (.int (2 : Int32)), .val (.int (2 : Int32)), .val (.ref w_MD5)] [(.int (2 : Int32))])) _
        refine XS.iloadN X185.here hx rfl (hb hby d11_14) rfl ?_
        exact k
      refine own_go (A' := (T185.setTop (mkF m 45 #[.val (.ref r0), .val (.ref w_SHA_256), .val (.ref c173), .val (.int (2 : Int32)), .val (.int (2 : Int32)), .val (.ref w_MD5)] []))) (fun t k => XS.icmpYes X185.here hx rfl (pc0 := 15) (pc' := 45) rfl (hb hby d11_15) rfl (flt (by decide : ¬ ((2 : Int32) < (2 : Int32)))).2.1 (by decide) (by decide) k) ?_
      refine own_go (A' := (T185.setTop (mkF m 46 #[.val (.ref r0), .val (.ref w_SHA_256), .val (.ref c173), .val (.int (2 : Int32)), .val (.int (2 : Int32)), .val (.ref w_MD5)] [(.ref w_SHA_256)]))) (fun t k => ?_) ?_
      · show Steps p.tables e below (T185.setTop (mkF m 45 #[.val (.ref r0), .val (.ref w_SHA_256), .val (.ref c173), .val (.int (2 : Int32)), .val (.int (2 : Int32)), .val (.ref w_MD5)] [])) _
        refine XS.aloadN X185.here hx rfl (hb hby d11_45) rfl rfl ?_
        exact k
      obtain ⟨fs, hr, hrun, hended, hW, hsame⟩ := X185.leave (v := some (.ref w_SHA_256)) (fun h => by rw [Bd.returns] at h; cases h) hlk
      refine ⟨_, _, ?_, hrun, hended, _, _, rfl, ?_, ⟨_, rfl⟩, hW, hsame.mono (by decide) (by decide)⟩
      · show Steps p.tables e below (T185.setTop (mkF m 46 #[.val (.ref r0), .val (.ref w_SHA_256), .val (.ref c173), .val (.int (2 : Int32)), .val (.int (2 : Int32)), .val (.ref w_MD5)] [(.ref w_SHA_256)])) _
        exact own_retV X185 hx Bd.returns rfl rfl (hb hby d11_46) hr
      · show Q11 Z r0 w_SHA_256 w_MD5 x_SHA_256 x_MD5 w_V clV zCS cs h0 n0 _ T185.heap _
        rw [e185]
        exact ⟨(by rw [nmV, if_pos hc186, if_neg hc178]), N185, K173⟩
    · -- hc186: no
      refine own_go (A' := (T185.setTop (mkF m 36 #[.val (.ref r0), .val (.ref w_SHA_256), .val (.ref c173), .val (.int (2 : Int32)), .val (.int (1 : Int32)), .val (.ref w_MD5)] []))) (fun t k => XS.ifNo X185.here hx rfl (hb hby d11_33) rfl ((if0 _ _).trans (feq hc186).1) k) ?_
      refine own_go (A' := (T185.setTop (mkF m 15 #[.val (.ref r0), .val (.ref w_MD5), .val (.ref c173), .val (.int (2 : Int32)), .val (.int (2 : Int32)), .val (.ref w_MD5)] [(.int (2 : Int32)), (.int (2 : Int32))]))) (fun t k => ?_) ?_
      · show Steps p.tables e below (T185.setTop (mkF m 36 #[.val (.ref r0), .val (.ref w_SHA_256), .val (.ref c173), .val (.int (2 : Int32)), .val (.int (1 : Int32)), .val (.ref w_MD5)] [])) _
        refine XS.aload X185.here hx rfl (hb hby d11_36) rfl rfl ?_
        show Steps p.tables e below (T185.setTop (mkF m 38 #[.val (.ref r0), .val (.ref w_SHA_256), .val (.ref c173), .val (.int (2 : Int32)), .val (.int (1 : Int32)), .val (.ref w_MD5)] [(.ref w_MD5)])) _
        refine XS.astoreN X185.here hx rfl (hb hby d11_38) rfl rfl (l' := #[.val (.ref r0), .val (.ref w_MD5), .val (.ref c173), .val (.int (2 : Int32)), .val (.int (1 : Int32)), .val (.ref w_MD5)]) rfl ?_
        show Steps p.tables e below (T185.setTop (mkF m 39 #[.val (.ref r0), .val (.ref w_MD5), .val (.ref c173), .val (.int (2 : Int32)), .val (.int (1 : Int32)), .val (.ref w_MD5)] [])) _
        refine XS.iinc X185.here hx rfl (hb hby d11_39) rfl (l' := #[.val (.ref r0), .val (.ref w_MD5), .val (.ref c173), .val (.int (2 : Int32)), .val (.int (2 : Int32)), .val (.ref w_MD5)]) rfl ?_
        show Steps p.tables e below (T185.setTop (mkF m 42 #[.val (.ref r0), .val (.ref w_MD5), .val (.ref c173), .val (.int (2 : Int32)), .val (.int (2 : Int32)), .val (.ref w_MD5)] [])) _
        refine XS.goto X185.here hx rfl (pc0 := 42) (pc' := 12) rfl (hb hby d11_42) (by decide) (by decide) ?_
        show Steps p.tables e below (T185.setTop (mkF m 12 #[.val (.ref r0), .val (.ref w_MD5), .val (.ref c173), .val (.int (2 : Int32)), .val (.int (2 : Int32)), .val (.ref w_MD5)] [])) _
        refine XS.iload X185.here hx rfl (hb hby d11_12) rfl ?_
        show Steps p.tables e below (T185.setTop (mkF m 14 #[.val (.ref r0), .val (.ref w_MD5), .val (.ref c173), .val (.int (2 : Int32)), .val (.int (2 : Int32)), .val (.ref w_MD5)] [(.int (2 : Int32))])) _
        refine XS.iloadN X185.here hx rfl (hb hby d11_14) rfl ?_
        exact k
      refine own_go (A' := (T185.setTop (mkF m 45 #[.val (.ref r0), .val (.ref w_MD5), .val (.ref c173), .val (.int (2 : Int32)), .val (.int (2 : Int32)), .val (.ref w_MD5)] []))) (fun t k => XS.icmpYes X185.here hx rfl (pc0 := 15) (pc' := 45) rfl (hb hby d11_15) rfl (flt (by decide : ¬ ((2 : Int32) < (2 : Int32)))).2.1 (by decide) (by decide) k) ?_
      refine own_go (A' := (T185.setTop (mkF m 46 #[.val (.ref r0), .val (.ref w_MD5), .val (.ref c173), .val (.int (2 : Int32)), .val (.int (2 : Int32)), .val (.ref w_MD5)] [(.ref w_MD5)]))) (fun t k => ?_) ?_
      · show Steps p.tables e below (T185.setTop (mkF m 45 #[.val (.ref r0), .val (.ref w_MD5), .val (.ref c173), .val (.int (2 : Int32)), .val (.int (2 : Int32)), .val (.ref w_MD5)] [])) _
        refine XS.aloadN X185.here hx rfl (hb hby d11_45) rfl rfl ?_
        exact k
      obtain ⟨fs, hr, hrun, hended, hW, hsame⟩ := X185.leave (v := some (.ref w_MD5)) (fun h => by rw [Bd.returns] at h; cases h) hlk
      refine ⟨_, _, ?_, hrun, hended, _, _, rfl, ?_, ⟨_, rfl⟩, hW, hsame.mono (by decide) (by decide)⟩
      · show Steps p.tables e below (T185.setTop (mkF m 46 #[.val (.ref r0), .val (.ref w_MD5), .val (.ref c173), .val (.int (2 : Int32)), .val (.int (2 : Int32)), .val (.ref w_MD5)] [(.ref w_MD5)])) _
        exact own_retV X185 hx Bd.returns rfl rfl (hb hby d11_46) hr
      · show Q11 Z r0 w_SHA_256 w_MD5 x_SHA_256 x_MD5 w_V clV zCS cs h0 n0 _ T185.heap _
        rw [e185]
        exact ⟨(by rw [nmV, if_neg hc186]), N185, K173⟩
theorem own_nbool (cs ds : List Int32) : narrow .boolean (.int (eqI cs ds)) = .int (eqI cs ds) := by
  unfold eqI
  by_cases h : cs = ds
  · rw [if_pos h]; rfl
  · rw [if_neg h]; rfl
theorem own_nmA {w1 w2 : Addr} {cs : List Int32} (h : ¬ eqI cs sha = (0 : Int32)) : nmV w1 w2 cs = .ref w1 := by
  have q : cs = sha := Classical.not_not.mp fun z => h (own_eqI0.mpr z)
  subst q
  rw [nmV, if_pos (by decide), if_neg (by decide)]
theorem own_nmB {w1 w2 : Addr} {cs : List Int32} (h : ¬ eqI cs md5 = (0 : Int32)) : nmV w1 w2 cs = .ref w2 := by
  have q : cs = md5 := Classical.not_not.mp fun z => h (own_eqI0.mpr z)
  subst q
  rw [nmV, if_neg (by decide)]
theorem own_nmC {w1 w2 : Addr} {cs : List Int32} (h : eqI cs sha = (0 : Int32)) (h' : eqI cs md5 = (0 : Int32)) : nmV w1 w2 cs = .null := by
  rw [nmV, if_pos (own_eqI0.mpr fun q => own_eqI0.mp h' q.symm), if_pos (own_eqI0.mpr fun q => own_eqI0.mp h q.symm)]
theorem own_one {cs ds : List Int32} (h : ¬ eqI cs ds = (0 : Int32)) : eqI ds cs = 1 := by
  have q : cs = ds := Classical.not_not.mp fun z => h (own_eqI0.mpr z)
  rw [eqI, if_pos q.symm]
theorem own_SF {Z : State} {h : Heap} {x t : Addr} {kb : ClassId} {cs : List Int32} {vs : List Value} {z : Int32} (hv : (cs.map StrChars.lo8).map Value.int = vs) (hz : Int32.ofNat cs.length = z) (hp : ∀ c ∈ cs, ¬ c < 0 ∧ ¬ (255 : Int32) < c) (hl : cs.length ≤ 8) (E : Exa Z h x "java/lang/String") (C : Fld Z h x "java/lang/String" "coder" "B" (.int 0)) (V : Fld Z h x "java/lang/String" "value" "[B" (.ref t)) (A : Arv Z h t kb .byte z vs (.int 0)) : SF Z h x cs := by
  subst hv hz
  exact ⟨E, C, hp, hl, t, kb, V, A⟩
theorem own_in8 (x : Int32) : ¬ ((x &&& (2147483647 : Int32)) % (8 : Int32)) < 0 ∧ ((x &&& (2147483647 : Int32)) % (8 : Int32)) < (8 : Int32) := by
  have h := c_mask x 2147483647 31 (by decide) (by decide)
  have g := (c_irem (x &&& (2147483647 : Int32)) 8 8 (by decide)).1 (by omega)
  have e0 : (0 : Int32).toInt = 0 := by decide
  have e1 : (8 : Int32).toInt = 8 := by decide
  rw [Int32.lt_iff_toInt_lt, Int32.lt_iff_toInt_lt, e0, e1, g]
  omega
theorem own_set8 {c0 c1 c2 c3 c4 c5 c6 c7 v : Int32} (i : Nat) (hi : i < 8) (g0 : rg c0) (g1 : rg c1) (g2 : rg c2) (g3 : rg c3) (g4 : rg c4) (g5 : rg c5) (g6 : rg c6) (g7 : rg c7) (gv : rg v) :
    ∃ d0 d1 d2 d3 d4 d5 d6 d7 : Int32, ([.int c0, .int c1, .int c2, .int c3, .int c4, .int c5, .int c6, .int c7] : List Value).set i (.int v) = [.int d0, .int d1, .int d2, .int d3, .int d4, .int d5, .int d6, .int d7] ∧ rg d0 ∧ rg d1 ∧ rg d2 ∧ rg d3 ∧ rg d4 ∧ rg d5 ∧ rg d6 ∧ rg d7 := by
  match i, hi with
  | 0, _ => exact ⟨v, c1, c2, c3, c4, c5, c6, c7, rfl, gv, g1, g2, g3, g4, g5, g6, g7⟩
  | 1, _ => exact ⟨c0, v, c2, c3, c4, c5, c6, c7, rfl, g0, gv, g2, g3, g4, g5, g6, g7⟩
  | 2, _ => exact ⟨c0, c1, v, c3, c4, c5, c6, c7, rfl, g0, g1, gv, g3, g4, g5, g6, g7⟩
  | 3, _ => exact ⟨c0, c1, c2, v, c4, c5, c6, c7, rfl, g0, g1, g2, gv, g4, g5, g6, g7⟩
  | 4, _ => exact ⟨c0, c1, c2, c3, v, c5, c6, c7, rfl, g0, g1, g2, g3, gv, g5, g6, g7⟩
  | 5, _ => exact ⟨c0, c1, c2, c3, c4, v, c6, c7, rfl, g0, g1, g2, g3, g4, gv, g6, g7⟩
  | 6, _ => exact ⟨c0, c1, c2, c3, c4, c5, v, c7, rfl, g0, g1, g2, g3, g4, g5, gv, g7⟩
  | 7, _ => exact ⟨c0, c1, c2, c3, c4, c5, c6, v, rfl, g0, g1, g2, g3, g4, g5, g6, gv⟩
def Q0 (Z : State) (p0 : Int32) (p1 : Int32) (p2 : Int32) (p3 : Int32) (p4 : Int32) (w_SHA_256 : Addr) (w_MD5 : Addr) (x_SHA_256 : Addr) (x_MD5 : Addr) (w_V : Addr) (clV : Cell) (zCS : Int32) (h0 : Heap) (n0 : Nat) (v : Option Value) (h : Heap) (L : List Loc) : Prop := v = some (.int (1 : Int32)) ∧ Fr n0 L
theorem pd_4 : parseMethodDescriptor "(Ljava/lang/String;)Lcom/example/lading/lading/packaging/ChecksumAlgorithm;" = some ⟨[(.object "java/lang/String")], some (.object "com/example/lading/lading/packaging/ChecksumAlgorithm")⟩ := by decide +kernel
theorem pd_5 : parseMethodDescriptor "([CI)Ljava/lang/String;" = some ⟨[(.array .char), .int], some (.object "java/lang/String")⟩ := by decide +kernel
theorem pd_6 : parseMethodDescriptor "()Ljava/lang/String;" = some ⟨[], some (.object "java/lang/String")⟩ := by decide +kernel
set_option maxRecDepth 65536 in
set_option maxHeartbeats 40000000 in
theorem tail226 (l : Launch) (Z : State) (a0 : Array Value) (hw : ∀ d ∈ tables_1, d.before a0 Z = true) (ws : List Jvm.Cond) (p0 : Int32) (p1 : Int32) (p2 : Int32) (p3 : Int32) (p4 : Int32) (w_SHA_256 : Addr) (w_MD5 : Addr) (x_SHA_256 : Addr) (x_MD5 : Addr) (w_V : Addr) (clV : Cell) (zCS : Int32) (h0 : Heap) (n0 : Nat) (Z0 : n0 ≤ h0.size) (S_V : Sta Z h0 "com/example/lading/lading/packaging/ChecksumAlgorithm" "$VALUES" "[Lcom/example/lading/lading/packaging/ChecksumAlgorithm;" (.ref w_V)) (Ar_V : Arr Z h0 w_V clV (.object "com/example/lading/lading/packaging/ChecksumAlgorithm")) (E_V : Exa Z h0 w_V "[Lcom/example/lading/lading/packaging/ChecksumAlgorithm;") (Ft_V : FitC Z clV) (L_V : clV.slots.size = 2) (V_0 : clV.slots[0]? = some (.ref w_SHA_256)) (V_1 : clV.slots[1]? = some (.ref w_MD5)) (M_SHA_256 : Fld Z h0 w_SHA_256 "com/example/lading/lading/packaging/ChecksumAlgorithm" "manifestName" "Ljava/lang/String;" (.ref x_SHA_256)) (M_MD5 : Fld Z h0 w_MD5 "com/example/lading/lading/packaging/ChecksumAlgorithm" "manifestName" "Ljava/lang/String;" (.ref x_MD5)) (X_SHA_256 : SF Z h0 x_SHA_256 sha) (X_MD5 : SF Z h0 x_MD5 md5) (S_CS : Sta Z h0 "java/lang/String" "COMPACT_STRINGS" "Z" (.int zCS)) (hCS : ¬ zCS = 0) (E_SHA_256 : Exa Z h0 w_SHA_256 "com/example/lading/lading/packaging/ChecksumAlgorithm") (E_MD5 : Exa Z h0 w_MD5 "com/example/lading/lading/packaging/ChecksumAlgorithm") (S_SHA_256 : Sta Z h0 "com/example/lading/lading/packaging/ChecksumAlgorithm" "SHA_256" "Lcom/example/lading/lading/packaging/ChecksumAlgorithm;" (.ref w_SHA_256)) (S_MD5 : Sta Z h0 "com/example/lading/lading/packaging/ChecksumAlgorithm" "MD5" "Lcom/example/lading/lading/packaging/ChecksumAlgorithm;" (.ref w_MD5)) {p : Program} {e : Env} {s : State} {m : MethodId} {below : List Frame} {meth : Method} {c : Code} {s₁ : State} (Bd : BodyLoose p l x (head1 (Jvm.Cond.code x code maxLocals ret :: ws) room_1) code maxLocals ret e s m #[(.int p0), (.int p1), (.int p2), (.int p3), (.int p4)] below meth c s₁) (hml0 : c.maxLocals = maxLocals) (hZ : Z.Warmed39 s.vm) (hh : s.heap = h0) (hC0 : CHv Z consts_1 s.vm h0)
    {Tt : State} {lt : List Loc} {Ht : Heap} (bA : Addr) (kC : ClassId) (c0 : Int32) (c1 : Int32) (c2 : Int32) (c3 : Int32) (c4 : Int32) (c5 : Int32) (c6 : Int32) (c7 : Int32) (pf : Int32) (pn : Int32) (Xt : Stand p l e room_1 (s.setVm s.vm) m #[(.int p0), (.int p1), (.int p2), (.int p3), (.int p4)] below meth c Tt lt 1 8) (et : Tt.heap = Ht) (Nt : Fr n0 lt) (Kt : Keep h0 Ht []) (Ct : CHr Z consts_1 s.vm h0 s.vm Ht) (Vt : Arv Z Ht bA kC .char (8 : Int32) [(.int c0), (.int c1), (.int c2), (.int c3), (.int c4), (.int c5), (.int c6), (.int c7)] (.int (0 : Int32))) (sz_bA : h0.size ≤ bA) (g0 : rg c0) (g1 : rg c1) (g2 : rg c2) (g3 : rg c3) (g4 : rg c4) (g5 : rg c5) (g6 : rg c6) (g7 : rg c7) :
    ∃ s₂ o, Steps p.tables e below (Tt.setTop (mkF m 226 #[.val (.int p0), .val (.int p1), .val (.int p2), .val (.int p3), .val (.int p4), .val (.int (p0 &&& (3 : Int32))), .val (.ref bA), .val (.int pf), .val (.int pn), .unset, .unset, .unset] [])) s₂ ∧ s₂.status = .running ∧ Ended s₂ below o ∧ ∃ v L, o = .returned v ∧ Q0 Z p0 p1 p2 p3 p4 w_SHA_256 w_MD5 x_SHA_256 x_MD5 w_V clV zCS h0 n0 v s₂.heap L ∧ CHr Z consts_1 s.vm s.heap s₂.vm s₂.heap ∧ ReturnedEndW s o s₂ L room_1.cells room_1.slots := by
  have hx := Bd.exec
  have hlk : meth.locks = false := BodyLoose.notSynchronized Bd
  have hby := Bd.bytes
  have hml : c.maxLocals = 12 := hml0
  have hown : s.vm.findClass "com/example/lading/lading/packaging/ChecksumAlgorithmNamedPinLaw" = some m.cls := findClass_of_methodNamed Bd.named
  have hnm := (name_of_methodNamed Bd.named Bd.method).1
  have hEL := own_EL hw
  have wS := own_wS hw
  have hS0 : s.Since s.vm h0.size := (State.WarmedH.refl s).since _
  have Bt := own_keep_ext Kt
  refine own_go (A' := (Tt.setTop (mkF m 229 #[.val (.int p0), .val (.int p1), .val (.int p2), .val (.int p3), .val (.int p4), .val (.int (p0 &&& (3 : Int32))), .val (.ref bA), .val (.int pf), .val (.int pn), .unset, .unset, .unset] [(.int (3 : Int32)), (.int (p0 &&& (3 : Int32)))]))) (fun t k => ?_) ?_
  · show Steps p.tables e below (Tt.setTop (mkF m 226 #[.val (.int p0), .val (.int p1), .val (.int p2), .val (.int p3), .val (.int p4), .val (.int (p0 &&& (3 : Int32))), .val (.ref bA), .val (.int pf), .val (.int pn), .unset, .unset, .unset] [])) _
    refine XS.iload Xt.here hx rfl (hb hby at_226) rfl ?_
    show Steps p.tables e below (Tt.setTop (mkF m 228 #[.val (.int p0), .val (.int p1), .val (.int p2), .val (.int p3), .val (.int p4), .val (.int (p0 &&& (3 : Int32))), .val (.ref bA), .val (.int pf), .val (.int pn), .unset, .unset, .unset] [(.int (p0 &&& (3 : Int32)))])) _
    refine XS.iconst Xt.here hx rfl (hb hby at_228) ?_
    exact k
  by_cases hc187 : (p0 &&& (3 : Int32)) = (3 : Int32)
  · -- hc187: yes
    refine own_go (A' := (Tt.setTop (mkF m 232 #[.val (.int p0), .val (.int p1), .val (.int p2), .val (.int p3), .val (.int p4), .val (.int (p0 &&& (3 : Int32))), .val (.ref bA), .val (.int pf), .val (.int pn), .unset, .unset, .unset] []))) (fun t k => XS.icmpNo Xt.here hx rfl (hb hby at_229) rfl (teq hc187).2 k) ?_
    refine own_go (A' := (Tt.setTop (mkF m 247 #[.val (.int p0), .val (.int p1), .val (.int p2), .val (.int p3), .val (.int p4), .val (.int (p0 &&& (3 : Int32))), .val (.ref bA), .val (.int pf), .val (.int pn), .val .null, .unset, .unset] [.null]))) (fun t k => ?_) ?_
    · show Steps p.tables e below (Tt.setTop (mkF m 232 #[.val (.int p0), .val (.int p1), .val (.int p2), .val (.int p3), .val (.int p4), .val (.int (p0 &&& (3 : Int32))), .val (.ref bA), .val (.int pf), .val (.int pn), .unset, .unset, .unset] [])) _
      refine XS.aconstNull Xt.here hx rfl (hb hby at_232) ?_
      show Steps p.tables e below (Tt.setTop (mkF m 233 #[.val (.int p0), .val (.int p1), .val (.int p2), .val (.int p3), .val (.int p4), .val (.int (p0 &&& (3 : Int32))), .val (.ref bA), .val (.int pf), .val (.int pn), .unset, .unset, .unset] [.null])) _
      refine XS.goto Xt.here hx rfl (pc0 := 233) (pc' := 243) rfl (hb hby at_233) (by decide) (by decide) ?_
      show Steps p.tables e below (Tt.setTop (mkF m 243 #[.val (.int p0), .val (.int p1), .val (.int p2), .val (.int p3), .val (.int p4), .val (.int (p0 &&& (3 : Int32))), .val (.ref bA), .val (.int pf), .val (.int pn), .unset, .unset, .unset] [.null])) _
      refine XS.astore Xt.here hx rfl (hb hby at_243) rfl rfl (l' := #[.val (.int p0), .val (.int p1), .val (.int p2), .val (.int p3), .val (.int p4), .val (.int (p0 &&& (3 : Int32))), .val (.ref bA), .val (.int pf), .val (.int pn), .val .null, .unset, .unset]) rfl ?_
      show Steps p.tables e below (Tt.setTop (mkF m 245 #[.val (.int p0), .val (.int p1), .val (.int p2), .val (.int p3), .val (.int p4), .val (.int (p0 &&& (3 : Int32))), .val (.ref bA), .val (.int pf), .val (.int pn), .val .null, .unset, .unset] [])) _
      refine XS.aload Xt.here hx rfl (hb hby at_245) rfl rfl ?_
      exact k
    refine own_go (A' := (Tt.setTop (mkF m 250 #[.val (.int p0), .val (.int p1), .val (.int p2), .val (.int p3), .val (.int p4), .val (.int (p0 &&& (3 : Int32))), .val (.ref bA), .val (.int pf), .val (.int pn), .val .null, .unset, .unset] []))) (fun t k => XS.ifnonnullNo Xt.here hx rfl (hb hby at_247) rfl k) ?_
    obtain ⟨_, _, ⟨T188, L188, k188, n188⟩, -, X188, ⟨Lc188, hQ188, l188, y188, z188⟩, st188⟩ := Jvm.LawKit.callS Xt hx (y := (⟨"com/example/lading/lading/packaging/ChecksumAlgorithm", "named", "(Ljava/lang/String;)Lcom/example/lading/lading/packaging/ChecksumAlgorithm;"⟩ : MethodName)) hown (mvT hZ (hw _ (List.mem_of_getElem? (i := 53) rfl))) (mvT hZ (hw _ (List.mem_of_getElem? (i := 54) rfl))) (mvT hZ (hw _ (List.mem_of_getElem? (i := 51) rfl))) (mvT hZ (hw _ (List.mem_of_getElem? (i := 55) rfl))) (by decide) (backOf (W := 0) (rm11n l Z a0 hw []  w_SHA_256 w_MD5 x_SHA_256 x_MD5 w_V clV zCS Ht n0 (Nat.le_trans Z0 Kt.1) (S_V.ext Bt) (Ar_V.ext Bt) (E_V.ext Bt) Ft_V L_V V_0 V_1 (M_SHA_256.ext Bt) (M_MD5.ext Bt) (X_SHA_256.ext Bt) (X_MD5.ext Bt) (S_CS.ext Bt) hCS) hZ (hw _ (List.mem_of_getElem? (i := 55) rfl)) (hw _ (List.mem_of_getElem? (i := 51) rfl)) (by decide) (by decide)) (g := (mkF m 297 #[.val (.int p0), .val (.int p1), .val (.int p2), .val (.int p3), .val (.int p4), .val (.int (p0 &&& (3 : Int32))), .val (.ref bA), .val (.int pf), .val (.int pn), .val .null, .val .null, .unset] [.null])) rfl (by rw [hml]; rfl) (argsL := [.null]) (rest := []) (lenOf pd_4 rfl) rfl (by show 2 * 0 + _ ≤ _; exact Nat.le_of_eq rfl) (hb hby at_297) (fun _ _ => ⟨rfl, et, (by decide : 1 + 1 ≤ _), (by decide : 8 + 2 ≤ _)⟩)
    dsimp only [Pt.U, Pt.locs, Pt.cells, Pt.slots] at X188 l188 y188 z188 st188 hQ188
    subst l188 y188 z188
    obtain ⟨hv188, N188q, K188q⟩ := hQ188
    obtain rfl := hv188
    have N188 := Fr.app Nt N188q
    have As188 : ∀ x ∈ ([] : List Addr), Safe Z consts_1 s.vm Ht x := all0
    have hk188 := Nat.le_trans Kt.1 K188q.1
    have Cx188 := Ct.trans (CHr.keep K188q As188 Ct.1)
    have K188 : Keep h0 T188.heap [] := Kt.trans K188q all0
    have B188 : Ext h0 T188.heap := own_keep_ext K188
    refine own_go (A' := (T188.setTop (mkF m 306 #[.val (.int p0), .val (.int p1), .val (.int p2), .val (.int p3), .val (.int p4), .val (.int (p0 &&& (3 : Int32))), .val (.ref bA), .val (.int pf), .val (.int pn), .val .null, .val .null, .val .null] [.null, .null]))) (fun t k => ?_) ?_
    · show Steps p.tables e below (Tt.setTop (mkF m 250 #[.val (.int p0), .val (.int p1), .val (.int p2), .val (.int p3), .val (.int p4), .val (.int (p0 &&& (3 : Int32))), .val (.ref bA), .val (.int pf), .val (.int pn), .val .null, .unset, .unset] [])) _
      refine XS.aconstNull Xt.here hx rfl (hb hby at_250) ?_
      show Steps p.tables e below (Tt.setTop (mkF m 251 #[.val (.int p0), .val (.int p1), .val (.int p2), .val (.int p3), .val (.int p4), .val (.int (p0 &&& (3 : Int32))), .val (.ref bA), .val (.int pf), .val (.int pn), .val .null, .unset, .unset] [.null])) _
      refine XS.astore Xt.here hx rfl (hb hby at_251) rfl rfl (l' := #[.val (.int p0), .val (.int p1), .val (.int p2), .val (.int p3), .val (.int p4), .val (.int (p0 &&& (3 : Int32))), .val (.ref bA), .val (.int pf), .val (.int pn), .val .null, .val .null, .unset]) rfl ?_
      show Steps p.tables e below (Tt.setTop (mkF m 253 #[.val (.int p0), .val (.int p1), .val (.int p2), .val (.int p3), .val (.int p4), .val (.int (p0 &&& (3 : Int32))), .val (.ref bA), .val (.int pf), .val (.int pn), .val .null, .val .null, .unset] [])) _
      refine XS.goto Xt.here hx rfl (pc0 := 253) (pc' := 295) rfl (hb hby at_253) (by decide) (by decide) ?_
      show Steps p.tables e below (Tt.setTop (mkF m 295 #[.val (.int p0), .val (.int p1), .val (.int p2), .val (.int p3), .val (.int p4), .val (.int (p0 &&& (3 : Int32))), .val (.ref bA), .val (.int pf), .val (.int pn), .val .null, .val .null, .unset] [])) _
      refine XS.aload Xt.here hx rfl (hb hby at_295) rfl rfl ?_
      show Steps p.tables e below (Tt.setTop (mkF m 297 #[.val (.int p0), .val (.int p1), .val (.int p2), .val (.int p3), .val (.int p4), .val (.int (p0 &&& (3 : Int32))), .val (.ref bA), .val (.int pf), .val (.int pn), .val .null, .val .null, .unset] [.null])) _
      refine st188 _ ?_
      show Steps p.tables e below (T188.setTop (mkF m 300 #[.val (.int p0), .val (.int p1), .val (.int p2), .val (.int p3), .val (.int p4), .val (.int (p0 &&& (3 : Int32))), .val (.ref bA), .val (.int pf), .val (.int pn), .val .null, .val .null, .unset] [.null])) _
      refine XS.astore X188.here hx rfl (hb hby at_300) rfl rfl (l' := #[.val (.int p0), .val (.int p1), .val (.int p2), .val (.int p3), .val (.int p4), .val (.int (p0 &&& (3 : Int32))), .val (.ref bA), .val (.int pf), .val (.int pn), .val .null, .val .null, .val .null]) rfl ?_
      show Steps p.tables e below (T188.setTop (mkF m 302 #[.val (.int p0), .val (.int p1), .val (.int p2), .val (.int p3), .val (.int p4), .val (.int (p0 &&& (3 : Int32))), .val (.ref bA), .val (.int pf), .val (.int pn), .val .null, .val .null, .val .null] [])) _
      refine XS.aload X188.here hx rfl (hb hby at_302) rfl rfl ?_
      show Steps p.tables e below (T188.setTop (mkF m 304 #[.val (.int p0), .val (.int p1), .val (.int p2), .val (.int p3), .val (.int p4), .val (.int (p0 &&& (3 : Int32))), .val (.ref bA), .val (.int pf), .val (.int pn), .val .null, .val .null, .val .null] [.null])) _
      refine XS.aload X188.here hx rfl (hb hby at_304) rfl rfl ?_
      exact k
    refine own_go (A' := (T188.setTop (mkF m 311 #[.val (.int p0), .val (.int p1), .val (.int p2), .val (.int p3), .val (.int p4), .val (.int (p0 &&& (3 : Int32))), .val (.ref bA), .val (.int pf), .val (.int pn), .val .null, .val .null, .val .null] []))) (fun t k => Jvm.RoadKit.acmp (g := (mkF m 306 #[.val (.int p0), .val (.int p1), .val (.int p2), .val (.int p3), .val (.int p4), .val (.int (p0 &&& (3 : Int32))), .val (.ref bA), .val (.int pf), .val (.int pn), .val .null, .val .null, .val .null] [.null, .null])) X188 hx rfl rfl rfl (pc0 := 306) (pc' := 311) (same := true) rfl (hb hby at_306) rfl (decide_eq_true rfl) (by decide) (by decide) k) ?_
    refine own_go (A' := (T188.setTop (mkF m 313 #[.val (.int p0), .val (.int p1), .val (.int p2), .val (.int p3), .val (.int p4), .val (.int (p0 &&& (3 : Int32))), .val (.ref bA), .val (.int pf), .val (.int pn), .val .null, .val .null, .val .null] [.null]))) (fun t k => ?_) ?_
    · show Steps p.tables e below (T188.setTop (mkF m 311 #[.val (.int p0), .val (.int p1), .val (.int p2), .val (.int p3), .val (.int p4), .val (.int (p0 &&& (3 : Int32))), .val (.ref bA), .val (.int pf), .val (.int pn), .val .null, .val .null, .val .null] [])) _
      refine XS.aload X188.here hx rfl (hb hby at_311) rfl rfl ?_
      exact k
    refine own_go (A' := (T188.setTop (mkF m 327 #[.val (.int p0), .val (.int p1), .val (.int p2), .val (.int p3), .val (.int p4), .val (.int (p0 &&& (3 : Int32))), .val (.ref bA), .val (.int pf), .val (.int pn), .val .null, .val .null, .val .null] []))) (fun t k => XS.ifnullYes X188.here hx rfl (pc0 := 313) (pc' := 327) rfl (hb hby at_313) rfl (by decide) (by decide) k) ?_
    refine own_go (A' := (T188.setTop (mkF m 328 #[.val (.int p0), .val (.int p1), .val (.int p2), .val (.int p3), .val (.int p4), .val (.int (p0 &&& (3 : Int32))), .val (.ref bA), .val (.int pf), .val (.int pn), .val .null, .val .null, .val .null] [(.int (1 : Int32))]))) (fun t k => ?_) ?_
    · show Steps p.tables e below (T188.setTop (mkF m 327 #[.val (.int p0), .val (.int p1), .val (.int p2), .val (.int p3), .val (.int p4), .val (.int (p0 &&& (3 : Int32))), .val (.ref bA), .val (.int pf), .val (.int pn), .val .null, .val .null, .val .null] [])) _
      refine XS.iconst X188.here hx rfl (hb hby at_327) ?_
      exact k
    obtain ⟨fs, hr, hrun, hended, hend⟩ := X188.leaveW (v := some (.int (1 : Int32))) hS0 hk188 (fun h => by rw [Bd.returns] at h; cases h) hlk
    refine ⟨_, _, ?_, hrun, hended, _, _, rfl, ?_, ?_, ⟨_, rfl⟩, hend.2.1, hend.2.2.1, hend.2.2.2.mono (by decide) (by decide)⟩
    · show Steps p.tables e below (T188.setTop (mkF m 328 #[.val (.int p0), .val (.int p1), .val (.int p2), .val (.int p3), .val (.int p4), .val (.int (p0 &&& (3 : Int32))), .val (.ref bA), .val (.int pf), .val (.int pn), .val .null, .val .null, .val .null] [(.int (1 : Int32))])) _
      exact retN X188 hx (t := .boolean) Bd.returns (by simp) (hb hby at_328) hr
    · show Q0 Z p0 p1 p2 p3 p4 w_SHA_256 w_MD5 x_SHA_256 x_MD5 w_V clV zCS h0 n0 _ T188.heap _
      exact ⟨rfl, N188⟩
    · show CHr Z consts_1 s.vm s.heap T188.vm T188.heap
      rw [hh]
      exact Cx188.trans (CHv.at X188 hZ hEL Cx188.1)
  · -- hc187: no
    refine own_go (A' := (Tt.setTop (mkF m 236 #[.val (.int p0), .val (.int p1), .val (.int p2), .val (.int p3), .val (.int p4), .val (.int (p0 &&& (3 : Int32))), .val (.ref bA), .val (.int pf), .val (.int pn), .unset, .unset, .unset] []))) (fun t k => XS.icmpYes Xt.here hx rfl (pc0 := 229) (pc' := 236) rfl (hb hby at_229) rfl (feq hc187).2 (by decide) (by decide) k) ?_
    obtain ⟨_, _, ⟨T189, L189, k189, n189⟩, -, Xs189, hSs189, gl189, ⟨Lc189, hQ189, l189, y189, z189, Cr189⟩, st189⟩ := Jvm.RoadKit.callSS Xt hx (y := (⟨"com/example/lading/lading/packaging/ChecksumAlgorithmNamedPinLaw", "str", "([CI)Ljava/lang/String;"⟩ : MethodName)) hown (mvT hZ (hw _ (List.mem_of_getElem? (i := 5) rfl))) (mvT hZ (hw _ (List.mem_of_getElem? (i := 6) rfl))) (mvT hZ (hw _ (List.mem_of_getElem? (i := 3) rfl))) (mvT hZ (hw _ (List.mem_of_getElem? (i := 7) rfl))) (by decide) (backOfSH (W := 0) (rm2 l Z a0 hw [] bA pn kC c0 c1 c2 c3 c4 c5 c6 c7 zCS Ht n0 (Nat.le_trans Z0 Kt.1) Vt g0 g1 g2 g3 g4 g5 g6 g7 (S_CS.ext Bt) hCS) hZ (hw _ (List.mem_of_getElem? (i := 7) rfl)) (hw _ (List.mem_of_getElem? (i := 3) rfl)) (by decide) (by decide) hEL Ct.1) (g := (mkF m 240 #[.val (.int p0), .val (.int p1), .val (.int p2), .val (.int p3), .val (.int p4), .val (.int (p0 &&& (3 : Int32))), .val (.ref bA), .val (.int pf), .val (.int pn), .unset, .unset, .unset] [(.int pn), (.ref bA)])) rfl (by rw [hml]; rfl) (argsL := [(.ref bA), (.int pn)]) (rest := []) (lenOf pd_5 rfl) rfl (by show 2 * 0 + _ ≤ _; exact Nat.le_of_eq rfl) (hb hby at_240) (fun _ _ => ⟨rfl, et, (by decide : 1 + 6 ≤ _), (by decide : 8 + 20 ≤ _)⟩)
    dsimp only [Pt.U, Pt.locs, Pt.cells, Pt.slots] at Xs189 hSs189 gl189 Cr189 l189 y189 z189 st189 hQ189
    subst l189 y189 z189
    obtain ⟨X189, hS189, hZ189, hown189⟩ := rebS (n1 := Tt.heap.size) hS0 (by rw [et]; exact Kt.1) Xs189 hSs189 gl189 hZ hown
    have hk189 : T189.heap.size ≤ T189.heap.size := Nat.le_refl _
    have Cx189 := Ct.trans Cr189
    obtain ⟨c189, cs189, rfl, N189q, K189q, F189q⟩ := hQ189
    have N189 := Fr.app Nt N189q
    have K189 : Keep h0 T189.heap [] := Kt.trans K189q all0
    have B189 : Ext h0 T189.heap := own_keep_ext K189
    refine own_go (A' := (T189.setTop (mkF m 247 #[.val (.int p0), .val (.int p1), .val (.int p2), .val (.int p3), .val (.int p4), .val (.int (p0 &&& (3 : Int32))), .val (.ref bA), .val (.int pf), .val (.int pn), .val (.ref c189), .unset, .unset] [(.ref c189)]))) (fun t k => ?_) ?_
    · show Steps p.tables e below (Tt.setTop (mkF m 236 #[.val (.int p0), .val (.int p1), .val (.int p2), .val (.int p3), .val (.int p4), .val (.int (p0 &&& (3 : Int32))), .val (.ref bA), .val (.int pf), .val (.int pn), .unset, .unset, .unset] [])) _
      refine XS.aload Xt.here hx rfl (hb hby at_236) rfl rfl ?_
      show Steps p.tables e below (Tt.setTop (mkF m 238 #[.val (.int p0), .val (.int p1), .val (.int p2), .val (.int p3), .val (.int p4), .val (.int (p0 &&& (3 : Int32))), .val (.ref bA), .val (.int pf), .val (.int pn), .unset, .unset, .unset] [(.ref bA)])) _
      refine XS.iload Xt.here hx rfl (hb hby at_238) rfl ?_
      show Steps p.tables e below (Tt.setTop (mkF m 240 #[.val (.int p0), .val (.int p1), .val (.int p2), .val (.int p3), .val (.int p4), .val (.int (p0 &&& (3 : Int32))), .val (.ref bA), .val (.int pf), .val (.int pn), .unset, .unset, .unset] [(.int pn), (.ref bA)])) _
      refine st189.trans ?_
      show Steps p.tables e below (T189.setTop (mkF m 243 #[.val (.int p0), .val (.int p1), .val (.int p2), .val (.int p3), .val (.int p4), .val (.int (p0 &&& (3 : Int32))), .val (.ref bA), .val (.int pf), .val (.int pn), .unset, .unset, .unset] [(.ref c189)])) _
      refine XS.astore X189.here hx rfl (hb hby at_243) rfl rfl (l' := #[.val (.int p0), .val (.int p1), .val (.int p2), .val (.int p3), .val (.int p4), .val (.int (p0 &&& (3 : Int32))), .val (.ref bA), .val (.int pf), .val (.int pn), .val (.ref c189), .unset, .unset]) rfl ?_
      show Steps p.tables e below (T189.setTop (mkF m 245 #[.val (.int p0), .val (.int p1), .val (.int p2), .val (.int p3), .val (.int p4), .val (.int (p0 &&& (3 : Int32))), .val (.ref bA), .val (.int pf), .val (.int pn), .val (.ref c189), .unset, .unset] [])) _
      refine XS.aload X189.here hx rfl (hb hby at_245) rfl rfl ?_
      exact k
    refine own_go (A' := (T189.setTop (mkF m 256 #[.val (.int p0), .val (.int p1), .val (.int p2), .val (.int p3), .val (.int p4), .val (.int (p0 &&& (3 : Int32))), .val (.ref bA), .val (.int pf), .val (.int pn), .val (.ref c189), .unset, .unset] []))) (fun t k => XS.ifnonnullYes X189.here hx rfl (pc0 := 247) (pc' := 256) rfl (hb hby at_247) rfl (by decide) (by decide) k) ?_
    obtain ⟨a190, T190, h190, kk190, b190, kc190, X190, e190, E190, hS190, hk190, hZ190, hown190, A190, Cd190, Vl190, V190, la190, lb190, Cr190, Lt190, ns190, st190⟩ := ldcCH X189 hx hZ189 hown189 (hw _ (List.mem_of_getElem? (i := 37) rfl)) wS rfl hS189 hk189 hEL (List.mem_of_getElem? (i := 0) rfl) Cx189.1 (vs := [(.int (83 : Int32)), (.int (72 : Int32)), (.int (65 : Int32)), (.int (45 : Int32)), (.int (50 : Int32)), (.int (53 : Int32)), (.int (54 : Int32))]) (z := (7 : Int32)) ⟨by decide +kernel, by decide +kernel⟩ (by decide) (by decide) (g := (mkF m 258 #[.val (.int p0), .val (.int p1), .val (.int p2), .val (.int p3), .val (.int p4), .val (.int (p0 &&& (3 : Int32))), .val (.ref bA), .val (.int pf), .val (.int pn), .val (.ref c189), .unset, .unset] [(.ref c189)])) rfl (hb hby at_258) (n := 28) (by decide +kernel) (by decide) (by decide) (by decide)
    have Cx190 := Cx189.trans Cr190
    have K190 : Keep h0 h190 [] := K189.ext E190
    have B190 : Ext h0 h190 := own_keep_ext K190
    obtain ⟨cq191, kq191, q191a, q191b, q191c⟩ := isOf hZ190 e190 (F189q.ext E190).1
    obtain ⟨_, _, ⟨T191, L191, k191, n191⟩, -, X191, ⟨Lc191, hQ191, l191, y191, z191⟩, st191⟩ := X190.virtualBack hx (y := (⟨"java/lang/String", "equals", "(Ljava/lang/Object;)Z"⟩ : MethodName)) (z := (⟨"java/lang/String", "equals", "(Ljava/lang/Object;)Z"⟩ : MethodName)) hown190 (mvT hZ190 (hw _ (List.mem_of_getElem? (i := 40) rfl))) (mvT hZ190 (hw _ (List.mem_of_getElem? (i := 41) rfl))) (notFace_of_selects (args := #[]) (mvT hZ190 (hw _ (List.mem_of_getElem? (i := 43) rfl)))) (mvT hZ190 (hw _ (List.mem_of_getElem? (i := 43) rfl))) (mvT hZ190 (hw _ (List.mem_of_getElem? (i := 42) rfl))) (by decide) (own_eqB (W := 0) hZ190 hw (F189q.ext E190) (own_SF (cs := sha) (by decide) (by decide) (by decide) (by decide) A190 Cd190 Vl190 V190) (S_CS.ext B190) hCS (by decide) (by decide)) q191a q191c (g := (mkF m 260 #[.val (.int p0), .val (.int p1), .val (.int p2), .val (.int p3), .val (.int p4), .val (.int (p0 &&& (3 : Int32))), .val (.ref bA), .val (.int pf), .val (.int pn), .val (.ref c189), .unset, .unset] [(.ref a190), (.ref c189)])) rfl (by rw [hml]; rfl) (Steps.refl _) (argsL := [(.ref a190)]) (rest := []) (lenOf pd_3 rfl) rfl (by show 2 * 0 + _ ≤ _; exact Nat.le_of_eq rfl) (hb hby at_260) (fun _ _ => ⟨rfl, e190, (by decide : 9 + 0 ≤ _), (by decide : 60 + 0 ≤ _)⟩)
    dsimp only [Pt.U, Pt.locs, Pt.cells, Pt.slots] at X191 l191 y191 z191 st191 hQ191
    subst l191 y191 z191
    obtain ⟨ho191, rfl, e191⟩ := hQ191
    obtain rfl := own_eqI ho191
    have N191 := Fr.app N189 (Fr.nil n0)
    refine own_go (A' := (T191.setTop (mkF m 263 #[.val (.int p0), .val (.int p1), .val (.int p2), .val (.int p3), .val (.int p4), .val (.int (p0 &&& (3 : Int32))), .val (.ref bA), .val (.int pf), .val (.int pn), .val (.ref c189), .unset, .unset] [(.int (eqI cs189 sha))]))) (fun t k => ?_) ?_
    · show Steps p.tables e below (T189.setTop (mkF m 256 #[.val (.int p0), .val (.int p1), .val (.int p2), .val (.int p3), .val (.int p4), .val (.int (p0 &&& (3 : Int32))), .val (.ref bA), .val (.int pf), .val (.int pn), .val (.ref c189), .unset, .unset] [])) _
      refine XS.aload X189.here hx rfl (hb hby at_256) rfl rfl ?_
      show Steps p.tables e below (T189.setTop (mkF m 258 #[.val (.int p0), .val (.int p1), .val (.int p2), .val (.int p3), .val (.int p4), .val (.int (p0 &&& (3 : Int32))), .val (.ref bA), .val (.int pf), .val (.int pn), .val (.ref c189), .unset, .unset] [(.ref c189)])) _
      refine st190 _ ?_
      show Steps p.tables e below (T190.setTop (mkF m 260 #[.val (.int p0), .val (.int p1), .val (.int p2), .val (.int p3), .val (.int p4), .val (.int (p0 &&& (3 : Int32))), .val (.ref bA), .val (.int pf), .val (.int pn), .val (.ref c189), .unset, .unset] [(.ref a190), (.ref c189)])) _
      refine st191.trans ?_
      exact k
    by_cases hc192 : (eqI cs189 sha) = (0 : Int32)
    · -- hc192: yes
      refine own_go (A' := (T191.setTop (mkF m 274 #[.val (.int p0), .val (.int p1), .val (.int p2), .val (.int p3), .val (.int p4), .val (.int (p0 &&& (3 : Int32))), .val (.ref bA), .val (.int pf), .val (.int pn), .val (.ref c189), .unset, .unset] []))) (fun t k => XS.ifYes X191.here hx rfl (pc0 := 263) (pc' := 274) rfl (hb hby at_263) rfl ((if0 _ _).trans (teq hc192).1) (by decide) (by decide) k) ?_
      obtain ⟨a193, T193, h193, kk193, b193, kc193, X193, e193, E193, hS193, hk193, hZ193, hown193, A193, Cd193, Vl193, V193, la193, lb193, Cr193, Lt193, ns193, st193⟩ := ldcCH X191 hx hZ190 hown190 (hw _ (List.mem_of_getElem? (i := 80) rfl)) wS e191 hS190 hk190 hEL (List.mem_of_getElem? (i := 1) rfl) Cx190.1 (vs := [(.int (77 : Int32)), (.int (68 : Int32)), (.int (53 : Int32))]) (z := (3 : Int32)) ⟨by decide +kernel, by decide +kernel⟩ (by decide) (by decide) (g := (mkF m 276 #[.val (.int p0), .val (.int p1), .val (.int p2), .val (.int p3), .val (.int p4), .val (.int (p0 &&& (3 : Int32))), .val (.ref bA), .val (.int pf), .val (.int pn), .val (.ref c189), .unset, .unset] [(.ref c189)])) rfl (hb hby at_276) (n := 12) (by decide +kernel) (by decide) (by decide) (by decide)
      have Cx193 := Cx190.trans Cr193
      have K193 : Keep h0 h193 [] := K190.ext E193
      have B193 : Ext h0 h193 := own_keep_ext K193
      obtain ⟨cq194, kq194, q194a, q194b, q194c⟩ := isOf hZ193 e193 ((F189q.ext E190).ext E193).1
      obtain ⟨_, _, ⟨T194, L194, k194, n194⟩, -, X194, ⟨Lc194, hQ194, l194, y194, z194⟩, st194⟩ := X193.virtualBack hx (y := (⟨"java/lang/String", "equals", "(Ljava/lang/Object;)Z"⟩ : MethodName)) (z := (⟨"java/lang/String", "equals", "(Ljava/lang/Object;)Z"⟩ : MethodName)) hown193 (mvT hZ193 (hw _ (List.mem_of_getElem? (i := 40) rfl))) (mvT hZ193 (hw _ (List.mem_of_getElem? (i := 41) rfl))) (notFace_of_selects (args := #[]) (mvT hZ193 (hw _ (List.mem_of_getElem? (i := 43) rfl)))) (mvT hZ193 (hw _ (List.mem_of_getElem? (i := 43) rfl))) (mvT hZ193 (hw _ (List.mem_of_getElem? (i := 42) rfl))) (by decide) (own_eqB (W := 0) hZ193 hw ((F189q.ext E190).ext E193) (own_SF (cs := md5) (by decide) (by decide) (by decide) (by decide) A193 Cd193 Vl193 V193) (S_CS.ext B193) hCS (by decide) (by decide)) q194a q194c (g := (mkF m 278 #[.val (.int p0), .val (.int p1), .val (.int p2), .val (.int p3), .val (.int p4), .val (.int (p0 &&& (3 : Int32))), .val (.ref bA), .val (.int pf), .val (.int pn), .val (.ref c189), .unset, .unset] [(.ref a193), (.ref c189)])) rfl (by rw [hml]; rfl) (Steps.refl _) (argsL := [(.ref a193)]) (rest := []) (lenOf pd_3 rfl) rfl (by show 2 * 0 + _ ≤ _; exact Nat.le_of_eq rfl) (hb hby at_278) (fun _ _ => ⟨rfl, e193, (by decide : 11 + 0 ≤ _), (by decide : 76 + 0 ≤ _)⟩)
      dsimp only [Pt.U, Pt.locs, Pt.cells, Pt.slots] at X194 l194 y194 z194 st194 hQ194
      subst l194 y194 z194
      obtain ⟨ho194, rfl, e194⟩ := hQ194
      obtain rfl := own_eqI ho194
      have N194 := Fr.app N191 (Fr.nil n0)
      refine own_go (A' := (T194.setTop (mkF m 281 #[.val (.int p0), .val (.int p1), .val (.int p2), .val (.int p3), .val (.int p4), .val (.int (p0 &&& (3 : Int32))), .val (.ref bA), .val (.int pf), .val (.int pn), .val (.ref c189), .unset, .unset] [(.int (eqI cs189 md5))]))) (fun t k => ?_) ?_
      · show Steps p.tables e below (T191.setTop (mkF m 274 #[.val (.int p0), .val (.int p1), .val (.int p2), .val (.int p3), .val (.int p4), .val (.int (p0 &&& (3 : Int32))), .val (.ref bA), .val (.int pf), .val (.int pn), .val (.ref c189), .unset, .unset] [])) _
        refine XS.aload X191.here hx rfl (hb hby at_274) rfl rfl ?_
        show Steps p.tables e below (T191.setTop (mkF m 276 #[.val (.int p0), .val (.int p1), .val (.int p2), .val (.int p3), .val (.int p4), .val (.int (p0 &&& (3 : Int32))), .val (.ref bA), .val (.int pf), .val (.int pn), .val (.ref c189), .unset, .unset] [(.ref c189)])) _
        refine st193 _ ?_
        show Steps p.tables e below (T193.setTop (mkF m 278 #[.val (.int p0), .val (.int p1), .val (.int p2), .val (.int p3), .val (.int p4), .val (.int (p0 &&& (3 : Int32))), .val (.ref bA), .val (.int pf), .val (.int pn), .val (.ref c189), .unset, .unset] [(.ref a193), (.ref c189)])) _
        refine st194.trans ?_
        exact k
      by_cases hc195 : (eqI cs189 md5) = (0 : Int32)
      · -- hc195: yes
        refine own_go (A' := (T194.setTop (mkF m 292 #[.val (.int p0), .val (.int p1), .val (.int p2), .val (.int p3), .val (.int p4), .val (.int (p0 &&& (3 : Int32))), .val (.ref bA), .val (.int pf), .val (.int pn), .val (.ref c189), .unset, .unset] []))) (fun t k => XS.ifYes X194.here hx rfl (pc0 := 281) (pc' := 292) rfl (hb hby at_281) rfl ((if0 _ _).trans (teq hc195).1) (by decide) (by decide) k) ?_
        obtain ⟨_, _, ⟨T196, L196, k196, n196⟩, -, X196, ⟨Lc196, hQ196, l196, y196, z196⟩, st196⟩ := Jvm.LawKit.callS X194 hx (y := (⟨"com/example/lading/lading/packaging/ChecksumAlgorithm", "named", "(Ljava/lang/String;)Lcom/example/lading/lading/packaging/ChecksumAlgorithm;"⟩ : MethodName)) hown193 (mvT hZ193 (hw _ (List.mem_of_getElem? (i := 53) rfl))) (mvT hZ193 (hw _ (List.mem_of_getElem? (i := 54) rfl))) (mvT hZ193 (hw _ (List.mem_of_getElem? (i := 51) rfl))) (mvT hZ193 (hw _ (List.mem_of_getElem? (i := 55) rfl))) (by decide) (backOf (W := 0) (rm11 l Z a0 hw [] c189 w_SHA_256 w_MD5 x_SHA_256 x_MD5 w_V clV zCS cs189 h193 n0 (Nat.le_trans Z0 K193.1) (S_V.ext B193) (Ar_V.ext B193) (E_V.ext B193) Ft_V L_V V_0 V_1 (M_SHA_256.ext B193) (M_MD5.ext B193) (X_SHA_256.ext B193) (X_MD5.ext B193) (S_CS.ext B193) hCS ((F189q.ext E190).ext E193)) hZ193 (hw _ (List.mem_of_getElem? (i := 55) rfl)) (hw _ (List.mem_of_getElem? (i := 51) rfl)) (by decide) (by decide)) (g := (mkF m 297 #[.val (.int p0), .val (.int p1), .val (.int p2), .val (.int p3), .val (.int p4), .val (.int (p0 &&& (3 : Int32))), .val (.ref bA), .val (.int pf), .val (.int pn), .val (.ref c189), .val .null, .unset] [(.ref c189)])) rfl (by rw [hml]; rfl) (argsL := [(.ref c189)]) (rest := []) (lenOf pd_4 rfl) rfl (by show 2 * 0 + _ ≤ _; exact Nat.le_of_eq rfl) (hb hby at_297) (fun _ _ => ⟨rfl, e194, (by decide : 11 + 1 ≤ _), (by decide : 76 + 2 ≤ _)⟩)
        dsimp only [Pt.U, Pt.locs, Pt.cells, Pt.slots] at X196 l196 y196 z196 st196 hQ196
        subst l196 y196 z196
        obtain ⟨hv196, N196q, K196q⟩ := hQ196
        obtain rfl := hv196.trans (congrArg some (own_nmC hc192 hc195))
        have N196 := Fr.app N194 N196q
        have As196 : ∀ x ∈ ([] : List Addr), Safe Z consts_1 T193.vm h193 x := all0
        have hk196 := Nat.le_trans hk193 K196q.1
        have Cx196 := Cx193.trans (CHr.keep K196q As196 Cx193.1)
        have K196 : Keep h0 T196.heap [] := K193.trans K196q all0
        have B196 : Ext h0 T196.heap := own_keep_ext K196
        refine own_go (A' := (T196.setTop (mkF m 306 #[.val (.int p0), .val (.int p1), .val (.int p2), .val (.int p3), .val (.int p4), .val (.int (p0 &&& (3 : Int32))), .val (.ref bA), .val (.int pf), .val (.int pn), .val (.ref c189), .val .null, .val .null] [.null, .null]))) (fun t k => ?_) ?_
        · show Steps p.tables e below (T194.setTop (mkF m 292 #[.val (.int p0), .val (.int p1), .val (.int p2), .val (.int p3), .val (.int p4), .val (.int (p0 &&& (3 : Int32))), .val (.ref bA), .val (.int pf), .val (.int pn), .val (.ref c189), .unset, .unset] [])) _
          refine XS.aconstNull X194.here hx rfl (hb hby at_292) ?_
          show Steps p.tables e below (T194.setTop (mkF m 293 #[.val (.int p0), .val (.int p1), .val (.int p2), .val (.int p3), .val (.int p4), .val (.int (p0 &&& (3 : Int32))), .val (.ref bA), .val (.int pf), .val (.int pn), .val (.ref c189), .unset, .unset] [.null])) _
          refine XS.astore X194.here hx rfl (hb hby at_293) rfl rfl (l' := #[.val (.int p0), .val (.int p1), .val (.int p2), .val (.int p3), .val (.int p4), .val (.int (p0 &&& (3 : Int32))), .val (.ref bA), .val (.int pf), .val (.int pn), .val (.ref c189), .val .null, .unset]) rfl ?_
          show Steps p.tables e below (T194.setTop (mkF m 295 #[.val (.int p0), .val (.int p1), .val (.int p2), .val (.int p3), .val (.int p4), .val (.int (p0 &&& (3 : Int32))), .val (.ref bA), .val (.int pf), .val (.int pn), .val (.ref c189), .val .null, .unset] [])) _
          refine XS.aload X194.here hx rfl (hb hby at_295) rfl rfl ?_
          show Steps p.tables e below (T194.setTop (mkF m 297 #[.val (.int p0), .val (.int p1), .val (.int p2), .val (.int p3), .val (.int p4), .val (.int (p0 &&& (3 : Int32))), .val (.ref bA), .val (.int pf), .val (.int pn), .val (.ref c189), .val .null, .unset] [(.ref c189)])) _
          refine st196 _ ?_
          show Steps p.tables e below (T196.setTop (mkF m 300 #[.val (.int p0), .val (.int p1), .val (.int p2), .val (.int p3), .val (.int p4), .val (.int (p0 &&& (3 : Int32))), .val (.ref bA), .val (.int pf), .val (.int pn), .val (.ref c189), .val .null, .unset] [.null])) _
          refine XS.astore X196.here hx rfl (hb hby at_300) rfl rfl (l' := #[.val (.int p0), .val (.int p1), .val (.int p2), .val (.int p3), .val (.int p4), .val (.int (p0 &&& (3 : Int32))), .val (.ref bA), .val (.int pf), .val (.int pn), .val (.ref c189), .val .null, .val .null]) rfl ?_
          show Steps p.tables e below (T196.setTop (mkF m 302 #[.val (.int p0), .val (.int p1), .val (.int p2), .val (.int p3), .val (.int p4), .val (.int (p0 &&& (3 : Int32))), .val (.ref bA), .val (.int pf), .val (.int pn), .val (.ref c189), .val .null, .val .null] [])) _
          refine XS.aload X196.here hx rfl (hb hby at_302) rfl rfl ?_
          show Steps p.tables e below (T196.setTop (mkF m 304 #[.val (.int p0), .val (.int p1), .val (.int p2), .val (.int p3), .val (.int p4), .val (.int (p0 &&& (3 : Int32))), .val (.ref bA), .val (.int pf), .val (.int pn), .val (.ref c189), .val .null, .val .null] [.null])) _
          refine XS.aload X196.here hx rfl (hb hby at_304) rfl rfl ?_
          exact k
        refine own_go (A' := (T196.setTop (mkF m 311 #[.val (.int p0), .val (.int p1), .val (.int p2), .val (.int p3), .val (.int p4), .val (.int (p0 &&& (3 : Int32))), .val (.ref bA), .val (.int pf), .val (.int pn), .val (.ref c189), .val .null, .val .null] []))) (fun t k => Jvm.RoadKit.acmp (g := (mkF m 306 #[.val (.int p0), .val (.int p1), .val (.int p2), .val (.int p3), .val (.int p4), .val (.int (p0 &&& (3 : Int32))), .val (.ref bA), .val (.int pf), .val (.int pn), .val (.ref c189), .val .null, .val .null] [.null, .null])) X196 hx rfl rfl rfl (pc0 := 306) (pc' := 311) (same := true) rfl (hb hby at_306) rfl (decide_eq_true rfl) (by decide) (by decide) k) ?_
        refine own_go (A' := (T196.setTop (mkF m 313 #[.val (.int p0), .val (.int p1), .val (.int p2), .val (.int p3), .val (.int p4), .val (.int (p0 &&& (3 : Int32))), .val (.ref bA), .val (.int pf), .val (.int pn), .val (.ref c189), .val .null, .val .null] [.null]))) (fun t k => ?_) ?_
        · show Steps p.tables e below (T196.setTop (mkF m 311 #[.val (.int p0), .val (.int p1), .val (.int p2), .val (.int p3), .val (.int p4), .val (.int (p0 &&& (3 : Int32))), .val (.ref bA), .val (.int pf), .val (.int pn), .val (.ref c189), .val .null, .val .null] [])) _
          refine XS.aload X196.here hx rfl (hb hby at_311) rfl rfl ?_
          exact k
        refine own_go (A' := (T196.setTop (mkF m 327 #[.val (.int p0), .val (.int p1), .val (.int p2), .val (.int p3), .val (.int p4), .val (.int (p0 &&& (3 : Int32))), .val (.ref bA), .val (.int pf), .val (.int pn), .val (.ref c189), .val .null, .val .null] []))) (fun t k => XS.ifnullYes X196.here hx rfl (pc0 := 313) (pc' := 327) rfl (hb hby at_313) rfl (by decide) (by decide) k) ?_
        refine own_go (A' := (T196.setTop (mkF m 328 #[.val (.int p0), .val (.int p1), .val (.int p2), .val (.int p3), .val (.int p4), .val (.int (p0 &&& (3 : Int32))), .val (.ref bA), .val (.int pf), .val (.int pn), .val (.ref c189), .val .null, .val .null] [(.int (1 : Int32))]))) (fun t k => ?_) ?_
        · show Steps p.tables e below (T196.setTop (mkF m 327 #[.val (.int p0), .val (.int p1), .val (.int p2), .val (.int p3), .val (.int p4), .val (.int (p0 &&& (3 : Int32))), .val (.ref bA), .val (.int pf), .val (.int pn), .val (.ref c189), .val .null, .val .null] [])) _
          refine XS.iconst X196.here hx rfl (hb hby at_327) ?_
          exact k
        obtain ⟨fs, hr, hrun, hended, hend⟩ := X196.leaveW (v := some (.int (1 : Int32))) hS193 hk196 (fun h => by rw [Bd.returns] at h; cases h) hlk
        refine ⟨_, _, ?_, hrun, hended, _, _, rfl, ?_, ?_, ⟨_, rfl⟩, hend.2.1, hend.2.2.1, hend.2.2.2.mono (by decide) (by decide)⟩
        · show Steps p.tables e below (T196.setTop (mkF m 328 #[.val (.int p0), .val (.int p1), .val (.int p2), .val (.int p3), .val (.int p4), .val (.int (p0 &&& (3 : Int32))), .val (.ref bA), .val (.int pf), .val (.int pn), .val (.ref c189), .val .null, .val .null] [(.int (1 : Int32))])) _
          exact retN X196 hx (t := .boolean) Bd.returns (by simp) (hb hby at_328) hr
        · show Q0 Z p0 p1 p2 p3 p4 w_SHA_256 w_MD5 x_SHA_256 x_MD5 w_V clV zCS h0 n0 _ T196.heap _
          exact ⟨rfl, N196⟩
        · show CHr Z consts_1 s.vm s.heap T196.vm T196.heap
          rw [hh]
          exact Cx196.trans (CHv.at X196 hZ193 hEL Cx196.1)
      · -- hc195: no
        refine own_go (A' := (T194.setTop (mkF m 284 #[.val (.int p0), .val (.int p1), .val (.int p2), .val (.int p3), .val (.int p4), .val (.int (p0 &&& (3 : Int32))), .val (.ref bA), .val (.int pf), .val (.int pn), .val (.ref c189), .unset, .unset] []))) (fun t k => XS.ifNo X194.here hx rfl (hb hby at_281) rfl ((if0 _ _).trans (feq hc195).1) k) ?_
        obtain ⟨T197, X197, e197, st197⟩ := getS2 X194 hx hZ193 hown193 (host := "") (Or.inl (hw _ (List.mem_of_getElem? (i := 82) rfl))) Via.refl e194 (S_MD5.ext B193) (g := (mkF m 284 #[.val (.int p0), .val (.int p1), .val (.int p2), .val (.int p3), .val (.int p4), .val (.int (p0 &&& (3 : Int32))), .val (.ref bA), .val (.int pf), .val (.int pn), .val (.ref c189), .unset, .unset] [])) rfl (hb hby at_284)
        obtain ⟨_, _, ⟨T198, L198, k198, n198⟩, -, X198, ⟨Lc198, hQ198, l198, y198, z198⟩, st198⟩ := Jvm.LawKit.callS X197 hx (y := (⟨"com/example/lading/lading/packaging/ChecksumAlgorithm", "named", "(Ljava/lang/String;)Lcom/example/lading/lading/packaging/ChecksumAlgorithm;"⟩ : MethodName)) hown193 (mvT hZ193 (hw _ (List.mem_of_getElem? (i := 53) rfl))) (mvT hZ193 (hw _ (List.mem_of_getElem? (i := 54) rfl))) (mvT hZ193 (hw _ (List.mem_of_getElem? (i := 51) rfl))) (mvT hZ193 (hw _ (List.mem_of_getElem? (i := 55) rfl))) (by decide) (backOf (W := 0) (rm11 l Z a0 hw [] c189 w_SHA_256 w_MD5 x_SHA_256 x_MD5 w_V clV zCS cs189 h193 n0 (Nat.le_trans Z0 K193.1) (S_V.ext B193) (Ar_V.ext B193) (E_V.ext B193) Ft_V L_V V_0 V_1 (M_SHA_256.ext B193) (M_MD5.ext B193) (X_SHA_256.ext B193) (X_MD5.ext B193) (S_CS.ext B193) hCS ((F189q.ext E190).ext E193)) hZ193 (hw _ (List.mem_of_getElem? (i := 55) rfl)) (hw _ (List.mem_of_getElem? (i := 51) rfl)) (by decide) (by decide)) (g := (mkF m 297 #[.val (.int p0), .val (.int p1), .val (.int p2), .val (.int p3), .val (.int p4), .val (.int (p0 &&& (3 : Int32))), .val (.ref bA), .val (.int pf), .val (.int pn), .val (.ref c189), .val (.ref w_MD5), .unset] [(.ref c189)])) rfl (by rw [hml]; rfl) (argsL := [(.ref c189)]) (rest := []) (lenOf pd_4 rfl) rfl (by show 2 * 0 + _ ≤ _; exact Nat.le_of_eq rfl) (hb hby at_297) (fun _ _ => ⟨rfl, e197, (by decide : 11 + 1 ≤ _), (by decide : 76 + 2 ≤ _)⟩)
        dsimp only [Pt.U, Pt.locs, Pt.cells, Pt.slots] at X198 l198 y198 z198 st198 hQ198
        subst l198 y198 z198
        obtain ⟨hv198, N198q, K198q⟩ := hQ198
        obtain rfl := hv198.trans (congrArg some (own_nmB hc195))
        have N198 := Fr.app N194 N198q
        have As198 : ∀ x ∈ ([] : List Addr), Safe Z consts_1 T193.vm h193 x := all0
        have hk198 := Nat.le_trans hk193 K198q.1
        have Cx198 := Cx193.trans (CHr.keep K198q As198 Cx193.1)
        have K198 : Keep h0 T198.heap [] := K193.trans K198q all0
        have B198 : Ext h0 T198.heap := own_keep_ext K198
        refine own_go (A' := (T198.setTop (mkF m 306 #[.val (.int p0), .val (.int p1), .val (.int p2), .val (.int p3), .val (.int p4), .val (.int (p0 &&& (3 : Int32))), .val (.ref bA), .val (.int pf), .val (.int pn), .val (.ref c189), .val (.ref w_MD5), .val (.ref w_MD5)] [(.ref w_MD5), (.ref w_MD5)]))) (fun t k => ?_) ?_
        · show Steps p.tables e below (T194.setTop (mkF m 284 #[.val (.int p0), .val (.int p1), .val (.int p2), .val (.int p3), .val (.int p4), .val (.int (p0 &&& (3 : Int32))), .val (.ref bA), .val (.int pf), .val (.int pn), .val (.ref c189), .unset, .unset] [])) _
          refine st197 _ ?_
          show Steps p.tables e below (T197.setTop (mkF m 287 #[.val (.int p0), .val (.int p1), .val (.int p2), .val (.int p3), .val (.int p4), .val (.int (p0 &&& (3 : Int32))), .val (.ref bA), .val (.int pf), .val (.int pn), .val (.ref c189), .unset, .unset] [(.ref w_MD5)])) _
          refine XS.astore X197.here hx rfl (hb hby at_287) rfl rfl (l' := #[.val (.int p0), .val (.int p1), .val (.int p2), .val (.int p3), .val (.int p4), .val (.int (p0 &&& (3 : Int32))), .val (.ref bA), .val (.int pf), .val (.int pn), .val (.ref c189), .val (.ref w_MD5), .unset]) rfl ?_
          show Steps p.tables e below (T197.setTop (mkF m 289 #[.val (.int p0), .val (.int p1), .val (.int p2), .val (.int p3), .val (.int p4), .val (.int (p0 &&& (3 : Int32))), .val (.ref bA), .val (.int pf), .val (.int pn), .val (.ref c189), .val (.ref w_MD5), .unset] [])) _
          refine XS.goto X197.here hx rfl (pc0 := 289) (pc' := 295) rfl (hb hby at_289) (by decide) (by decide) ?_
          show Steps p.tables e below (T197.setTop (mkF m 295 #[.val (.int p0), .val (.int p1), .val (.int p2), .val (.int p3), .val (.int p4), .val (.int (p0 &&& (3 : Int32))), .val (.ref bA), .val (.int pf), .val (.int pn), .val (.ref c189), .val (.ref w_MD5), .unset] [])) _
          refine XS.aload X197.here hx rfl (hb hby at_295) rfl rfl ?_
          show Steps p.tables e below (T197.setTop (mkF m 297 #[.val (.int p0), .val (.int p1), .val (.int p2), .val (.int p3), .val (.int p4), .val (.int (p0 &&& (3 : Int32))), .val (.ref bA), .val (.int pf), .val (.int pn), .val (.ref c189), .val (.ref w_MD5), .unset] [(.ref c189)])) _
          refine st198 _ ?_
          show Steps p.tables e below (T198.setTop (mkF m 300 #[.val (.int p0), .val (.int p1), .val (.int p2), .val (.int p3), .val (.int p4), .val (.int (p0 &&& (3 : Int32))), .val (.ref bA), .val (.int pf), .val (.int pn), .val (.ref c189), .val (.ref w_MD5), .unset] [(.ref w_MD5)])) _
          refine XS.astore X198.here hx rfl (hb hby at_300) rfl rfl (l' := #[.val (.int p0), .val (.int p1), .val (.int p2), .val (.int p3), .val (.int p4), .val (.int (p0 &&& (3 : Int32))), .val (.ref bA), .val (.int pf), .val (.int pn), .val (.ref c189), .val (.ref w_MD5), .val (.ref w_MD5)]) rfl ?_
          show Steps p.tables e below (T198.setTop (mkF m 302 #[.val (.int p0), .val (.int p1), .val (.int p2), .val (.int p3), .val (.int p4), .val (.int (p0 &&& (3 : Int32))), .val (.ref bA), .val (.int pf), .val (.int pn), .val (.ref c189), .val (.ref w_MD5), .val (.ref w_MD5)] [])) _
          refine XS.aload X198.here hx rfl (hb hby at_302) rfl rfl ?_
          show Steps p.tables e below (T198.setTop (mkF m 304 #[.val (.int p0), .val (.int p1), .val (.int p2), .val (.int p3), .val (.int p4), .val (.int (p0 &&& (3 : Int32))), .val (.ref bA), .val (.int pf), .val (.int pn), .val (.ref c189), .val (.ref w_MD5), .val (.ref w_MD5)] [(.ref w_MD5)])) _
          refine XS.aload X198.here hx rfl (hb hby at_304) rfl rfl ?_
          exact k
        refine own_go (A' := (T198.setTop (mkF m 311 #[.val (.int p0), .val (.int p1), .val (.int p2), .val (.int p3), .val (.int p4), .val (.int (p0 &&& (3 : Int32))), .val (.ref bA), .val (.int pf), .val (.int pn), .val (.ref c189), .val (.ref w_MD5), .val (.ref w_MD5)] []))) (fun t k => Jvm.RoadKit.acmp (g := (mkF m 306 #[.val (.int p0), .val (.int p1), .val (.int p2), .val (.int p3), .val (.int p4), .val (.int (p0 &&& (3 : Int32))), .val (.ref bA), .val (.int pf), .val (.int pn), .val (.ref c189), .val (.ref w_MD5), .val (.ref w_MD5)] [(.ref w_MD5), (.ref w_MD5)])) X198 hx rfl rfl rfl (pc0 := 306) (pc' := 311) (same := true) rfl (hb hby at_306) rfl (decide_eq_true rfl) (by decide) (by decide) k) ?_
        refine own_go (A' := (T198.setTop (mkF m 313 #[.val (.int p0), .val (.int p1), .val (.int p2), .val (.int p3), .val (.int p4), .val (.int (p0 &&& (3 : Int32))), .val (.ref bA), .val (.int pf), .val (.int pn), .val (.ref c189), .val (.ref w_MD5), .val (.ref w_MD5)] [(.ref w_MD5)]))) (fun t k => ?_) ?_
        · show Steps p.tables e below (T198.setTop (mkF m 311 #[.val (.int p0), .val (.int p1), .val (.int p2), .val (.int p3), .val (.int p4), .val (.int (p0 &&& (3 : Int32))), .val (.ref bA), .val (.int pf), .val (.int pn), .val (.ref c189), .val (.ref w_MD5), .val (.ref w_MD5)] [])) _
          refine XS.aload X198.here hx rfl (hb hby at_311) rfl rfl ?_
          exact k
        refine own_go (A' := (T198.setTop (mkF m 316 #[.val (.int p0), .val (.int p1), .val (.int p2), .val (.int p3), .val (.int p4), .val (.int (p0 &&& (3 : Int32))), .val (.ref bA), .val (.int pf), .val (.int pn), .val (.ref c189), .val (.ref w_MD5), .val (.ref w_MD5)] []))) (fun t k => XS.ifnullNo X198.here hx rfl (hb hby at_313) rfl k) ?_
        obtain ⟨cq199, kq199, q199a, q199b, q199c⟩ := isOf hZ193 rfl (E_MD5.ext B198)
        obtain ⟨_, _, ⟨T199, L199, k199, n199⟩, -, X199, ⟨Lc199, hQ199, l199, y199, z199⟩, st199⟩ := X198.virtualBack hx (y := (⟨"com/example/lading/lading/packaging/ChecksumAlgorithm", "manifestName", "()Ljava/lang/String;"⟩ : MethodName)) (z := (⟨"com/example/lading/lading/packaging/ChecksumAlgorithm", "manifestName", "()Ljava/lang/String;"⟩ : MethodName)) hown193 (mvT hZ193 (hw _ (List.mem_of_getElem? (i := 75) rfl))) (mvT hZ193 (hw _ (List.mem_of_getElem? (i := 76) rfl))) (notFace_of_selects (args := #[]) (mvT hZ193 (hw _ (List.mem_of_getElem? (i := 78) rfl)))) (mvT hZ193 (hw _ (List.mem_of_getElem? (i := 78) rfl))) (mvT hZ193 (hw _ (List.mem_of_getElem? (i := 77) rfl))) (by decide) (backOf (W := 0) (rm13 l Z a0 hw [] w_MD5 x_MD5 T198.heap n0 (Nat.le_trans Z0 K198.1) (M_MD5.ext B198)) hZ193 (hw _ (List.mem_of_getElem? (i := 79) rfl)) (hw _ (List.mem_of_getElem? (i := 51) rfl)) (by decide) (by decide)) q199a q199c (g := (mkF m 318 #[.val (.int p0), .val (.int p1), .val (.int p2), .val (.int p3), .val (.int p4), .val (.int (p0 &&& (3 : Int32))), .val (.ref bA), .val (.int pf), .val (.int pn), .val (.ref c189), .val (.ref w_MD5), .val (.ref w_MD5)] [(.ref w_MD5)])) rfl (by rw [hml]; rfl) (Steps.refl _) (argsL := []) (rest := []) (lenOf pd_6 rfl) rfl (by show 2 * 0 + _ ≤ _; exact Nat.le_of_eq rfl) (hb hby at_318) (fun _ _ => ⟨rfl, rfl, (by decide : 12 + 0 ≤ _), (by decide : 78 + 0 ≤ _)⟩)
        dsimp only [Pt.U, Pt.locs, Pt.cells, Pt.slots] at X199 l199 y199 z199 st199 hQ199
        subst l199 y199 z199
        obtain ⟨rfl, N199q, e199⟩ := hQ199
        have N199 := Fr.app N198 N199q
        obtain ⟨cq200, kq200, q200a, q200b, q200c⟩ := isOf hZ193 e199 (X_MD5.ext B198).1
        obtain ⟨_, _, ⟨T200, L200, k200, n200⟩, -, X200, ⟨Lc200, hQ200, l200, y200, z200⟩, st200⟩ := X199.virtualBack hx (y := (⟨"java/lang/String", "equals", "(Ljava/lang/Object;)Z"⟩ : MethodName)) (z := (⟨"java/lang/String", "equals", "(Ljava/lang/Object;)Z"⟩ : MethodName)) hown193 (mvT hZ193 (hw _ (List.mem_of_getElem? (i := 40) rfl))) (mvT hZ193 (hw _ (List.mem_of_getElem? (i := 41) rfl))) (notFace_of_selects (args := #[]) (mvT hZ193 (hw _ (List.mem_of_getElem? (i := 43) rfl)))) (mvT hZ193 (hw _ (List.mem_of_getElem? (i := 43) rfl))) (mvT hZ193 (hw _ (List.mem_of_getElem? (i := 42) rfl))) (by decide) (own_eqB (W := 0) hZ193 hw (X_MD5.ext B198) (((F189q.ext E190).ext E193).keep K198q nin0) (S_CS.ext B198) hCS (by decide) (by decide)) q200a q200c (g := (mkF m 323 #[.val (.int p0), .val (.int p1), .val (.int p2), .val (.int p3), .val (.int p4), .val (.int (p0 &&& (3 : Int32))), .val (.ref bA), .val (.int pf), .val (.int pn), .val (.ref c189), .val (.ref w_MD5), .val (.ref w_MD5)] [(.ref c189), (.ref x_MD5)])) rfl (by rw [hml]; rfl) (Steps.refl _) (argsL := [(.ref c189)]) (rest := []) (lenOf pd_3 rfl) rfl (by show 2 * 0 + _ ≤ _; exact Nat.le_of_eq rfl) (hb hby at_323) (fun _ _ => ⟨rfl, e199, (by decide : 12 + 0 ≤ _), (by decide : 78 + 0 ≤ _)⟩)
        dsimp only [Pt.U, Pt.locs, Pt.cells, Pt.slots] at X200 l200 y200 z200 st200 hQ200
        subst l200 y200 z200
        obtain ⟨ho200, rfl, e200⟩ := hQ200
        obtain rfl := own_eqI ho200
        have N200 := Fr.app N199 (Fr.nil n0)
        refine own_go (A' := (T200.setTop (mkF m 326 #[.val (.int p0), .val (.int p1), .val (.int p2), .val (.int p3), .val (.int p4), .val (.int (p0 &&& (3 : Int32))), .val (.ref bA), .val (.int pf), .val (.int pn), .val (.ref c189), .val (.ref w_MD5), .val (.ref w_MD5)] [(.int (eqI md5 cs189))]))) (fun t k => ?_) ?_
        · show Steps p.tables e below (T198.setTop (mkF m 316 #[.val (.int p0), .val (.int p1), .val (.int p2), .val (.int p3), .val (.int p4), .val (.int (p0 &&& (3 : Int32))), .val (.ref bA), .val (.int pf), .val (.int pn), .val (.ref c189), .val (.ref w_MD5), .val (.ref w_MD5)] [])) _
          refine XS.aload X198.here hx rfl (hb hby at_316) rfl rfl ?_
          show Steps p.tables e below (T198.setTop (mkF m 318 #[.val (.int p0), .val (.int p1), .val (.int p2), .val (.int p3), .val (.int p4), .val (.int (p0 &&& (3 : Int32))), .val (.ref bA), .val (.int pf), .val (.int pn), .val (.ref c189), .val (.ref w_MD5), .val (.ref w_MD5)] [(.ref w_MD5)])) _
          refine st199.trans ?_
          show Steps p.tables e below (T199.setTop (mkF m 321 #[.val (.int p0), .val (.int p1), .val (.int p2), .val (.int p3), .val (.int p4), .val (.int (p0 &&& (3 : Int32))), .val (.ref bA), .val (.int pf), .val (.int pn), .val (.ref c189), .val (.ref w_MD5), .val (.ref w_MD5)] [(.ref x_MD5)])) _
          refine XS.aload X199.here hx rfl (hb hby at_321) rfl rfl ?_
          show Steps p.tables e below (T199.setTop (mkF m 323 #[.val (.int p0), .val (.int p1), .val (.int p2), .val (.int p3), .val (.int p4), .val (.int (p0 &&& (3 : Int32))), .val (.ref bA), .val (.int pf), .val (.int pn), .val (.ref c189), .val (.ref w_MD5), .val (.ref w_MD5)] [(.ref c189), (.ref x_MD5)])) _
          refine st200.trans ?_
          exact k
        obtain ⟨fs, hr, hrun, hended, hend⟩ := X200.leaveW (v := some (.int (eqI md5 cs189))) hS193 (by rw [e200]; exact hk198) (fun h => by rw [Bd.returns] at h; cases h) hlk
        refine ⟨_, _, ?_, hrun, hended, _, _, rfl, ?_, ?_, ⟨_, rfl⟩, hend.2.1, hend.2.2.1, hend.2.2.2.mono (by decide) (by decide)⟩
        · show Steps p.tables e below (T200.setTop (mkF m 326 #[.val (.int p0), .val (.int p1), .val (.int p2), .val (.int p3), .val (.int p4), .val (.int (p0 &&& (3 : Int32))), .val (.ref bA), .val (.int pf), .val (.int pn), .val (.ref c189), .val (.ref w_MD5), .val (.ref w_MD5)] [(.int (eqI md5 cs189))])) _
          exact retOut (w := (.int (eqI md5 cs189))) X200 hx Bd.returns (own_nbool _ _) (Or.inl ⟨rfl, by simp, _, rfl⟩) (hb hby at_326) hr
        · show Q0 Z p0 p1 p2 p3 p4 w_SHA_256 w_MD5 x_SHA_256 x_MD5 w_V clV zCS h0 n0 _ T200.heap _
          exact ⟨congrArg (fun z => some (Value.int z)) (own_one hc195), N200⟩
        · show CHr Z consts_1 s.vm s.heap T200.vm T200.heap
          rw [hh, e200]
          exact Cx198.trans (CHv.at X200 hZ193 hEL Cx198.1)
    · -- hc192: no
      refine own_go (A' := (T191.setTop (mkF m 266 #[.val (.int p0), .val (.int p1), .val (.int p2), .val (.int p3), .val (.int p4), .val (.int (p0 &&& (3 : Int32))), .val (.ref bA), .val (.int pf), .val (.int pn), .val (.ref c189), .unset, .unset] []))) (fun t k => XS.ifNo X191.here hx rfl (hb hby at_263) rfl ((if0 _ _).trans (feq hc192).1) k) ?_
      obtain ⟨T201, X201, e201, st201⟩ := getS2 X191 hx hZ190 hown190 (host := "") (Or.inl (hw _ (List.mem_of_getElem? (i := 50) rfl))) Via.refl e191 (S_SHA_256.ext B190) (g := (mkF m 266 #[.val (.int p0), .val (.int p1), .val (.int p2), .val (.int p3), .val (.int p4), .val (.int (p0 &&& (3 : Int32))), .val (.ref bA), .val (.int pf), .val (.int pn), .val (.ref c189), .unset, .unset] [])) rfl (hb hby at_266)
      obtain ⟨_, _, ⟨T202, L202, k202, n202⟩, -, X202, ⟨Lc202, hQ202, l202, y202, z202⟩, st202⟩ := Jvm.LawKit.callS X201 hx (y := (⟨"com/example/lading/lading/packaging/ChecksumAlgorithm", "named", "(Ljava/lang/String;)Lcom/example/lading/lading/packaging/ChecksumAlgorithm;"⟩ : MethodName)) hown190 (mvT hZ190 (hw _ (List.mem_of_getElem? (i := 53) rfl))) (mvT hZ190 (hw _ (List.mem_of_getElem? (i := 54) rfl))) (mvT hZ190 (hw _ (List.mem_of_getElem? (i := 51) rfl))) (mvT hZ190 (hw _ (List.mem_of_getElem? (i := 55) rfl))) (by decide) (backOf (W := 0) (rm11 l Z a0 hw [] c189 w_SHA_256 w_MD5 x_SHA_256 x_MD5 w_V clV zCS cs189 h190 n0 (Nat.le_trans Z0 K190.1) (S_V.ext B190) (Ar_V.ext B190) (E_V.ext B190) Ft_V L_V V_0 V_1 (M_SHA_256.ext B190) (M_MD5.ext B190) (X_SHA_256.ext B190) (X_MD5.ext B190) (S_CS.ext B190) hCS (F189q.ext E190)) hZ190 (hw _ (List.mem_of_getElem? (i := 55) rfl)) (hw _ (List.mem_of_getElem? (i := 51) rfl)) (by decide) (by decide)) (g := (mkF m 297 #[.val (.int p0), .val (.int p1), .val (.int p2), .val (.int p3), .val (.int p4), .val (.int (p0 &&& (3 : Int32))), .val (.ref bA), .val (.int pf), .val (.int pn), .val (.ref c189), .val (.ref w_SHA_256), .unset] [(.ref c189)])) rfl (by rw [hml]; rfl) (argsL := [(.ref c189)]) (rest := []) (lenOf pd_4 rfl) rfl (by show 2 * 0 + _ ≤ _; exact Nat.le_of_eq rfl) (hb hby at_297) (fun _ _ => ⟨rfl, e201, (by decide : 9 + 1 ≤ _), (by decide : 60 + 2 ≤ _)⟩)
      dsimp only [Pt.U, Pt.locs, Pt.cells, Pt.slots] at X202 l202 y202 z202 st202 hQ202
      subst l202 y202 z202
      obtain ⟨hv202, N202q, K202q⟩ := hQ202
      obtain rfl := hv202.trans (congrArg some (own_nmA hc192))
      have N202 := Fr.app N191 N202q
      have As202 : ∀ x ∈ ([] : List Addr), Safe Z consts_1 T190.vm h190 x := all0
      have hk202 := Nat.le_trans hk190 K202q.1
      have Cx202 := Cx190.trans (CHr.keep K202q As202 Cx190.1)
      have K202 : Keep h0 T202.heap [] := K190.trans K202q all0
      have B202 : Ext h0 T202.heap := own_keep_ext K202
      refine own_go (A' := (T202.setTop (mkF m 306 #[.val (.int p0), .val (.int p1), .val (.int p2), .val (.int p3), .val (.int p4), .val (.int (p0 &&& (3 : Int32))), .val (.ref bA), .val (.int pf), .val (.int pn), .val (.ref c189), .val (.ref w_SHA_256), .val (.ref w_SHA_256)] [(.ref w_SHA_256), (.ref w_SHA_256)]))) (fun t k => ?_) ?_
      · show Steps p.tables e below (T191.setTop (mkF m 266 #[.val (.int p0), .val (.int p1), .val (.int p2), .val (.int p3), .val (.int p4), .val (.int (p0 &&& (3 : Int32))), .val (.ref bA), .val (.int pf), .val (.int pn), .val (.ref c189), .unset, .unset] [])) _
        refine st201 _ ?_
        show Steps p.tables e below (T201.setTop (mkF m 269 #[.val (.int p0), .val (.int p1), .val (.int p2), .val (.int p3), .val (.int p4), .val (.int (p0 &&& (3 : Int32))), .val (.ref bA), .val (.int pf), .val (.int pn), .val (.ref c189), .unset, .unset] [(.ref w_SHA_256)])) _
        refine XS.astore X201.here hx rfl (hb hby at_269) rfl rfl (l' := #[.val (.int p0), .val (.int p1), .val (.int p2), .val (.int p3), .val (.int p4), .val (.int (p0 &&& (3 : Int32))), .val (.ref bA), .val (.int pf), .val (.int pn), .val (.ref c189), .val (.ref w_SHA_256), .unset]) rfl ?_
        show Steps p.tables e below (T201.setTop (mkF m 271 #[.val (.int p0), .val (.int p1), .val (.int p2), .val (.int p3), .val (.int p4), .val (.int (p0 &&& (3 : Int32))), .val (.ref bA), .val (.int pf), .val (.int pn), .val (.ref c189), .val (.ref w_SHA_256), .unset] [])) _
        refine XS.goto X201.here hx rfl (pc0 := 271) (pc' := 295) rfl (hb hby at_271) (by decide) (by decide) ?_
        show Steps p.tables e below (T201.setTop (mkF m 295 #[.val (.int p0), .val (.int p1), .val (.int p2), .val (.int p3), .val (.int p4), .val (.int (p0 &&& (3 : Int32))), .val (.ref bA), .val (.int pf), .val (.int pn), .val (.ref c189), .val (.ref w_SHA_256), .unset] [])) _
        refine XS.aload X201.here hx rfl (hb hby at_295) rfl rfl ?_
        show Steps p.tables e below (T201.setTop (mkF m 297 #[.val (.int p0), .val (.int p1), .val (.int p2), .val (.int p3), .val (.int p4), .val (.int (p0 &&& (3 : Int32))), .val (.ref bA), .val (.int pf), .val (.int pn), .val (.ref c189), .val (.ref w_SHA_256), .unset] [(.ref c189)])) _
        refine st202 _ ?_
        show Steps p.tables e below (T202.setTop (mkF m 300 #[.val (.int p0), .val (.int p1), .val (.int p2), .val (.int p3), .val (.int p4), .val (.int (p0 &&& (3 : Int32))), .val (.ref bA), .val (.int pf), .val (.int pn), .val (.ref c189), .val (.ref w_SHA_256), .unset] [(.ref w_SHA_256)])) _
        refine XS.astore X202.here hx rfl (hb hby at_300) rfl rfl (l' := #[.val (.int p0), .val (.int p1), .val (.int p2), .val (.int p3), .val (.int p4), .val (.int (p0 &&& (3 : Int32))), .val (.ref bA), .val (.int pf), .val (.int pn), .val (.ref c189), .val (.ref w_SHA_256), .val (.ref w_SHA_256)]) rfl ?_
        show Steps p.tables e below (T202.setTop (mkF m 302 #[.val (.int p0), .val (.int p1), .val (.int p2), .val (.int p3), .val (.int p4), .val (.int (p0 &&& (3 : Int32))), .val (.ref bA), .val (.int pf), .val (.int pn), .val (.ref c189), .val (.ref w_SHA_256), .val (.ref w_SHA_256)] [])) _
        refine XS.aload X202.here hx rfl (hb hby at_302) rfl rfl ?_
        show Steps p.tables e below (T202.setTop (mkF m 304 #[.val (.int p0), .val (.int p1), .val (.int p2), .val (.int p3), .val (.int p4), .val (.int (p0 &&& (3 : Int32))), .val (.ref bA), .val (.int pf), .val (.int pn), .val (.ref c189), .val (.ref w_SHA_256), .val (.ref w_SHA_256)] [(.ref w_SHA_256)])) _
        refine XS.aload X202.here hx rfl (hb hby at_304) rfl rfl ?_
        exact k
      refine own_go (A' := (T202.setTop (mkF m 311 #[.val (.int p0), .val (.int p1), .val (.int p2), .val (.int p3), .val (.int p4), .val (.int (p0 &&& (3 : Int32))), .val (.ref bA), .val (.int pf), .val (.int pn), .val (.ref c189), .val (.ref w_SHA_256), .val (.ref w_SHA_256)] []))) (fun t k => Jvm.RoadKit.acmp (g := (mkF m 306 #[.val (.int p0), .val (.int p1), .val (.int p2), .val (.int p3), .val (.int p4), .val (.int (p0 &&& (3 : Int32))), .val (.ref bA), .val (.int pf), .val (.int pn), .val (.ref c189), .val (.ref w_SHA_256), .val (.ref w_SHA_256)] [(.ref w_SHA_256), (.ref w_SHA_256)])) X202 hx rfl rfl rfl (pc0 := 306) (pc' := 311) (same := true) rfl (hb hby at_306) rfl (decide_eq_true rfl) (by decide) (by decide) k) ?_
      refine own_go (A' := (T202.setTop (mkF m 313 #[.val (.int p0), .val (.int p1), .val (.int p2), .val (.int p3), .val (.int p4), .val (.int (p0 &&& (3 : Int32))), .val (.ref bA), .val (.int pf), .val (.int pn), .val (.ref c189), .val (.ref w_SHA_256), .val (.ref w_SHA_256)] [(.ref w_SHA_256)]))) (fun t k => ?_) ?_
      · show Steps p.tables e below (T202.setTop (mkF m 311 #[.val (.int p0), .val (.int p1), .val (.int p2), .val (.int p3), .val (.int p4), .val (.int (p0 &&& (3 : Int32))), .val (.ref bA), .val (.int pf), .val (.int pn), .val (.ref c189), .val (.ref w_SHA_256), .val (.ref w_SHA_256)] [])) _
        refine XS.aload X202.here hx rfl (hb hby at_311) rfl rfl ?_
        exact k
      refine own_go (A' := (T202.setTop (mkF m 316 #[.val (.int p0), .val (.int p1), .val (.int p2), .val (.int p3), .val (.int p4), .val (.int (p0 &&& (3 : Int32))), .val (.ref bA), .val (.int pf), .val (.int pn), .val (.ref c189), .val (.ref w_SHA_256), .val (.ref w_SHA_256)] []))) (fun t k => XS.ifnullNo X202.here hx rfl (hb hby at_313) rfl k) ?_
      obtain ⟨cq203, kq203, q203a, q203b, q203c⟩ := isOf hZ190 rfl (E_SHA_256.ext B202)
      obtain ⟨_, _, ⟨T203, L203, k203, n203⟩, -, X203, ⟨Lc203, hQ203, l203, y203, z203⟩, st203⟩ := X202.virtualBack hx (y := (⟨"com/example/lading/lading/packaging/ChecksumAlgorithm", "manifestName", "()Ljava/lang/String;"⟩ : MethodName)) (z := (⟨"com/example/lading/lading/packaging/ChecksumAlgorithm", "manifestName", "()Ljava/lang/String;"⟩ : MethodName)) hown190 (mvT hZ190 (hw _ (List.mem_of_getElem? (i := 75) rfl))) (mvT hZ190 (hw _ (List.mem_of_getElem? (i := 76) rfl))) (notFace_of_selects (args := #[]) (mvT hZ190 (hw _ (List.mem_of_getElem? (i := 78) rfl)))) (mvT hZ190 (hw _ (List.mem_of_getElem? (i := 78) rfl))) (mvT hZ190 (hw _ (List.mem_of_getElem? (i := 77) rfl))) (by decide) (backOf (W := 0) (rm13 l Z a0 hw [] w_SHA_256 x_SHA_256 T202.heap n0 (Nat.le_trans Z0 K202.1) (M_SHA_256.ext B202)) hZ190 (hw _ (List.mem_of_getElem? (i := 79) rfl)) (hw _ (List.mem_of_getElem? (i := 51) rfl)) (by decide) (by decide)) q203a q203c (g := (mkF m 318 #[.val (.int p0), .val (.int p1), .val (.int p2), .val (.int p3), .val (.int p4), .val (.int (p0 &&& (3 : Int32))), .val (.ref bA), .val (.int pf), .val (.int pn), .val (.ref c189), .val (.ref w_SHA_256), .val (.ref w_SHA_256)] [(.ref w_SHA_256)])) rfl (by rw [hml]; rfl) (Steps.refl _) (argsL := []) (rest := []) (lenOf pd_6 rfl) rfl (by show 2 * 0 + _ ≤ _; exact Nat.le_of_eq rfl) (hb hby at_318) (fun _ _ => ⟨rfl, rfl, (by decide : 10 + 0 ≤ _), (by decide : 62 + 0 ≤ _)⟩)
      dsimp only [Pt.U, Pt.locs, Pt.cells, Pt.slots] at X203 l203 y203 z203 st203 hQ203
      subst l203 y203 z203
      obtain ⟨rfl, N203q, e203⟩ := hQ203
      have N203 := Fr.app N202 N203q
      obtain ⟨cq204, kq204, q204a, q204b, q204c⟩ := isOf hZ190 e203 (X_SHA_256.ext B202).1
      obtain ⟨_, _, ⟨T204, L204, k204, n204⟩, -, X204, ⟨Lc204, hQ204, l204, y204, z204⟩, st204⟩ := X203.virtualBack hx (y := (⟨"java/lang/String", "equals", "(Ljava/lang/Object;)Z"⟩ : MethodName)) (z := (⟨"java/lang/String", "equals", "(Ljava/lang/Object;)Z"⟩ : MethodName)) hown190 (mvT hZ190 (hw _ (List.mem_of_getElem? (i := 40) rfl))) (mvT hZ190 (hw _ (List.mem_of_getElem? (i := 41) rfl))) (notFace_of_selects (args := #[]) (mvT hZ190 (hw _ (List.mem_of_getElem? (i := 43) rfl)))) (mvT hZ190 (hw _ (List.mem_of_getElem? (i := 43) rfl))) (mvT hZ190 (hw _ (List.mem_of_getElem? (i := 42) rfl))) (by decide) (own_eqB (W := 0) hZ190 hw (X_SHA_256.ext B202) ((F189q.ext E190).keep K202q nin0) (S_CS.ext B202) hCS (by decide) (by decide)) q204a q204c (g := (mkF m 323 #[.val (.int p0), .val (.int p1), .val (.int p2), .val (.int p3), .val (.int p4), .val (.int (p0 &&& (3 : Int32))), .val (.ref bA), .val (.int pf), .val (.int pn), .val (.ref c189), .val (.ref w_SHA_256), .val (.ref w_SHA_256)] [(.ref c189), (.ref x_SHA_256)])) rfl (by rw [hml]; rfl) (Steps.refl _) (argsL := [(.ref c189)]) (rest := []) (lenOf pd_3 rfl) rfl (by show 2 * 0 + _ ≤ _; exact Nat.le_of_eq rfl) (hb hby at_323) (fun _ _ => ⟨rfl, e203, (by decide : 10 + 0 ≤ _), (by decide : 62 + 0 ≤ _)⟩)
      dsimp only [Pt.U, Pt.locs, Pt.cells, Pt.slots] at X204 l204 y204 z204 st204 hQ204
      subst l204 y204 z204
      obtain ⟨ho204, rfl, e204⟩ := hQ204
      obtain rfl := own_eqI ho204
      have N204 := Fr.app N203 (Fr.nil n0)
      refine own_go (A' := (T204.setTop (mkF m 326 #[.val (.int p0), .val (.int p1), .val (.int p2), .val (.int p3), .val (.int p4), .val (.int (p0 &&& (3 : Int32))), .val (.ref bA), .val (.int pf), .val (.int pn), .val (.ref c189), .val (.ref w_SHA_256), .val (.ref w_SHA_256)] [(.int (eqI sha cs189))]))) (fun t k => ?_) ?_
      · show Steps p.tables e below (T202.setTop (mkF m 316 #[.val (.int p0), .val (.int p1), .val (.int p2), .val (.int p3), .val (.int p4), .val (.int (p0 &&& (3 : Int32))), .val (.ref bA), .val (.int pf), .val (.int pn), .val (.ref c189), .val (.ref w_SHA_256), .val (.ref w_SHA_256)] [])) _
        refine XS.aload X202.here hx rfl (hb hby at_316) rfl rfl ?_
        show Steps p.tables e below (T202.setTop (mkF m 318 #[.val (.int p0), .val (.int p1), .val (.int p2), .val (.int p3), .val (.int p4), .val (.int (p0 &&& (3 : Int32))), .val (.ref bA), .val (.int pf), .val (.int pn), .val (.ref c189), .val (.ref w_SHA_256), .val (.ref w_SHA_256)] [(.ref w_SHA_256)])) _
        refine st203.trans ?_
        show Steps p.tables e below (T203.setTop (mkF m 321 #[.val (.int p0), .val (.int p1), .val (.int p2), .val (.int p3), .val (.int p4), .val (.int (p0 &&& (3 : Int32))), .val (.ref bA), .val (.int pf), .val (.int pn), .val (.ref c189), .val (.ref w_SHA_256), .val (.ref w_SHA_256)] [(.ref x_SHA_256)])) _
        refine XS.aload X203.here hx rfl (hb hby at_321) rfl rfl ?_
        show Steps p.tables e below (T203.setTop (mkF m 323 #[.val (.int p0), .val (.int p1), .val (.int p2), .val (.int p3), .val (.int p4), .val (.int (p0 &&& (3 : Int32))), .val (.ref bA), .val (.int pf), .val (.int pn), .val (.ref c189), .val (.ref w_SHA_256), .val (.ref w_SHA_256)] [(.ref c189), (.ref x_SHA_256)])) _
        refine st204.trans ?_
        exact k
      obtain ⟨fs, hr, hrun, hended, hend⟩ := X204.leaveW (v := some (.int (eqI sha cs189))) hS190 (by rw [e204]; exact hk202) (fun h => by rw [Bd.returns] at h; cases h) hlk
      refine ⟨_, _, ?_, hrun, hended, _, _, rfl, ?_, ?_, ⟨_, rfl⟩, hend.2.1, hend.2.2.1, hend.2.2.2.mono (by decide) (by decide)⟩
      · show Steps p.tables e below (T204.setTop (mkF m 326 #[.val (.int p0), .val (.int p1), .val (.int p2), .val (.int p3), .val (.int p4), .val (.int (p0 &&& (3 : Int32))), .val (.ref bA), .val (.int pf), .val (.int pn), .val (.ref c189), .val (.ref w_SHA_256), .val (.ref w_SHA_256)] [(.int (eqI sha cs189))])) _
        exact retOut (w := (.int (eqI sha cs189))) X204 hx Bd.returns (own_nbool _ _) (Or.inl ⟨rfl, by simp, _, rfl⟩) (hb hby at_326) hr
      · show Q0 Z p0 p1 p2 p3 p4 w_SHA_256 w_MD5 x_SHA_256 x_MD5 w_V clV zCS h0 n0 _ T204.heap _
        exact ⟨congrArg (fun z => some (Value.int z)) (own_one hc192), N204⟩
      · show CHr Z consts_1 s.vm s.heap T204.vm T204.heap
        rw [hh, e204]
        exact Cx202.trans (CHv.at X204 hZ190 hEL Cx202.1)
set_option maxRecDepth 65536 in
set_option maxHeartbeats 40000000 in
theorem tail196 (l : Launch) (Z : State) (a0 : Array Value) (hw : ∀ d ∈ tables_1, d.before a0 Z = true) (ws : List Jvm.Cond) (p0 : Int32) (p1 : Int32) (p2 : Int32) (p3 : Int32) (p4 : Int32) (w_SHA_256 : Addr) (w_MD5 : Addr) (x_SHA_256 : Addr) (x_MD5 : Addr) (w_V : Addr) (clV : Cell) (zCS : Int32) (h0 : Heap) (n0 : Nat) (Z0 : n0 ≤ h0.size) (S_V : Sta Z h0 "com/example/lading/lading/packaging/ChecksumAlgorithm" "$VALUES" "[Lcom/example/lading/lading/packaging/ChecksumAlgorithm;" (.ref w_V)) (Ar_V : Arr Z h0 w_V clV (.object "com/example/lading/lading/packaging/ChecksumAlgorithm")) (E_V : Exa Z h0 w_V "[Lcom/example/lading/lading/packaging/ChecksumAlgorithm;") (Ft_V : FitC Z clV) (L_V : clV.slots.size = 2) (V_0 : clV.slots[0]? = some (.ref w_SHA_256)) (V_1 : clV.slots[1]? = some (.ref w_MD5)) (M_SHA_256 : Fld Z h0 w_SHA_256 "com/example/lading/lading/packaging/ChecksumAlgorithm" "manifestName" "Ljava/lang/String;" (.ref x_SHA_256)) (M_MD5 : Fld Z h0 w_MD5 "com/example/lading/lading/packaging/ChecksumAlgorithm" "manifestName" "Ljava/lang/String;" (.ref x_MD5)) (X_SHA_256 : SF Z h0 x_SHA_256 sha) (X_MD5 : SF Z h0 x_MD5 md5) (S_CS : Sta Z h0 "java/lang/String" "COMPACT_STRINGS" "Z" (.int zCS)) (hCS : ¬ zCS = 0) (E_SHA_256 : Exa Z h0 w_SHA_256 "com/example/lading/lading/packaging/ChecksumAlgorithm") (E_MD5 : Exa Z h0 w_MD5 "com/example/lading/lading/packaging/ChecksumAlgorithm") (S_SHA_256 : Sta Z h0 "com/example/lading/lading/packaging/ChecksumAlgorithm" "SHA_256" "Lcom/example/lading/lading/packaging/ChecksumAlgorithm;" (.ref w_SHA_256)) (S_MD5 : Sta Z h0 "com/example/lading/lading/packaging/ChecksumAlgorithm" "MD5" "Lcom/example/lading/lading/packaging/ChecksumAlgorithm;" (.ref w_MD5)) {p : Program} {e : Env} {s : State} {m : MethodId} {below : List Frame} {meth : Method} {c : Code} {s₁ : State} (Bd : BodyLoose p l x (head1 (Jvm.Cond.code x code maxLocals ret :: ws) room_1) code maxLocals ret e s m #[(.int p0), (.int p1), (.int p2), (.int p3), (.int p4)] below meth c s₁) (hml0 : c.maxLocals = maxLocals) (hZ : Z.Warmed39 s.vm) (hh : s.heap = h0) (hC0 : CHv Z consts_1 s.vm h0)
    {Tt : State} {lt : List Loc} {Ht : Heap} (bA : Addr) (kC : ClassId) (c0 : Int32) (c1 : Int32) (c2 : Int32) (c3 : Int32) (c4 : Int32) (c5 : Int32) (c6 : Int32) (c7 : Int32) (pf : Int32) (Xt : Stand p l e room_1 (s.setVm s.vm) m #[(.int p0), (.int p1), (.int p2), (.int p3), (.int p4)] below meth c Tt lt 1 8) (et : Tt.heap = Ht) (Nt : Fr n0 lt) (Kt : Keep h0 Ht []) (Ct : CHr Z consts_1 s.vm h0 s.vm Ht) (Vt : Arv Z Ht bA kC .char (8 : Int32) [(.int c0), (.int c1), (.int c2), (.int c3), (.int c4), (.int c5), (.int c6), (.int c7)] (.int (0 : Int32))) (sz_bA : h0.size ≤ bA) (g0 : rg c0) (g1 : rg c1) (g2 : rg c2) (g3 : rg c3) (g4 : rg c4) (g5 : rg c5) (g6 : rg c6) (g7 : rg c7) :
    ∃ s₂ o, Steps p.tables e below (Tt.setTop (mkF m 196 #[.val (.int p0), .val (.int p1), .val (.int p2), .val (.int p3), .val (.int p4), .val (.int (p0 &&& (3 : Int32))), .val (.ref bA), .val (.int pf), .unset, .unset, .unset, .unset] [])) s₂ ∧ s₂.status = .running ∧ Ended s₂ below o ∧ ∃ v L, o = .returned v ∧ Q0 Z p0 p1 p2 p3 p4 w_SHA_256 w_MD5 x_SHA_256 x_MD5 w_V clV zCS h0 n0 v s₂.heap L ∧ CHr Z consts_1 s.vm s.heap s₂.vm s₂.heap ∧ ReturnedEndW s o s₂ L room_1.cells room_1.slots := by
  have hx := Bd.exec
  have hlk : meth.locks = false := BodyLoose.notSynchronized Bd
  have hby := Bd.bytes
  have hml : c.maxLocals = 12 := hml0
  have hown : s.vm.findClass "com/example/lading/lading/packaging/ChecksumAlgorithmNamedPinLaw" = some m.cls := findClass_of_methodNamed Bd.named
  have hnm := (name_of_methodNamed Bd.named Bd.method).1
  have hEL := own_EL hw
  have wS := own_wS hw
  have hS0 : s.Since s.vm h0.size := (State.WarmedH.refl s).since _
  have Bt := own_keep_ext Kt
  refine own_go (A' := (Tt.setTop (mkF m 200 #[.val (.int p0), .val (.int p1), .val (.int p2), .val (.int p3), .val (.int p4), .val (.int (p0 &&& (3 : Int32))), .val (.ref bA), .val (.int pf), .unset, .unset, .unset, .unset] [(.int (p3 &&& (16 : Int32)))]))) (fun t k => ?_) ?_
  · show Steps p.tables e below (Tt.setTop (mkF m 196 #[.val (.int p0), .val (.int p1), .val (.int p2), .val (.int p3), .val (.int p4), .val (.int (p0 &&& (3 : Int32))), .val (.ref bA), .val (.int pf), .unset, .unset, .unset, .unset] [])) _
    refine XS.iloadN Xt.here hx rfl (hb hby at_196) rfl ?_
    show Steps p.tables e below (Tt.setTop (mkF m 197 #[.val (.int p0), .val (.int p1), .val (.int p2), .val (.int p3), .val (.int p4), .val (.int (p0 &&& (3 : Int32))), .val (.ref bA), .val (.int pf), .unset, .unset, .unset, .unset] [(.int p3)])) _
    refine XS.bipush Xt.here hx rfl (hb hby at_197) ?_
    show Steps p.tables e below (Tt.setTop (mkF m 199 #[.val (.int p0), .val (.int p1), .val (.int p2), .val (.int p3), .val (.int p4), .val (.int (p0 &&& (3 : Int32))), .val (.ref bA), .val (.int pf), .unset, .unset, .unset, .unset] [(.int (16 : Int32)), (.int p3)])) _
    refine XS.iand Xt.here hx rfl (hb hby at_199) rfl ?_
    exact k
  by_cases hc205 : (p3 &&& (16 : Int32)) = (0 : Int32)
  · -- hc205: yes
    refine own_go (A' := (Tt.setTop (mkF m 208 #[.val (.int p0), .val (.int p1), .val (.int p2), .val (.int p3), .val (.int p4), .val (.int (p0 &&& (3 : Int32))), .val (.ref bA), .val (.int pf), .unset, .unset, .unset, .unset] []))) (fun t k => XS.ifYes Xt.here hx rfl (pc0 := 200) (pc' := 208) rfl (hb hby at_200) rfl ((if0 _ _).trans (teq hc205).1) (by decide) (by decide) k) ?_
    refine own_go (A' := (Tt.setTop (mkF m 212 #[.val (.int p0), .val (.int p1), .val (.int p2), .val (.int p3), .val (.int p4), .val (.int (p0 &&& (3 : Int32))), .val (.ref bA), .val (.int pf), .unset, .unset, .unset, .unset] [(.int (p3 &&& (8 : Int32)))]))) (fun t k => ?_) ?_
    · show Steps p.tables e below (Tt.setTop (mkF m 208 #[.val (.int p0), .val (.int p1), .val (.int p2), .val (.int p3), .val (.int p4), .val (.int (p0 &&& (3 : Int32))), .val (.ref bA), .val (.int pf), .unset, .unset, .unset, .unset] [])) _
      refine XS.iloadN Xt.here hx rfl (hb hby at_208) rfl ?_
      show Steps p.tables e below (Tt.setTop (mkF m 209 #[.val (.int p0), .val (.int p1), .val (.int p2), .val (.int p3), .val (.int p4), .val (.int (p0 &&& (3 : Int32))), .val (.ref bA), .val (.int pf), .unset, .unset, .unset, .unset] [(.int p3)])) _
      refine XS.bipush Xt.here hx rfl (hb hby at_209) ?_
      show Steps p.tables e below (Tt.setTop (mkF m 211 #[.val (.int p0), .val (.int p1), .val (.int p2), .val (.int p3), .val (.int p4), .val (.int (p0 &&& (3 : Int32))), .val (.ref bA), .val (.int pf), .unset, .unset, .unset, .unset] [(.int (8 : Int32)), (.int p3)])) _
      refine XS.iand Xt.here hx rfl (hb hby at_211) rfl ?_
      exact k
    by_cases hc206 : (p3 &&& (8 : Int32)) = (0 : Int32)
    · -- hc206: yes
      refine own_go (A' := (Tt.setTop (mkF m 222 #[.val (.int p0), .val (.int p1), .val (.int p2), .val (.int p3), .val (.int p4), .val (.int (p0 &&& (3 : Int32))), .val (.ref bA), .val (.int pf), .unset, .unset, .unset, .unset] []))) (fun t k => XS.ifYes Xt.here hx rfl (pc0 := 212) (pc' := 222) rfl (hb hby at_212) rfl ((if0 _ _).trans (teq hc206).1) (by decide) (by decide) k) ?_
      refine own_go (A' := (Tt.setTop (mkF m 226 #[.val (.int p0), .val (.int p1), .val (.int p2), .val (.int p3), .val (.int p4), .val (.int (p0 &&& (3 : Int32))), .val (.ref bA), .val (.int pf), .val (.int pf), .unset, .unset, .unset] []))) (fun t k => ?_) ?_
      · show Steps p.tables e below (Tt.setTop (mkF m 222 #[.val (.int p0), .val (.int p1), .val (.int p2), .val (.int p3), .val (.int p4), .val (.int (p0 &&& (3 : Int32))), .val (.ref bA), .val (.int pf), .unset, .unset, .unset, .unset] [])) _
        refine XS.iload Xt.here hx rfl (hb hby at_222) rfl ?_
        show Steps p.tables e below (Tt.setTop (mkF m 224 #[.val (.int p0), .val (.int p1), .val (.int p2), .val (.int p3), .val (.int p4), .val (.int (p0 &&& (3 : Int32))), .val (.ref bA), .val (.int pf), .unset, .unset, .unset, .unset] [(.int pf)])) _
        refine XS.istore Xt.here hx rfl (hb hby at_224) rfl (l' := #[.val (.int p0), .val (.int p1), .val (.int p2), .val (.int p3), .val (.int p4), .val (.int (p0 &&& (3 : Int32))), .val (.ref bA), .val (.int pf), .val (.int pf), .unset, .unset, .unset]) rfl ?_
        exact k
      exact tail226 l Z a0 hw ws p0 p1 p2 p3 p4 w_SHA_256 w_MD5 x_SHA_256 x_MD5 w_V clV zCS h0 n0 Z0 S_V Ar_V E_V Ft_V L_V V_0 V_1 M_SHA_256 M_MD5 X_SHA_256 X_MD5 S_CS hCS E_SHA_256 E_MD5 S_SHA_256 S_MD5 Bd hml0 hZ hh hC0 bA kC c0 c1 c2 c3 c4 c5 c6 c7 pf pf Xt et Nt Kt Ct Vt sz_bA g0 g1 g2 g3 g4 g5 g6 g7
    · -- hc206: no
      refine own_go (A' := (Tt.setTop (mkF m 215 #[.val (.int p0), .val (.int p1), .val (.int p2), .val (.int p3), .val (.int p4), .val (.int (p0 &&& (3 : Int32))), .val (.ref bA), .val (.int pf), .unset, .unset, .unset, .unset] []))) (fun t k => XS.ifNo Xt.here hx rfl (hb hby at_212) rfl ((if0 _ _).trans (feq hc206).1) k) ?_
      refine own_go (A' := (Tt.setTop (mkF m 226 #[.val (.int p0), .val (.int p1), .val (.int p2), .val (.int p3), .val (.int p4), .val (.int (p0 &&& (3 : Int32))), .val (.ref bA), .val (.int pf), .val (.int (p3 &&& (7 : Int32))), .unset, .unset, .unset] []))) (fun t k => ?_) ?_
      · show Steps p.tables e below (Tt.setTop (mkF m 215 #[.val (.int p0), .val (.int p1), .val (.int p2), .val (.int p3), .val (.int p4), .val (.int (p0 &&& (3 : Int32))), .val (.ref bA), .val (.int pf), .unset, .unset, .unset, .unset] [])) _
        refine XS.iloadN Xt.here hx rfl (hb hby at_215) rfl ?_
        show Steps p.tables e below (Tt.setTop (mkF m 216 #[.val (.int p0), .val (.int p1), .val (.int p2), .val (.int p3), .val (.int p4), .val (.int (p0 &&& (3 : Int32))), .val (.ref bA), .val (.int pf), .unset, .unset, .unset, .unset] [(.int p3)])) _
        refine XS.bipush Xt.here hx rfl (hb hby at_216) ?_
        show Steps p.tables e below (Tt.setTop (mkF m 218 #[.val (.int p0), .val (.int p1), .val (.int p2), .val (.int p3), .val (.int p4), .val (.int (p0 &&& (3 : Int32))), .val (.ref bA), .val (.int pf), .unset, .unset, .unset, .unset] [(.int (7 : Int32)), (.int p3)])) _
        refine XS.iand Xt.here hx rfl (hb hby at_218) rfl ?_
        show Steps p.tables e below (Tt.setTop (mkF m 219 #[.val (.int p0), .val (.int p1), .val (.int p2), .val (.int p3), .val (.int p4), .val (.int (p0 &&& (3 : Int32))), .val (.ref bA), .val (.int pf), .unset, .unset, .unset, .unset] [(.int (p3 &&& (7 : Int32)))])) _
        refine XS.goto Xt.here hx rfl (pc0 := 219) (pc' := 224) rfl (hb hby at_219) (by decide) (by decide) ?_
        show Steps p.tables e below (Tt.setTop (mkF m 224 #[.val (.int p0), .val (.int p1), .val (.int p2), .val (.int p3), .val (.int p4), .val (.int (p0 &&& (3 : Int32))), .val (.ref bA), .val (.int pf), .unset, .unset, .unset, .unset] [(.int (p3 &&& (7 : Int32)))])) _
        refine XS.istore Xt.here hx rfl (hb hby at_224) rfl (l' := #[.val (.int p0), .val (.int p1), .val (.int p2), .val (.int p3), .val (.int p4), .val (.int (p0 &&& (3 : Int32))), .val (.ref bA), .val (.int pf), .val (.int (p3 &&& (7 : Int32))), .unset, .unset, .unset]) rfl ?_
        exact k
      exact tail226 l Z a0 hw ws p0 p1 p2 p3 p4 w_SHA_256 w_MD5 x_SHA_256 x_MD5 w_V clV zCS h0 n0 Z0 S_V Ar_V E_V Ft_V L_V V_0 V_1 M_SHA_256 M_MD5 X_SHA_256 X_MD5 S_CS hCS E_SHA_256 E_MD5 S_SHA_256 S_MD5 Bd hml0 hZ hh hC0 bA kC c0 c1 c2 c3 c4 c5 c6 c7 pf (p3 &&& (7 : Int32)) Xt et Nt Kt Ct Vt sz_bA g0 g1 g2 g3 g4 g5 g6 g7
  · -- hc205: no
    refine own_go (A' := (Tt.setTop (mkF m 203 #[.val (.int p0), .val (.int p1), .val (.int p2), .val (.int p3), .val (.int p4), .val (.int (p0 &&& (3 : Int32))), .val (.ref bA), .val (.int pf), .unset, .unset, .unset, .unset] []))) (fun t k => XS.ifNo Xt.here hx rfl (hb hby at_200) rfl ((if0 _ _).trans (feq hc205).1) k) ?_
    refine own_go (A' := (Tt.setTop (mkF m 226 #[.val (.int p0), .val (.int p1), .val (.int p2), .val (.int p3), .val (.int p4), .val (.int (p0 &&& (3 : Int32))), .val (.ref bA), .val (.int pf), .val (.int (8 : Int32)), .unset, .unset, .unset] []))) (fun t k => ?_) ?_
    · show Steps p.tables e below (Tt.setTop (mkF m 203 #[.val (.int p0), .val (.int p1), .val (.int p2), .val (.int p3), .val (.int p4), .val (.int (p0 &&& (3 : Int32))), .val (.ref bA), .val (.int pf), .unset, .unset, .unset, .unset] [])) _
      refine XS.bipush Xt.here hx rfl (hb hby at_203) ?_
      show Steps p.tables e below (Tt.setTop (mkF m 205 #[.val (.int p0), .val (.int p1), .val (.int p2), .val (.int p3), .val (.int p4), .val (.int (p0 &&& (3 : Int32))), .val (.ref bA), .val (.int pf), .unset, .unset, .unset, .unset] [(.int (8 : Int32))])) _
      refine XS.goto Xt.here hx rfl (pc0 := 205) (pc' := 224) rfl (hb hby at_205) (by decide) (by decide) ?_
      show Steps p.tables e below (Tt.setTop (mkF m 224 #[.val (.int p0), .val (.int p1), .val (.int p2), .val (.int p3), .val (.int p4), .val (.int (p0 &&& (3 : Int32))), .val (.ref bA), .val (.int pf), .unset, .unset, .unset, .unset] [(.int (8 : Int32))])) _
      refine XS.istore Xt.here hx rfl (hb hby at_224) rfl (l' := #[.val (.int p0), .val (.int p1), .val (.int p2), .val (.int p3), .val (.int p4), .val (.int (p0 &&& (3 : Int32))), .val (.ref bA), .val (.int pf), .val (.int (8 : Int32)), .unset, .unset, .unset]) rfl ?_
      exact k
    exact tail226 l Z a0 hw ws p0 p1 p2 p3 p4 w_SHA_256 w_MD5 x_SHA_256 x_MD5 w_V clV zCS h0 n0 Z0 S_V Ar_V E_V Ft_V L_V V_0 V_1 M_SHA_256 M_MD5 X_SHA_256 X_MD5 S_CS hCS E_SHA_256 E_MD5 S_SHA_256 S_MD5 Bd hml0 hZ hh hC0 bA kC c0 c1 c2 c3 c4 c5 c6 c7 pf (8 : Int32) Xt et Nt Kt Ct Vt sz_bA g0 g1 g2 g3 g4 g5 g6 g7
theorem pd_7 : parseMethodDescriptor "(II)C" = some ⟨[.int, .int], some .char⟩ := by decide +kernel
set_option maxRecDepth 65536 in
set_option maxHeartbeats 40000000 in
theorem tail175 (l : Launch) (Z : State) (a0 : Array Value) (hw : ∀ d ∈ tables_1, d.before a0 Z = true) (ws : List Jvm.Cond) (p0 : Int32) (p1 : Int32) (p2 : Int32) (p3 : Int32) (p4 : Int32) (w_SHA_256 : Addr) (w_MD5 : Addr) (x_SHA_256 : Addr) (x_MD5 : Addr) (w_V : Addr) (clV : Cell) (zCS : Int32) (h0 : Heap) (n0 : Nat) (Z0 : n0 ≤ h0.size) (S_V : Sta Z h0 "com/example/lading/lading/packaging/ChecksumAlgorithm" "$VALUES" "[Lcom/example/lading/lading/packaging/ChecksumAlgorithm;" (.ref w_V)) (Ar_V : Arr Z h0 w_V clV (.object "com/example/lading/lading/packaging/ChecksumAlgorithm")) (E_V : Exa Z h0 w_V "[Lcom/example/lading/lading/packaging/ChecksumAlgorithm;") (Ft_V : FitC Z clV) (L_V : clV.slots.size = 2) (V_0 : clV.slots[0]? = some (.ref w_SHA_256)) (V_1 : clV.slots[1]? = some (.ref w_MD5)) (M_SHA_256 : Fld Z h0 w_SHA_256 "com/example/lading/lading/packaging/ChecksumAlgorithm" "manifestName" "Ljava/lang/String;" (.ref x_SHA_256)) (M_MD5 : Fld Z h0 w_MD5 "com/example/lading/lading/packaging/ChecksumAlgorithm" "manifestName" "Ljava/lang/String;" (.ref x_MD5)) (X_SHA_256 : SF Z h0 x_SHA_256 sha) (X_MD5 : SF Z h0 x_MD5 md5) (S_CS : Sta Z h0 "java/lang/String" "COMPACT_STRINGS" "Z" (.int zCS)) (hCS : ¬ zCS = 0) (E_SHA_256 : Exa Z h0 w_SHA_256 "com/example/lading/lading/packaging/ChecksumAlgorithm") (E_MD5 : Exa Z h0 w_MD5 "com/example/lading/lading/packaging/ChecksumAlgorithm") (S_SHA_256 : Sta Z h0 "com/example/lading/lading/packaging/ChecksumAlgorithm" "SHA_256" "Lcom/example/lading/lading/packaging/ChecksumAlgorithm;" (.ref w_SHA_256)) (S_MD5 : Sta Z h0 "com/example/lading/lading/packaging/ChecksumAlgorithm" "MD5" "Lcom/example/lading/lading/packaging/ChecksumAlgorithm;" (.ref w_MD5)) {p : Program} {e : Env} {s : State} {m : MethodId} {below : List Frame} {meth : Method} {c : Code} {s₁ : State} (Bd : BodyLoose p l x (head1 (Jvm.Cond.code x code maxLocals ret :: ws) room_1) code maxLocals ret e s m #[(.int p0), (.int p1), (.int p2), (.int p3), (.int p4)] below meth c s₁) (hml0 : c.maxLocals = maxLocals) (hZ : Z.Warmed39 s.vm) (hh : s.heap = h0) (hC0 : CHv Z consts_1 s.vm h0)
    {Tt : State} {lt : List Loc} {Ht : Heap} (bA : Addr) (kC : ClassId) (c0 : Int32) (c1 : Int32) (c2 : Int32) (c3 : Int32) (c4 : Int32) (c5 : Int32) (c6 : Int32) (c7 : Int32) (pf : Int32) (Xt : Stand p l e room_1 (s.setVm s.vm) m #[(.int p0), (.int p1), (.int p2), (.int p3), (.int p4)] below meth c Tt lt 1 8) (et : Tt.heap = Ht) (Nt : Fr n0 lt) (Kt : Keep h0 Ht []) (Ct : CHr Z consts_1 s.vm h0 s.vm Ht) (Vt : Arv Z Ht bA kC .char (8 : Int32) [(.int c0), (.int c1), (.int c2), (.int c3), (.int c4), (.int c5), (.int c6), (.int c7)] (.int (0 : Int32))) (sz_bA : h0.size ≤ bA) (g0 : rg c0) (g1 : rg c1) (g2 : rg c2) (g3 : rg c3) (g4 : rg c4) (g5 : rg c5) (g6 : rg c6) (g7 : rg c7) :
    ∃ s₂ o, Steps p.tables e below (Tt.setTop (mkF m 175 #[.val (.int p0), .val (.int p1), .val (.int p2), .val (.int p3), .val (.int p4), .val (.int (p0 &&& (3 : Int32))), .val (.ref bA), .val (.int pf), .unset, .unset, .unset, .unset] [])) s₂ ∧ s₂.status = .running ∧ Ended s₂ below o ∧ ∃ v L, o = .returned v ∧ Q0 Z p0 p1 p2 p3 p4 w_SHA_256 w_MD5 x_SHA_256 x_MD5 w_V clV zCS h0 n0 v s₂.heap L ∧ CHr Z consts_1 s.vm s.heap s₂.vm s₂.heap ∧ ReturnedEndW s o s₂ L room_1.cells room_1.slots := by
  have hx := Bd.exec
  have hlk : meth.locks = false := BodyLoose.notSynchronized Bd
  have hby := Bd.bytes
  have hml : c.maxLocals = 12 := hml0
  have hown : s.vm.findClass "com/example/lading/lading/packaging/ChecksumAlgorithmNamedPinLaw" = some m.cls := findClass_of_methodNamed Bd.named
  have hnm := (name_of_methodNamed Bd.named Bd.method).1
  have hEL := own_EL hw
  have wS := own_wS hw
  have hS0 : s.Since s.vm h0.size := (State.WarmedH.refl s).since _
  have Bt := own_keep_ext Kt
  refine own_go (A' := (Tt.setTop (mkF m 178 #[.val (.int p0), .val (.int p1), .val (.int p2), .val (.int p3), .val (.int p4), .val (.int (p0 &&& (3 : Int32))), .val (.ref bA), .val (.int pf), .unset, .unset, .unset, .unset] [(.int (p0 &&& (4 : Int32)))]))) (fun t k => ?_) ?_
  · show Steps p.tables e below (Tt.setTop (mkF m 175 #[.val (.int p0), .val (.int p1), .val (.int p2), .val (.int p3), .val (.int p4), .val (.int (p0 &&& (3 : Int32))), .val (.ref bA), .val (.int pf), .unset, .unset, .unset, .unset] [])) _
    refine XS.iloadN Xt.here hx rfl (hb hby at_175) rfl ?_
    show Steps p.tables e below (Tt.setTop (mkF m 176 #[.val (.int p0), .val (.int p1), .val (.int p2), .val (.int p3), .val (.int p4), .val (.int (p0 &&& (3 : Int32))), .val (.ref bA), .val (.int pf), .unset, .unset, .unset, .unset] [(.int p0)])) _
    refine XS.iconst Xt.here hx rfl (hb hby at_176) ?_
    show Steps p.tables e below (Tt.setTop (mkF m 177 #[.val (.int p0), .val (.int p1), .val (.int p2), .val (.int p3), .val (.int p4), .val (.int (p0 &&& (3 : Int32))), .val (.ref bA), .val (.int pf), .unset, .unset, .unset, .unset] [(.int (4 : Int32)), (.int p0)])) _
    refine XS.iand Xt.here hx rfl (hb hby at_177) rfl ?_
    exact k
  by_cases hc207 : (p0 &&& (4 : Int32)) = (0 : Int32)
  · -- hc207: yes
    refine own_go (A' := (Tt.setTop (mkF m 196 #[.val (.int p0), .val (.int p1), .val (.int p2), .val (.int p3), .val (.int p4), .val (.int (p0 &&& (3 : Int32))), .val (.ref bA), .val (.int pf), .unset, .unset, .unset, .unset] []))) (fun t k => XS.ifYes Xt.here hx rfl (pc0 := 178) (pc' := 196) rfl (hb hby at_178) rfl ((if0 _ _).trans (teq hc207).1) (by decide) (by decide) k) ?_
    exact tail196 l Z a0 hw ws p0 p1 p2 p3 p4 w_SHA_256 w_MD5 x_SHA_256 x_MD5 w_V clV zCS h0 n0 Z0 S_V Ar_V E_V Ft_V L_V V_0 V_1 M_SHA_256 M_MD5 X_SHA_256 X_MD5 S_CS hCS E_SHA_256 E_MD5 S_SHA_256 S_MD5 Bd hml0 hZ hh hC0 bA kC c0 c1 c2 c3 c4 c5 c6 c7 pf Xt et Nt Kt Ct Vt sz_bA g0 g1 g2 g3 g4 g5 g6 g7
  · -- hc207: no
    refine own_go (A' := (Tt.setTop (mkF m 181 #[.val (.int p0), .val (.int p1), .val (.int p2), .val (.int p3), .val (.int p4), .val (.int (p0 &&& (3 : Int32))), .val (.ref bA), .val (.int pf), .unset, .unset, .unset, .unset] []))) (fun t k => XS.ifNo Xt.here hx rfl (hb hby at_178) rfl ((if0 _ _).trans (feq hc207).1) k) ?_
    obtain ⟨_, _, ⟨T208, L208, k208, n208⟩, -, X208, ⟨Lc208, hQ208, l208, y208, z208⟩, st208⟩ := Jvm.LawKit.callS Xt hx (y := (⟨"com/example/lading/lading/packaging/ChecksumAlgorithmNamedPinLaw", "b", "(II)C"⟩ : MethodName)) hown (mvT hZ (hw _ (List.mem_of_getElem? (i := 1) rfl))) (mvT hZ (hw _ (List.mem_of_getElem? (i := 2) rfl))) (mvT hZ (hw _ (List.mem_of_getElem? (i := 3) rfl))) (mvT hZ (hw _ (List.mem_of_getElem? (i := 4) rfl))) (by decide) (backOf (W := 2) (rm1 l Z a0 hw [] p0 (1 : Int32)  Ht n0 (Nat.le_trans Z0 Kt.1) ) hZ (hw _ (List.mem_of_getElem? (i := 4) rfl)) (hw _ (List.mem_of_getElem? (i := 3) rfl)) (by decide) (by decide)) (g := (mkF m 192 #[.val (.int p0), .val (.int p1), .val (.int p2), .val (.int p3), .val (.int p4), .val (.int (p0 &&& (3 : Int32))), .val (.ref bA), .val (.int pf), .unset, .unset, .unset, .unset] [(.int (1 : Int32)), (.int p0), (.int ((p1 &&& (2147483647 : Int32)) % (8 : Int32))), (.ref bA)])) rfl (by rw [hml]; rfl) (argsL := [(.int p0), (.int (1 : Int32))]) (rest := [(.int ((p1 &&& (2147483647 : Int32)) % (8 : Int32))), (.ref bA)]) (lenOf pd_7 rfl) rfl (by show 2 * 0 + _ ≤ _; exact Nat.le_of_eq rfl) (hb hby at_192) (fun _ _ => ⟨rfl, et, (by decide : 1 + 0 ≤ _), (by decide : 8 + 0 ≤ _)⟩)
    dsimp only [Pt.U, Pt.locs, Pt.cells, Pt.slots] at X208 l208 y208 z208 st208 hQ208
    subst l208 y208 z208
    obtain ⟨rfl, N208q, e208⟩ := hQ208
    have N208 := Fr.app Nt N208q
    refine own_go (A' := (T208.setTop (mkF m 195 #[.val (.int p0), .val (.int p1), .val (.int p2), .val (.int p3), .val (.int p4), .val (.int (p0 &&& (3 : Int32))), .val (.ref bA), .val (.int pf), .unset, .unset, .unset, .unset] [(.int (bF p0 (1 : Int32))), (.int ((p1 &&& (2147483647 : Int32)) % (8 : Int32))), (.ref bA)]))) (fun t k => ?_) ?_
    · show Steps p.tables e below (Tt.setTop (mkF m 181 #[.val (.int p0), .val (.int p1), .val (.int p2), .val (.int p3), .val (.int p4), .val (.int (p0 &&& (3 : Int32))), .val (.ref bA), .val (.int pf), .unset, .unset, .unset, .unset] [])) _
      refine XS.aload Xt.here hx rfl (hb hby at_181) rfl rfl ?_
      show Steps p.tables e below (Tt.setTop (mkF m 183 #[.val (.int p0), .val (.int p1), .val (.int p2), .val (.int p3), .val (.int p4), .val (.int (p0 &&& (3 : Int32))), .val (.ref bA), .val (.int pf), .unset, .unset, .unset, .unset] [(.ref bA)])) _
      refine XS.iloadN Xt.here hx rfl (hb hby at_183) rfl ?_
      show Steps p.tables e below (Tt.setTop (mkF m 184 #[.val (.int p0), .val (.int p1), .val (.int p2), .val (.int p3), .val (.int p4), .val (.int (p0 &&& (3 : Int32))), .val (.ref bA), .val (.int pf), .unset, .unset, .unset, .unset] [(.int p1), (.ref bA)])) _
      refine Xt.ldcInt hx hown (mvT hZ (hw _ (List.mem_of_getElem? (i := 81) rfl))) (g := (mkF m 184 #[.val (.int p0), .val (.int p1), .val (.int p2), .val (.int p3), .val (.int p4), .val (.int (p0 &&& (3 : Int32))), .val (.ref bA), .val (.int pf), .unset, .unset, .unset, .unset] [(.int p1), (.ref bA)])) rfl (hb hby at_184) _ ?_
      show Steps p.tables e below (Tt.setTop (mkF m 186 #[.val (.int p0), .val (.int p1), .val (.int p2), .val (.int p3), .val (.int p4), .val (.int (p0 &&& (3 : Int32))), .val (.ref bA), .val (.int pf), .unset, .unset, .unset, .unset] [(.int (2147483647 : Int32)), (.int p1), (.ref bA)])) _
      refine XS.iand Xt.here hx rfl (hb hby at_186) rfl ?_
      show Steps p.tables e below (Tt.setTop (mkF m 187 #[.val (.int p0), .val (.int p1), .val (.int p2), .val (.int p3), .val (.int p4), .val (.int (p0 &&& (3 : Int32))), .val (.ref bA), .val (.int pf), .unset, .unset, .unset, .unset] [(.int (p1 &&& (2147483647 : Int32))), (.ref bA)])) _
      refine XS.bipush Xt.here hx rfl (hb hby at_187) ?_
      show Steps p.tables e below (Tt.setTop (mkF m 189 #[.val (.int p0), .val (.int p1), .val (.int p2), .val (.int p3), .val (.int p4), .val (.int (p0 &&& (3 : Int32))), .val (.ref bA), .val (.int pf), .unset, .unset, .unset, .unset] [(.int (8 : Int32)), (.int (p1 &&& (2147483647 : Int32))), (.ref bA)])) _
      refine iremM Xt hx (g := (mkF m 189 #[.val (.int p0), .val (.int p1), .val (.int p2), .val (.int p3), .val (.int p4), .val (.int (p0 &&& (3 : Int32))), .val (.ref bA), .val (.int pf), .unset, .unset, .unset, .unset] [(.int (8 : Int32)), (.int (p1 &&& (2147483647 : Int32))), (.ref bA)])) rfl (hb hby at_189) rfl (by decide) ?_
      show Steps p.tables e below (Tt.setTop (mkF m 190 #[.val (.int p0), .val (.int p1), .val (.int p2), .val (.int p3), .val (.int p4), .val (.int (p0 &&& (3 : Int32))), .val (.ref bA), .val (.int pf), .unset, .unset, .unset, .unset] [(.int ((p1 &&& (2147483647 : Int32)) % (8 : Int32))), (.ref bA)])) _
      refine XS.iloadN Xt.here hx rfl (hb hby at_190) rfl ?_
      show Steps p.tables e below (Tt.setTop (mkF m 191 #[.val (.int p0), .val (.int p1), .val (.int p2), .val (.int p3), .val (.int p4), .val (.int (p0 &&& (3 : Int32))), .val (.ref bA), .val (.int pf), .unset, .unset, .unset, .unset] [(.int p0), (.int ((p1 &&& (2147483647 : Int32)) % (8 : Int32))), (.ref bA)])) _
      refine XS.iconst Xt.here hx rfl (hb hby at_191) ?_
      show Steps p.tables e below (Tt.setTop (mkF m 192 #[.val (.int p0), .val (.int p1), .val (.int p2), .val (.int p3), .val (.int p4), .val (.int (p0 &&& (3 : Int32))), .val (.ref bA), .val (.int pf), .unset, .unset, .unset, .unset] [(.int (1 : Int32)), (.int p0), (.int ((p1 &&& (2147483647 : Int32)) % (8 : Int32))), (.ref bA)])) _
      refine st208 _ ?_
      exact k
    obtain ⟨cl209, Ar209, q209, S209, N209, H209, G209⟩ := id Vt
    have hin209 : ¬ (((p1 &&& (2147483647 : Int32)) % (8 : Int32)) < 0 ∨ cl209.slots.size ≤ (((p1 &&& (2147483647 : Int32)) % (8 : Int32))).toNatClampNeg) := inb_of S209 (own_in8 p1)
    obtain ⟨T210, h210, X210, e210, W210, st210⟩ := stC X208 hx hZ e208 Ar209 (j := ((p1 &&& (2147483647 : Int32)) % (8 : Int32))) hin209 (g := (mkF m 195 #[.val (.int p0), .val (.int p1), .val (.int p2), .val (.int p3), .val (.int p4), .val (.int (p0 &&& (3 : Int32))), .val (.ref bA), .val (.int pf), .unset, .unset, .unset, .unset] [(.int (bF p0 (1 : Int32))), (.int ((p1 &&& (2147483647 : Int32)) % (8 : Int32))), (.ref bA)])) rfl rfl (hb hby at_195)
    have Sf210 : Safe Z consts_1 s.vm Ht bA := (own_safe_arv hZ.alike Vt (by decide))
    have hk210 := Nat.le_trans Kt.1 (Keep.of_wr W210).1
    have Cx210 := Ct.trans (CHr.wr W210 Sf210 Ct.1)
    have K210 : Keep h0 h210 [] := Kt.wr W210 (Or.inr sz_bA)
    have B210 : Ext h0 h210 := own_keep_ext K210
    have N210 := Fr.snoc X210 N208 (Nat.le_trans Z0 sz_bA)
    have hi210 : (((p1 &&& (2147483647 : Int32)) % (8 : Int32))).toNatClampNeg < 8 := Nat.lt_of_lt_of_le (Nat.lt_of_not_le fun q => hin209 (Or.inr q)) (Nat.le_of_eq S209)
    have V210 := Arv.set Ar209 q209 S209 N209 H209 G209 (fits_nar_char _) W210 _ rfl hi210
    obtain ⟨d0, d1, d2, d3, d4, d5, d6, d7, hd, rd0, rd1, rd2, rd3, rd4, rd5, rd6, rd7⟩ := own_set8 _ hi210 g0 g1 g2 g3 g4 g5 g6 g7 (own_rgr (own_bF p0 (1 : Int32)))
    rw [hd] at V210
    refine own_go (A' := (T210.setTop (mkF m 196 #[.val (.int p0), .val (.int p1), .val (.int p2), .val (.int p3), .val (.int p4), .val (.int (p0 &&& (3 : Int32))), .val (.ref bA), .val (.int pf), .unset, .unset, .unset, .unset] []))) (fun t k => ?_) ?_
    · show Steps p.tables e below (T208.setTop (mkF m 195 #[.val (.int p0), .val (.int p1), .val (.int p2), .val (.int p3), .val (.int p4), .val (.int (p0 &&& (3 : Int32))), .val (.ref bA), .val (.int pf), .unset, .unset, .unset, .unset] [(.int (bF p0 (1 : Int32))), (.int ((p1 &&& (2147483647 : Int32)) % (8 : Int32))), (.ref bA)])) _
      refine st210 _ ?_
      exact k
    exact tail196 l Z a0 hw ws p0 p1 p2 p3 p4 w_SHA_256 w_MD5 x_SHA_256 x_MD5 w_V clV zCS h0 n0 Z0 S_V Ar_V E_V Ft_V L_V V_0 V_1 M_SHA_256 M_MD5 X_SHA_256 X_MD5 S_CS hCS E_SHA_256 E_MD5 S_SHA_256 S_MD5 Bd hml0 hZ hh hC0 bA kC d0 d1 d2 d3 d4 d5 d6 d7 pf X210 e210 N210 K210 Cx210 V210 sz_bA rd0 rd1 rd2 rd3 rd4 rd5 rd6 rd7
theorem pn_0 : plainName "com/example/lading/lading/packaging/ChecksumAlgorithmNamedPinLaw" = true := by first | (simp [plainName, overriddenIn]; done) | decide +kernel
theorem ef_0 (m : MethodId) (p0 : Int32) (p1 : Int32) (p2 : Int32) (p3 : Int32) (p4 : Int32) : entryFrame m #[(.int p0), (.int p1), (.int p2), (.int p3), (.int p4)] maxLocals = mkF m 0 #[.val (.int p0), .val (.int p1), .val (.int p2), .val (.int p3), .val (.int p4), .unset, .unset, .unset, .unset, .unset, .unset, .unset] [] := by first | (simp [entryFrame, mkF, argsToLocals, Value.category, maxLocals]; done) | rfl
set_option maxRecDepth 65536 in
set_option maxHeartbeats 40000000 in
theorem rm0 (l : Launch) (Z : State) (a0 : Array Value) (hw : ∀ d ∈ tables_1, d.before a0 Z = true) (ws : List Jvm.Cond) (p0 : Int32) (p1 : Int32) (p2 : Int32) (p3 : Int32) (p4 : Int32) (w_SHA_256 : Addr) (w_MD5 : Addr) (x_SHA_256 : Addr) (x_MD5 : Addr) (w_V : Addr) (clV : Cell) (zCS : Int32) (h0 : Heap) (n0 : Nat) (Z0 : n0 ≤ h0.size) (S_V : Sta Z h0 "com/example/lading/lading/packaging/ChecksumAlgorithm" "$VALUES" "[Lcom/example/lading/lading/packaging/ChecksumAlgorithm;" (.ref w_V)) (Ar_V : Arr Z h0 w_V clV (.object "com/example/lading/lading/packaging/ChecksumAlgorithm")) (E_V : Exa Z h0 w_V "[Lcom/example/lading/lading/packaging/ChecksumAlgorithm;") (Ft_V : FitC Z clV) (L_V : clV.slots.size = 2) (V_0 : clV.slots[0]? = some (.ref w_SHA_256)) (V_1 : clV.slots[1]? = some (.ref w_MD5)) (M_SHA_256 : Fld Z h0 w_SHA_256 "com/example/lading/lading/packaging/ChecksumAlgorithm" "manifestName" "Ljava/lang/String;" (.ref x_SHA_256)) (M_MD5 : Fld Z h0 w_MD5 "com/example/lading/lading/packaging/ChecksumAlgorithm" "manifestName" "Ljava/lang/String;" (.ref x_MD5)) (X_SHA_256 : SF Z h0 x_SHA_256 sha) (X_MD5 : SF Z h0 x_MD5 md5) (S_CS : Sta Z h0 "java/lang/String" "COMPACT_STRINGS" "Z" (.int zCS)) (hCS : ¬ zCS = 0) (E_SHA_256 : Exa Z h0 w_SHA_256 "com/example/lading/lading/packaging/ChecksumAlgorithm") (E_MD5 : Exa Z h0 w_MD5 "com/example/lading/lading/packaging/ChecksumAlgorithm") (S_SHA_256 : Sta Z h0 "com/example/lading/lading/packaging/ChecksumAlgorithm" "SHA_256" "Lcom/example/lading/lading/packaging/ChecksumAlgorithm;" (.ref w_SHA_256)) (S_MD5 : Sta Z h0 "com/example/lading/lading/packaging/ChecksumAlgorithm" "MD5" "Lcom/example/lading/lading/packaging/ChecksumAlgorithm;" (.ref w_MD5)) :
    MetFree l x (head1 (Jvm.Cond.code x code maxLocals ret :: ws) room_1) (fun a U => a = #[(.int p0), (.int p1), (.int p2), (.int p3), (.int p4)] ∧ Z.Warmed39 U.vm ∧ U.heap = h0 ∧ CHv Z consts_1 U.vm h0) (fun _ _ _ _ _ => True) (fun _ U o U' => ∃ v L, o = .returned v ∧ Q0 Z p0 p1 p2 p3 p4 w_SHA_256 w_MD5 x_SHA_256 x_MD5 w_V clV zCS h0 n0 v U'.heap L ∧ CHr Z consts_1 U.vm U.heap U'.vm U'.heap ∧ ReturnedEndW U o U' L room_1.cells room_1.slots) := by
  refine MetFree.of_bodySF (plainFor_of_name pn_0) hisR ?_
  intro p e s m args below meth c s₁ Bd hml0 hP hK
  obtain ⟨rfl, hZ, hh, hC0⟩ := hP
  have hx := Bd.exec
  have hlk : meth.locks = false := BodyLoose.notSynchronized Bd
  have hby := Bd.bytes
  have hml : c.maxLocals = 12 := hml0
  have hown : s.vm.findClass "com/example/lading/lading/packaging/ChecksumAlgorithmNamedPinLaw" = some m.cls := findClass_of_methodNamed Bd.named
  have hnm := (name_of_methodNamed Bd.named Bd.method).1
  have X0 : Stand p l e room_1 (s.setVm s.vm) m #[(.int p0), (.int p1), (.int p2), (.int p3), (.int p4)] below meth c s₁ [] 0 0 := Stand.of_body Bd
  have e0 : s₁.heap = h0 := by rw [← hh, Bd.state]; rfl
  have N0 := Fr.nil n0
  have hEL := own_EL hw
  have wS := own_wS hw
  have hS0 : s.Since s.vm h0.size := (State.WarmedH.refl s).since _
  have hk0 : h0.size ≤ h0.size := Nat.le_refl _
  have Cx0 : CHr Z consts_1 s.vm h0 s.vm h0 := CHr.refl hC0
  refine own_go (A' := (s₁.setTop (mkF m 0 #[.val (.int p0), .val (.int p1), .val (.int p2), .val (.int p3), .val (.int p4), .unset, .unset, .unset, .unset, .unset, .unset, .unset] []))) (fun t k => castTop (ef_0 m p0 p1 p2 p3 p4) k) ?_
  obtain ⟨T211, h211, k211, X211, e211, E211, A211, st211⟩ := newP X0 hx hZ (hw _ (List.mem_of_getElem? (i := 0) rfl)) e0 (g := (mkF m 7 #[.val (.int p0), .val (.int p1), .val (.int p2), .val (.int p3), .val (.int p4), .val (.int (p0 &&& (3 : Int32))), .unset, .unset, .unset, .unset, .unset, .unset] [(.int (8 : Int32))])) rfl (hb hby at_7) rfl (by decide) (cap := 8) (by decide) (by decide) (by decide) (by decide)
  obtain ⟨b211, g211⟩ : ∃ z, z = h0.size := ⟨_, rfl⟩
  have sz_b211 : h0.size ≤ b211 := Nat.le_of_eq g211.symm
  rw [← g211] at A211 st211
  have hk211 := Nat.le_trans hk0 E211.1
  have Cx211 := Cx0.trans (CHr.ext E211 Cx0.1)
  have K211 : Keep h0 h211 [] := (Keep.refl h0 []).ext E211
  have B211 : Ext h0 h211 := own_keep_ext K211
  have V211 : Arv Z h211 b211 k211 .char (8 : Int32) [(.int (0 : Int32)), (.int (0 : Int32)), (.int (0 : Int32)), (.int (0 : Int32)), (.int (0 : Int32)), (.int (0 : Int32)), (.int (0 : Int32)), (.int (0 : Int32))] (.int (0 : Int32)) := (Arv.new A211 (by decide)).pad (pad_rep [] (.int (0 : Int32)) 8)
  obtain ⟨_, _, ⟨T212, L212, k212, n212⟩, -, X212, ⟨Lc212, hQ212, l212, y212, z212⟩, st212⟩ := Jvm.LawKit.callS X211 hx (y := (⟨"com/example/lading/lading/packaging/ChecksumAlgorithmNamedPinLaw", "b", "(II)C"⟩ : MethodName)) hown (mvT hZ (hw _ (List.mem_of_getElem? (i := 1) rfl))) (mvT hZ (hw _ (List.mem_of_getElem? (i := 2) rfl))) (mvT hZ (hw _ (List.mem_of_getElem? (i := 3) rfl))) (mvT hZ (hw _ (List.mem_of_getElem? (i := 4) rfl))) (by decide) (backOf (W := 2) (rm1 l Z a0 hw [] p2 (0 : Int32)  h211 n0 (Nat.le_trans Z0 K211.1) ) hZ (hw _ (List.mem_of_getElem? (i := 4) rfl)) (hw _ (List.mem_of_getElem? (i := 3) rfl)) (by decide) (by decide)) (g := (mkF m 16 #[.val (.int p0), .val (.int p1), .val (.int p2), .val (.int p3), .val (.int p4), .val (.int (p0 &&& (3 : Int32))), .val (.ref b211), .unset, .unset, .unset, .unset, .unset] [(.int (0 : Int32)), (.int p2), (.int (0 : Int32)), (.ref b211)])) rfl (by rw [hml]; rfl) (argsL := [(.int p2), (.int (0 : Int32))]) (rest := [(.int (0 : Int32)), (.ref b211)]) (lenOf pd_7 rfl) rfl (by show 2 * 0 + _ ≤ _; exact Nat.le_of_eq rfl) (hb hby at_16) (fun _ _ => ⟨rfl, e211, (by decide : 1 + 0 ≤ _), (by decide : 8 + 0 ≤ _)⟩)
  dsimp only [Pt.U, Pt.locs, Pt.cells, Pt.slots] at X212 l212 y212 z212 st212 hQ212
  subst l212 y212 z212
  obtain ⟨rfl, N212q, e212⟩ := hQ212
  have N212 := Fr.app N0 N212q
  obtain ⟨cl213, Ar213, q213, S213, N213, H213, G213⟩ := id V211
  have hin213 : ¬ ((0 : Int32) < 0 ∨ cl213.slots.size ≤ ((0 : Int32)).toNatClampNeg) := inb_of S213 ⟨by decide, by decide⟩
  obtain ⟨T214, h214, X214, e214, W214, st214⟩ := stC X212 hx hZ e212 Ar213 (j := (0 : Int32)) hin213  (g := (mkF m 19 #[.val (.int p0), .val (.int p1), .val (.int p2), .val (.int p3), .val (.int p4), .val (.int (p0 &&& (3 : Int32))), .val (.ref b211), .unset, .unset, .unset, .unset, .unset] [(.int (bF p2 (0 : Int32))), (.int (0 : Int32)), (.ref b211)])) rfl rfl (hb hby at_19)
  have Sf214 : Safe Z consts_1 s.vm h211 b211 := (own_safe_arv hZ.alike V211 (by decide))
  have hk214 := Nat.le_trans hk211 (Keep.of_wr W214).1
  have Cx214 := Cx211.trans (CHr.wr W214 Sf214 Cx211.1)
  have K214 : Keep h0 h214 [] := K211.wr W214 (Or.inr sz_b211)
  have B214 : Ext h0 h214 := own_keep_ext K214
  have N214 := Fr.snoc X214 N212 (Nat.le_trans Z0 sz_b211)
  have V214 : Arv Z h214 b211 k211 .char (8 : Int32) [(.int (nar .char (bF p2 (0 : Int32)))), (.int (0 : Int32)), (.int (0 : Int32)), (.int (0 : Int32)), (.int (0 : Int32)), (.int (0 : Int32)), (.int (0 : Int32)), (.int (0 : Int32))] (.int (0 : Int32)) := Arv.set Ar213 q213 S213 N213 H213 G213 (fits_nar_char _) W214 0 rfl (Nat.le_of_ble_eq_true rfl)
  obtain ⟨_, _, ⟨T215, L215, k215, n215⟩, -, X215, ⟨Lc215, hQ215, l215, y215, z215⟩, st215⟩ := Jvm.LawKit.callS X214 hx (y := (⟨"com/example/lading/lading/packaging/ChecksumAlgorithmNamedPinLaw", "b", "(II)C"⟩ : MethodName)) hown (mvT hZ (hw _ (List.mem_of_getElem? (i := 1) rfl))) (mvT hZ (hw _ (List.mem_of_getElem? (i := 2) rfl))) (mvT hZ (hw _ (List.mem_of_getElem? (i := 3) rfl))) (mvT hZ (hw _ (List.mem_of_getElem? (i := 4) rfl))) (by decide) (backOf (W := 2) (rm1 l Z a0 hw [] p2 (1 : Int32)  h214 n0 (Nat.le_trans Z0 K214.1) ) hZ (hw _ (List.mem_of_getElem? (i := 4) rfl)) (hw _ (List.mem_of_getElem? (i := 3) rfl)) (by decide) (by decide)) (g := (mkF m 25 #[.val (.int p0), .val (.int p1), .val (.int p2), .val (.int p3), .val (.int p4), .val (.int (p0 &&& (3 : Int32))), .val (.ref b211), .unset, .unset, .unset, .unset, .unset] [(.int (1 : Int32)), (.int p2), (.int (1 : Int32)), (.ref b211)])) rfl (by rw [hml]; rfl) (argsL := [(.int p2), (.int (1 : Int32))]) (rest := [(.int (1 : Int32)), (.ref b211)]) (lenOf pd_7 rfl) rfl (by show 2 * 0 + _ ≤ _; exact Nat.le_of_eq rfl) (hb hby at_25) (fun _ _ => ⟨rfl, e214, (by decide : 1 + 0 ≤ _), (by decide : 8 + 0 ≤ _)⟩)
  dsimp only [Pt.U, Pt.locs, Pt.cells, Pt.slots] at X215 l215 y215 z215 st215 hQ215
  subst l215 y215 z215
  obtain ⟨rfl, N215q, e215⟩ := hQ215
  have N215 := Fr.app N214 N215q
  obtain ⟨cl216, Ar216, q216, S216, N216, H216, G216⟩ := id V214
  have hin216 : ¬ ((1 : Int32) < 0 ∨ cl216.slots.size ≤ ((1 : Int32)).toNatClampNeg) := inb_of S216 ⟨by decide, by decide⟩
  obtain ⟨T217, h217, X217, e217, W217, st217⟩ := stC X215 hx hZ e215 Ar216 (j := (1 : Int32)) hin216  (g := (mkF m 28 #[.val (.int p0), .val (.int p1), .val (.int p2), .val (.int p3), .val (.int p4), .val (.int (p0 &&& (3 : Int32))), .val (.ref b211), .unset, .unset, .unset, .unset, .unset] [(.int (bF p2 (1 : Int32))), (.int (1 : Int32)), (.ref b211)])) rfl rfl (hb hby at_28)
  have Sf217 : Safe Z consts_1 s.vm h214 b211 := (own_safe_arv hZ.alike V214 (by decide))
  have hk217 := Nat.le_trans hk214 (Keep.of_wr W217).1
  have Cx217 := Cx214.trans (CHr.wr W217 Sf217 Cx214.1)
  have K217 : Keep h0 h217 [] := K214.wr W217 (Or.inr sz_b211)
  have B217 : Ext h0 h217 := own_keep_ext K217
  have N217 := Fr.snoc X217 N215 (Nat.le_trans Z0 sz_b211)
  have V217 : Arv Z h217 b211 k211 .char (8 : Int32) [(.int (nar .char (bF p2 (0 : Int32)))), (.int (nar .char (bF p2 (1 : Int32)))), (.int (0 : Int32)), (.int (0 : Int32)), (.int (0 : Int32)), (.int (0 : Int32)), (.int (0 : Int32)), (.int (0 : Int32))] (.int (0 : Int32)) := Arv.set Ar216 q216 S216 N216 H216 G216 (fits_nar_char _) W217 1 rfl (Nat.le_of_ble_eq_true rfl)
  obtain ⟨_, _, ⟨T218, L218, k218, n218⟩, -, X218, ⟨Lc218, hQ218, l218, y218, z218⟩, st218⟩ := Jvm.LawKit.callS X217 hx (y := (⟨"com/example/lading/lading/packaging/ChecksumAlgorithmNamedPinLaw", "b", "(II)C"⟩ : MethodName)) hown (mvT hZ (hw _ (List.mem_of_getElem? (i := 1) rfl))) (mvT hZ (hw _ (List.mem_of_getElem? (i := 2) rfl))) (mvT hZ (hw _ (List.mem_of_getElem? (i := 3) rfl))) (mvT hZ (hw _ (List.mem_of_getElem? (i := 4) rfl))) (by decide) (backOf (W := 2) (rm1 l Z a0 hw [] p2 (2 : Int32)  h217 n0 (Nat.le_trans Z0 K217.1) ) hZ (hw _ (List.mem_of_getElem? (i := 4) rfl)) (hw _ (List.mem_of_getElem? (i := 3) rfl)) (by decide) (by decide)) (g := (mkF m 34 #[.val (.int p0), .val (.int p1), .val (.int p2), .val (.int p3), .val (.int p4), .val (.int (p0 &&& (3 : Int32))), .val (.ref b211), .unset, .unset, .unset, .unset, .unset] [(.int (2 : Int32)), (.int p2), (.int (2 : Int32)), (.ref b211)])) rfl (by rw [hml]; rfl) (argsL := [(.int p2), (.int (2 : Int32))]) (rest := [(.int (2 : Int32)), (.ref b211)]) (lenOf pd_7 rfl) rfl (by show 2 * 0 + _ ≤ _; exact Nat.le_of_eq rfl) (hb hby at_34) (fun _ _ => ⟨rfl, e217, (by decide : 1 + 0 ≤ _), (by decide : 8 + 0 ≤ _)⟩)
  dsimp only [Pt.U, Pt.locs, Pt.cells, Pt.slots] at X218 l218 y218 z218 st218 hQ218
  subst l218 y218 z218
  obtain ⟨rfl, N218q, e218⟩ := hQ218
  have N218 := Fr.app N217 N218q
  obtain ⟨cl219, Ar219, q219, S219, N219, H219, G219⟩ := id V217
  have hin219 : ¬ ((2 : Int32) < 0 ∨ cl219.slots.size ≤ ((2 : Int32)).toNatClampNeg) := inb_of S219 ⟨by decide, by decide⟩
  obtain ⟨T220, h220, X220, e220, W220, st220⟩ := stC X218 hx hZ e218 Ar219 (j := (2 : Int32)) hin219  (g := (mkF m 37 #[.val (.int p0), .val (.int p1), .val (.int p2), .val (.int p3), .val (.int p4), .val (.int (p0 &&& (3 : Int32))), .val (.ref b211), .unset, .unset, .unset, .unset, .unset] [(.int (bF p2 (2 : Int32))), (.int (2 : Int32)), (.ref b211)])) rfl rfl (hb hby at_37)
  have Sf220 : Safe Z consts_1 s.vm h217 b211 := (own_safe_arv hZ.alike V217 (by decide))
  have hk220 := Nat.le_trans hk217 (Keep.of_wr W220).1
  have Cx220 := Cx217.trans (CHr.wr W220 Sf220 Cx217.1)
  have K220 : Keep h0 h220 [] := K217.wr W220 (Or.inr sz_b211)
  have B220 : Ext h0 h220 := own_keep_ext K220
  have N220 := Fr.snoc X220 N218 (Nat.le_trans Z0 sz_b211)
  have V220 : Arv Z h220 b211 k211 .char (8 : Int32) [(.int (nar .char (bF p2 (0 : Int32)))), (.int (nar .char (bF p2 (1 : Int32)))), (.int (nar .char (bF p2 (2 : Int32)))), (.int (0 : Int32)), (.int (0 : Int32)), (.int (0 : Int32)), (.int (0 : Int32)), (.int (0 : Int32))] (.int (0 : Int32)) := Arv.set Ar219 q219 S219 N219 H219 G219 (fits_nar_char _) W220 2 rfl (Nat.le_of_ble_eq_true rfl)
  obtain ⟨_, _, ⟨T221, L221, k221, n221⟩, -, X221, ⟨Lc221, hQ221, l221, y221, z221⟩, st221⟩ := Jvm.LawKit.callS X220 hx (y := (⟨"com/example/lading/lading/packaging/ChecksumAlgorithmNamedPinLaw", "b", "(II)C"⟩ : MethodName)) hown (mvT hZ (hw _ (List.mem_of_getElem? (i := 1) rfl))) (mvT hZ (hw _ (List.mem_of_getElem? (i := 2) rfl))) (mvT hZ (hw _ (List.mem_of_getElem? (i := 3) rfl))) (mvT hZ (hw _ (List.mem_of_getElem? (i := 4) rfl))) (by decide) (backOf (W := 2) (rm1 l Z a0 hw [] p2 (3 : Int32)  h220 n0 (Nat.le_trans Z0 K220.1) ) hZ (hw _ (List.mem_of_getElem? (i := 4) rfl)) (hw _ (List.mem_of_getElem? (i := 3) rfl)) (by decide) (by decide)) (g := (mkF m 43 #[.val (.int p0), .val (.int p1), .val (.int p2), .val (.int p3), .val (.int p4), .val (.int (p0 &&& (3 : Int32))), .val (.ref b211), .unset, .unset, .unset, .unset, .unset] [(.int (3 : Int32)), (.int p2), (.int (3 : Int32)), (.ref b211)])) rfl (by rw [hml]; rfl) (argsL := [(.int p2), (.int (3 : Int32))]) (rest := [(.int (3 : Int32)), (.ref b211)]) (lenOf pd_7 rfl) rfl (by show 2 * 0 + _ ≤ _; exact Nat.le_of_eq rfl) (hb hby at_43) (fun _ _ => ⟨rfl, e220, (by decide : 1 + 0 ≤ _), (by decide : 8 + 0 ≤ _)⟩)
  dsimp only [Pt.U, Pt.locs, Pt.cells, Pt.slots] at X221 l221 y221 z221 st221 hQ221
  subst l221 y221 z221
  obtain ⟨rfl, N221q, e221⟩ := hQ221
  have N221 := Fr.app N220 N221q
  obtain ⟨cl222, Ar222, q222, S222, N222, H222, G222⟩ := id V220
  have hin222 : ¬ ((3 : Int32) < 0 ∨ cl222.slots.size ≤ ((3 : Int32)).toNatClampNeg) := inb_of S222 ⟨by decide, by decide⟩
  obtain ⟨T223, h223, X223, e223, W223, st223⟩ := stC X221 hx hZ e221 Ar222 (j := (3 : Int32)) hin222  (g := (mkF m 46 #[.val (.int p0), .val (.int p1), .val (.int p2), .val (.int p3), .val (.int p4), .val (.int (p0 &&& (3 : Int32))), .val (.ref b211), .unset, .unset, .unset, .unset, .unset] [(.int (bF p2 (3 : Int32))), (.int (3 : Int32)), (.ref b211)])) rfl rfl (hb hby at_46)
  have Sf223 : Safe Z consts_1 s.vm h220 b211 := (own_safe_arv hZ.alike V220 (by decide))
  have hk223 := Nat.le_trans hk220 (Keep.of_wr W223).1
  have Cx223 := Cx220.trans (CHr.wr W223 Sf223 Cx220.1)
  have K223 : Keep h0 h223 [] := K220.wr W223 (Or.inr sz_b211)
  have B223 : Ext h0 h223 := own_keep_ext K223
  have N223 := Fr.snoc X223 N221 (Nat.le_trans Z0 sz_b211)
  have V223 : Arv Z h223 b211 k211 .char (8 : Int32) [(.int (nar .char (bF p2 (0 : Int32)))), (.int (nar .char (bF p2 (1 : Int32)))), (.int (nar .char (bF p2 (2 : Int32)))), (.int (nar .char (bF p2 (3 : Int32)))), (.int (0 : Int32)), (.int (0 : Int32)), (.int (0 : Int32)), (.int (0 : Int32))] (.int (0 : Int32)) := Arv.set Ar222 q222 S222 N222 H222 G222 (fits_nar_char _) W223 3 rfl (Nat.le_of_ble_eq_true rfl)
  obtain ⟨_, _, ⟨T224, L224, k224, n224⟩, -, X224, ⟨Lc224, hQ224, l224, y224, z224⟩, st224⟩ := Jvm.LawKit.callS X223 hx (y := (⟨"com/example/lading/lading/packaging/ChecksumAlgorithmNamedPinLaw", "b", "(II)C"⟩ : MethodName)) hown (mvT hZ (hw _ (List.mem_of_getElem? (i := 1) rfl))) (mvT hZ (hw _ (List.mem_of_getElem? (i := 2) rfl))) (mvT hZ (hw _ (List.mem_of_getElem? (i := 3) rfl))) (mvT hZ (hw _ (List.mem_of_getElem? (i := 4) rfl))) (by decide) (backOf (W := 2) (rm1 l Z a0 hw [] p4 (0 : Int32)  h223 n0 (Nat.le_trans Z0 K223.1) ) hZ (hw _ (List.mem_of_getElem? (i := 4) rfl)) (hw _ (List.mem_of_getElem? (i := 3) rfl)) (by decide) (by decide)) (g := (mkF m 53 #[.val (.int p0), .val (.int p1), .val (.int p2), .val (.int p3), .val (.int p4), .val (.int (p0 &&& (3 : Int32))), .val (.ref b211), .unset, .unset, .unset, .unset, .unset] [(.int (0 : Int32)), (.int p4), (.int (4 : Int32)), (.ref b211)])) rfl (by rw [hml]; rfl) (argsL := [(.int p4), (.int (0 : Int32))]) (rest := [(.int (4 : Int32)), (.ref b211)]) (lenOf pd_7 rfl) rfl (by show 2 * 0 + _ ≤ _; exact Nat.le_of_eq rfl) (hb hby at_53) (fun _ _ => ⟨rfl, e223, (by decide : 1 + 0 ≤ _), (by decide : 8 + 0 ≤ _)⟩)
  dsimp only [Pt.U, Pt.locs, Pt.cells, Pt.slots] at X224 l224 y224 z224 st224 hQ224
  subst l224 y224 z224
  obtain ⟨rfl, N224q, e224⟩ := hQ224
  have N224 := Fr.app N223 N224q
  obtain ⟨cl225, Ar225, q225, S225, N225, H225, G225⟩ := id V223
  have hin225 : ¬ ((4 : Int32) < 0 ∨ cl225.slots.size ≤ ((4 : Int32)).toNatClampNeg) := inb_of S225 ⟨by decide, by decide⟩
  obtain ⟨T226, h226, X226, e226, W226, st226⟩ := stC X224 hx hZ e224 Ar225 (j := (4 : Int32)) hin225  (g := (mkF m 56 #[.val (.int p0), .val (.int p1), .val (.int p2), .val (.int p3), .val (.int p4), .val (.int (p0 &&& (3 : Int32))), .val (.ref b211), .unset, .unset, .unset, .unset, .unset] [(.int (bF p4 (0 : Int32))), (.int (4 : Int32)), (.ref b211)])) rfl rfl (hb hby at_56)
  have Sf226 : Safe Z consts_1 s.vm h223 b211 := (own_safe_arv hZ.alike V223 (by decide))
  have hk226 := Nat.le_trans hk223 (Keep.of_wr W226).1
  have Cx226 := Cx223.trans (CHr.wr W226 Sf226 Cx223.1)
  have K226 : Keep h0 h226 [] := K223.wr W226 (Or.inr sz_b211)
  have B226 : Ext h0 h226 := own_keep_ext K226
  have N226 := Fr.snoc X226 N224 (Nat.le_trans Z0 sz_b211)
  have V226 : Arv Z h226 b211 k211 .char (8 : Int32) [(.int (nar .char (bF p2 (0 : Int32)))), (.int (nar .char (bF p2 (1 : Int32)))), (.int (nar .char (bF p2 (2 : Int32)))), (.int (nar .char (bF p2 (3 : Int32)))), (.int (nar .char (bF p4 (0 : Int32)))), (.int (0 : Int32)), (.int (0 : Int32)), (.int (0 : Int32))] (.int (0 : Int32)) := Arv.set Ar225 q225 S225 N225 H225 G225 (fits_nar_char _) W226 4 rfl (Nat.le_of_ble_eq_true rfl)
  obtain ⟨_, _, ⟨T227, L227, k227, n227⟩, -, X227, ⟨Lc227, hQ227, l227, y227, z227⟩, st227⟩ := Jvm.LawKit.callS X226 hx (y := (⟨"com/example/lading/lading/packaging/ChecksumAlgorithmNamedPinLaw", "b", "(II)C"⟩ : MethodName)) hown (mvT hZ (hw _ (List.mem_of_getElem? (i := 1) rfl))) (mvT hZ (hw _ (List.mem_of_getElem? (i := 2) rfl))) (mvT hZ (hw _ (List.mem_of_getElem? (i := 3) rfl))) (mvT hZ (hw _ (List.mem_of_getElem? (i := 4) rfl))) (by decide) (backOf (W := 2) (rm1 l Z a0 hw [] p4 (1 : Int32)  h226 n0 (Nat.le_trans Z0 K226.1) ) hZ (hw _ (List.mem_of_getElem? (i := 4) rfl)) (hw _ (List.mem_of_getElem? (i := 3) rfl)) (by decide) (by decide)) (g := (mkF m 63 #[.val (.int p0), .val (.int p1), .val (.int p2), .val (.int p3), .val (.int p4), .val (.int (p0 &&& (3 : Int32))), .val (.ref b211), .unset, .unset, .unset, .unset, .unset] [(.int (1 : Int32)), (.int p4), (.int (5 : Int32)), (.ref b211)])) rfl (by rw [hml]; rfl) (argsL := [(.int p4), (.int (1 : Int32))]) (rest := [(.int (5 : Int32)), (.ref b211)]) (lenOf pd_7 rfl) rfl (by show 2 * 0 + _ ≤ _; exact Nat.le_of_eq rfl) (hb hby at_63) (fun _ _ => ⟨rfl, e226, (by decide : 1 + 0 ≤ _), (by decide : 8 + 0 ≤ _)⟩)
  dsimp only [Pt.U, Pt.locs, Pt.cells, Pt.slots] at X227 l227 y227 z227 st227 hQ227
  subst l227 y227 z227
  obtain ⟨rfl, N227q, e227⟩ := hQ227
  have N227 := Fr.app N226 N227q
  obtain ⟨cl228, Ar228, q228, S228, N228, H228, G228⟩ := id V226
  have hin228 : ¬ ((5 : Int32) < 0 ∨ cl228.slots.size ≤ ((5 : Int32)).toNatClampNeg) := inb_of S228 ⟨by decide, by decide⟩
  obtain ⟨T229, h229, X229, e229, W229, st229⟩ := stC X227 hx hZ e227 Ar228 (j := (5 : Int32)) hin228  (g := (mkF m 66 #[.val (.int p0), .val (.int p1), .val (.int p2), .val (.int p3), .val (.int p4), .val (.int (p0 &&& (3 : Int32))), .val (.ref b211), .unset, .unset, .unset, .unset, .unset] [(.int (bF p4 (1 : Int32))), (.int (5 : Int32)), (.ref b211)])) rfl rfl (hb hby at_66)
  have Sf229 : Safe Z consts_1 s.vm h226 b211 := (own_safe_arv hZ.alike V226 (by decide))
  have hk229 := Nat.le_trans hk226 (Keep.of_wr W229).1
  have Cx229 := Cx226.trans (CHr.wr W229 Sf229 Cx226.1)
  have K229 : Keep h0 h229 [] := K226.wr W229 (Or.inr sz_b211)
  have B229 : Ext h0 h229 := own_keep_ext K229
  have N229 := Fr.snoc X229 N227 (Nat.le_trans Z0 sz_b211)
  have V229 : Arv Z h229 b211 k211 .char (8 : Int32) [(.int (nar .char (bF p2 (0 : Int32)))), (.int (nar .char (bF p2 (1 : Int32)))), (.int (nar .char (bF p2 (2 : Int32)))), (.int (nar .char (bF p2 (3 : Int32)))), (.int (nar .char (bF p4 (0 : Int32)))), (.int (nar .char (bF p4 (1 : Int32)))), (.int (0 : Int32)), (.int (0 : Int32))] (.int (0 : Int32)) := Arv.set Ar228 q228 S228 N228 H228 G228 (fits_nar_char _) W229 5 rfl (Nat.le_of_ble_eq_true rfl)
  obtain ⟨_, _, ⟨T230, L230, k230, n230⟩, -, X230, ⟨Lc230, hQ230, l230, y230, z230⟩, st230⟩ := Jvm.LawKit.callS X229 hx (y := (⟨"com/example/lading/lading/packaging/ChecksumAlgorithmNamedPinLaw", "b", "(II)C"⟩ : MethodName)) hown (mvT hZ (hw _ (List.mem_of_getElem? (i := 1) rfl))) (mvT hZ (hw _ (List.mem_of_getElem? (i := 2) rfl))) (mvT hZ (hw _ (List.mem_of_getElem? (i := 3) rfl))) (mvT hZ (hw _ (List.mem_of_getElem? (i := 4) rfl))) (by decide) (backOf (W := 2) (rm1 l Z a0 hw [] p4 (2 : Int32)  h229 n0 (Nat.le_trans Z0 K229.1) ) hZ (hw _ (List.mem_of_getElem? (i := 4) rfl)) (hw _ (List.mem_of_getElem? (i := 3) rfl)) (by decide) (by decide)) (g := (mkF m 74 #[.val (.int p0), .val (.int p1), .val (.int p2), .val (.int p3), .val (.int p4), .val (.int (p0 &&& (3 : Int32))), .val (.ref b211), .unset, .unset, .unset, .unset, .unset] [(.int (2 : Int32)), (.int p4), (.int (6 : Int32)), (.ref b211)])) rfl (by rw [hml]; rfl) (argsL := [(.int p4), (.int (2 : Int32))]) (rest := [(.int (6 : Int32)), (.ref b211)]) (lenOf pd_7 rfl) rfl (by show 2 * 0 + _ ≤ _; exact Nat.le_of_eq rfl) (hb hby at_74) (fun _ _ => ⟨rfl, e229, (by decide : 1 + 0 ≤ _), (by decide : 8 + 0 ≤ _)⟩)
  dsimp only [Pt.U, Pt.locs, Pt.cells, Pt.slots] at X230 l230 y230 z230 st230 hQ230
  subst l230 y230 z230
  obtain ⟨rfl, N230q, e230⟩ := hQ230
  have N230 := Fr.app N229 N230q
  obtain ⟨cl231, Ar231, q231, S231, N231, H231, G231⟩ := id V229
  have hin231 : ¬ ((6 : Int32) < 0 ∨ cl231.slots.size ≤ ((6 : Int32)).toNatClampNeg) := inb_of S231 ⟨by decide, by decide⟩
  obtain ⟨T232, h232, X232, e232, W232, st232⟩ := stC X230 hx hZ e230 Ar231 (j := (6 : Int32)) hin231  (g := (mkF m 77 #[.val (.int p0), .val (.int p1), .val (.int p2), .val (.int p3), .val (.int p4), .val (.int (p0 &&& (3 : Int32))), .val (.ref b211), .unset, .unset, .unset, .unset, .unset] [(.int (bF p4 (2 : Int32))), (.int (6 : Int32)), (.ref b211)])) rfl rfl (hb hby at_77)
  have Sf232 : Safe Z consts_1 s.vm h229 b211 := (own_safe_arv hZ.alike V229 (by decide))
  have hk232 := Nat.le_trans hk229 (Keep.of_wr W232).1
  have Cx232 := Cx229.trans (CHr.wr W232 Sf232 Cx229.1)
  have K232 : Keep h0 h232 [] := K229.wr W232 (Or.inr sz_b211)
  have B232 : Ext h0 h232 := own_keep_ext K232
  have N232 := Fr.snoc X232 N230 (Nat.le_trans Z0 sz_b211)
  have V232 : Arv Z h232 b211 k211 .char (8 : Int32) [(.int (nar .char (bF p2 (0 : Int32)))), (.int (nar .char (bF p2 (1 : Int32)))), (.int (nar .char (bF p2 (2 : Int32)))), (.int (nar .char (bF p2 (3 : Int32)))), (.int (nar .char (bF p4 (0 : Int32)))), (.int (nar .char (bF p4 (1 : Int32)))), (.int (nar .char (bF p4 (2 : Int32)))), (.int (0 : Int32))] (.int (0 : Int32)) := Arv.set Ar231 q231 S231 N231 H231 G231 (fits_nar_char _) W232 6 rfl (Nat.le_of_ble_eq_true rfl)
  obtain ⟨_, _, ⟨T233, L233, k233, n233⟩, -, X233, ⟨Lc233, hQ233, l233, y233, z233⟩, st233⟩ := Jvm.LawKit.callS X232 hx (y := (⟨"com/example/lading/lading/packaging/ChecksumAlgorithmNamedPinLaw", "b", "(II)C"⟩ : MethodName)) hown (mvT hZ (hw _ (List.mem_of_getElem? (i := 1) rfl))) (mvT hZ (hw _ (List.mem_of_getElem? (i := 2) rfl))) (mvT hZ (hw _ (List.mem_of_getElem? (i := 3) rfl))) (mvT hZ (hw _ (List.mem_of_getElem? (i := 4) rfl))) (by decide) (backOf (W := 2) (rm1 l Z a0 hw [] p4 (3 : Int32)  h232 n0 (Nat.le_trans Z0 K232.1) ) hZ (hw _ (List.mem_of_getElem? (i := 4) rfl)) (hw _ (List.mem_of_getElem? (i := 3) rfl)) (by decide) (by decide)) (g := (mkF m 85 #[.val (.int p0), .val (.int p1), .val (.int p2), .val (.int p3), .val (.int p4), .val (.int (p0 &&& (3 : Int32))), .val (.ref b211), .unset, .unset, .unset, .unset, .unset] [(.int (3 : Int32)), (.int p4), (.int (7 : Int32)), (.ref b211)])) rfl (by rw [hml]; rfl) (argsL := [(.int p4), (.int (3 : Int32))]) (rest := [(.int (7 : Int32)), (.ref b211)]) (lenOf pd_7 rfl) rfl (by show 2 * 0 + _ ≤ _; exact Nat.le_of_eq rfl) (hb hby at_85) (fun _ _ => ⟨rfl, e232, (by decide : 1 + 0 ≤ _), (by decide : 8 + 0 ≤ _)⟩)
  dsimp only [Pt.U, Pt.locs, Pt.cells, Pt.slots] at X233 l233 y233 z233 st233 hQ233
  subst l233 y233 z233
  obtain ⟨rfl, N233q, e233⟩ := hQ233
  have N233 := Fr.app N232 N233q
  obtain ⟨cl234, Ar234, q234, S234, N234, H234, G234⟩ := id V232
  have hin234 : ¬ ((7 : Int32) < 0 ∨ cl234.slots.size ≤ ((7 : Int32)).toNatClampNeg) := inb_of S234 ⟨by decide, by decide⟩
  obtain ⟨T235, h235, X235, e235, W235, st235⟩ := stC X233 hx hZ e233 Ar234 (j := (7 : Int32)) hin234  (g := (mkF m 88 #[.val (.int p0), .val (.int p1), .val (.int p2), .val (.int p3), .val (.int p4), .val (.int (p0 &&& (3 : Int32))), .val (.ref b211), .unset, .unset, .unset, .unset, .unset] [(.int (bF p4 (3 : Int32))), (.int (7 : Int32)), (.ref b211)])) rfl rfl (hb hby at_88)
  have Sf235 : Safe Z consts_1 s.vm h232 b211 := (own_safe_arv hZ.alike V232 (by decide))
  have hk235 := Nat.le_trans hk232 (Keep.of_wr W235).1
  have Cx235 := Cx232.trans (CHr.wr W235 Sf235 Cx232.1)
  have K235 : Keep h0 h235 [] := K232.wr W235 (Or.inr sz_b211)
  have B235 : Ext h0 h235 := own_keep_ext K235
  have N235 := Fr.snoc X235 N233 (Nat.le_trans Z0 sz_b211)
  have V235 : Arv Z h235 b211 k211 .char (8 : Int32) [(.int (nar .char (bF p2 (0 : Int32)))), (.int (nar .char (bF p2 (1 : Int32)))), (.int (nar .char (bF p2 (2 : Int32)))), (.int (nar .char (bF p2 (3 : Int32)))), (.int (nar .char (bF p4 (0 : Int32)))), (.int (nar .char (bF p4 (1 : Int32)))), (.int (nar .char (bF p4 (2 : Int32)))), (.int (nar .char (bF p4 (3 : Int32))))] (.int (0 : Int32)) := Arv.set Ar234 q234 S234 N234 H234 G234 (fits_nar_char _) W235 7 rfl (Nat.le_of_ble_eq_true rfl)
  refine own_go (A' := (T235.setTop (mkF m 95 #[.val (.int p0), .val (.int p1), .val (.int p2), .val (.int p3), .val (.int p4), .val (.int (p0 &&& (3 : Int32))), .val (.ref b211), .val (.int (8 : Int32)), .unset, .unset, .unset, .unset] [(.int (p0 &&& (3 : Int32)))]))) (fun t k => ?_) ?_
  · show Steps p.tables e below (s₁.setTop (mkF m 0 #[.val (.int p0), .val (.int p1), .val (.int p2), .val (.int p3), .val (.int p4), .unset, .unset, .unset, .unset, .unset, .unset, .unset] [])) _
    refine XS.iloadN X0.here hx rfl (hb hby at_0) rfl ?_
    show Steps p.tables e below (s₁.setTop (mkF m 1 #[.val (.int p0), .val (.int p1), .val (.int p2), .val (.int p3), .val (.int p4), .unset, .unset, .unset, .unset, .unset, .unset, .unset] [(.int p0)])) _
    refine XS.iconst X0.here hx rfl (hb hby at_1) ?_
    show Steps p.tables e below (s₁.setTop (mkF m 2 #[.val (.int p0), .val (.int p1), .val (.int p2), .val (.int p3), .val (.int p4), .unset, .unset, .unset, .unset, .unset, .unset, .unset] [(.int (3 : Int32)), (.int p0)])) _
    refine XS.iand X0.here hx rfl (hb hby at_2) rfl ?_
    show Steps p.tables e below (s₁.setTop (mkF m 3 #[.val (.int p0), .val (.int p1), .val (.int p2), .val (.int p3), .val (.int p4), .unset, .unset, .unset, .unset, .unset, .unset, .unset] [(.int (p0 &&& (3 : Int32)))])) _
    refine XS.istore X0.here hx rfl (hb hby at_3) rfl (l' := #[.val (.int p0), .val (.int p1), .val (.int p2), .val (.int p3), .val (.int p4), .val (.int (p0 &&& (3 : Int32))), .unset, .unset, .unset, .unset, .unset, .unset]) rfl ?_
    show Steps p.tables e below (s₁.setTop (mkF m 5 #[.val (.int p0), .val (.int p1), .val (.int p2), .val (.int p3), .val (.int p4), .val (.int (p0 &&& (3 : Int32))), .unset, .unset, .unset, .unset, .unset, .unset] [])) _
    refine XS.bipush X0.here hx rfl (hb hby at_5) ?_
    show Steps p.tables e below (s₁.setTop (mkF m 7 #[.val (.int p0), .val (.int p1), .val (.int p2), .val (.int p3), .val (.int p4), .val (.int (p0 &&& (3 : Int32))), .unset, .unset, .unset, .unset, .unset, .unset] [(.int (8 : Int32))])) _
    refine st211 _ ?_
    show Steps p.tables e below (T211.setTop (mkF m 9 #[.val (.int p0), .val (.int p1), .val (.int p2), .val (.int p3), .val (.int p4), .val (.int (p0 &&& (3 : Int32))), .unset, .unset, .unset, .unset, .unset, .unset] [(.ref b211)])) _
    refine XS.astore X211.here hx rfl (hb hby at_9) rfl rfl (l' := #[.val (.int p0), .val (.int p1), .val (.int p2), .val (.int p3), .val (.int p4), .val (.int (p0 &&& (3 : Int32))), .val (.ref b211), .unset, .unset, .unset, .unset, .unset]) rfl ?_
    show Steps p.tables e below (T211.setTop (mkF m 11 #[.val (.int p0), .val (.int p1), .val (.int p2), .val (.int p3), .val (.int p4), .val (.int (p0 &&& (3 : Int32))), .val (.ref b211), .unset, .unset, .unset, .unset, .unset] [])) _
    refine XS.aload X211.here hx rfl (hb hby at_11) rfl rfl ?_
    show Steps p.tables e below (T211.setTop (mkF m 13 #[.val (.int p0), .val (.int p1), .val (.int p2), .val (.int p3), .val (.int p4), .val (.int (p0 &&& (3 : Int32))), .val (.ref b211), .unset, .unset, .unset, .unset, .unset] [(.ref b211)])) _
    refine XS.iconst X211.here hx rfl (hb hby at_13) ?_
    show Steps p.tables e below (T211.setTop (mkF m 14 #[.val (.int p0), .val (.int p1), .val (.int p2), .val (.int p3), .val (.int p4), .val (.int (p0 &&& (3 : Int32))), .val (.ref b211), .unset, .unset, .unset, .unset, .unset] [(.int (0 : Int32)), (.ref b211)])) _
    refine XS.iloadN X211.here hx rfl (hb hby at_14) rfl ?_
    show Steps p.tables e below (T211.setTop (mkF m 15 #[.val (.int p0), .val (.int p1), .val (.int p2), .val (.int p3), .val (.int p4), .val (.int (p0 &&& (3 : Int32))), .val (.ref b211), .unset, .unset, .unset, .unset, .unset] [(.int p2), (.int (0 : Int32)), (.ref b211)])) _
    refine XS.iconst X211.here hx rfl (hb hby at_15) ?_
    show Steps p.tables e below (T211.setTop (mkF m 16 #[.val (.int p0), .val (.int p1), .val (.int p2), .val (.int p3), .val (.int p4), .val (.int (p0 &&& (3 : Int32))), .val (.ref b211), .unset, .unset, .unset, .unset, .unset] [(.int (0 : Int32)), (.int p2), (.int (0 : Int32)), (.ref b211)])) _
    refine st212 _ ?_
    show Steps p.tables e below (T212.setTop (mkF m 19 #[.val (.int p0), .val (.int p1), .val (.int p2), .val (.int p3), .val (.int p4), .val (.int (p0 &&& (3 : Int32))), .val (.ref b211), .unset, .unset, .unset, .unset, .unset] [(.int (bF p2 (0 : Int32))), (.int (0 : Int32)), (.ref b211)])) _
    refine st214 _ ?_
    show Steps p.tables e below (T214.setTop (mkF m 20 #[.val (.int p0), .val (.int p1), .val (.int p2), .val (.int p3), .val (.int p4), .val (.int (p0 &&& (3 : Int32))), .val (.ref b211), .unset, .unset, .unset, .unset, .unset] [])) _
    refine XS.aload X214.here hx rfl (hb hby at_20) rfl rfl ?_
    show Steps p.tables e below (T214.setTop (mkF m 22 #[.val (.int p0), .val (.int p1), .val (.int p2), .val (.int p3), .val (.int p4), .val (.int (p0 &&& (3 : Int32))), .val (.ref b211), .unset, .unset, .unset, .unset, .unset] [(.ref b211)])) _
    refine XS.iconst X214.here hx rfl (hb hby at_22) ?_
    show Steps p.tables e below (T214.setTop (mkF m 23 #[.val (.int p0), .val (.int p1), .val (.int p2), .val (.int p3), .val (.int p4), .val (.int (p0 &&& (3 : Int32))), .val (.ref b211), .unset, .unset, .unset, .unset, .unset] [(.int (1 : Int32)), (.ref b211)])) _
    refine XS.iloadN X214.here hx rfl (hb hby at_23) rfl ?_
    show Steps p.tables e below (T214.setTop (mkF m 24 #[.val (.int p0), .val (.int p1), .val (.int p2), .val (.int p3), .val (.int p4), .val (.int (p0 &&& (3 : Int32))), .val (.ref b211), .unset, .unset, .unset, .unset, .unset] [(.int p2), (.int (1 : Int32)), (.ref b211)])) _
    refine XS.iconst X214.here hx rfl (hb hby at_24) ?_
    show Steps p.tables e below (T214.setTop (mkF m 25 #[.val (.int p0), .val (.int p1), .val (.int p2), .val (.int p3), .val (.int p4), .val (.int (p0 &&& (3 : Int32))), .val (.ref b211), .unset, .unset, .unset, .unset, .unset] [(.int (1 : Int32)), (.int p2), (.int (1 : Int32)), (.ref b211)])) _
    refine st215 _ ?_
    show Steps p.tables e below (T215.setTop (mkF m 28 #[.val (.int p0), .val (.int p1), .val (.int p2), .val (.int p3), .val (.int p4), .val (.int (p0 &&& (3 : Int32))), .val (.ref b211), .unset, .unset, .unset, .unset, .unset] [(.int (bF p2 (1 : Int32))), (.int (1 : Int32)), (.ref b211)])) _
    refine st217 _ ?_
    show Steps p.tables e below (T217.setTop (mkF m 29 #[.val (.int p0), .val (.int p1), .val (.int p2), .val (.int p3), .val (.int p4), .val (.int (p0 &&& (3 : Int32))), .val (.ref b211), .unset, .unset, .unset, .unset, .unset] [])) _
    refine XS.aload X217.here hx rfl (hb hby at_29) rfl rfl ?_
    show Steps p.tables e below (T217.setTop (mkF m 31 #[.val (.int p0), .val (.int p1), .val (.int p2), .val (.int p3), .val (.int p4), .val (.int (p0 &&& (3 : Int32))), .val (.ref b211), .unset, .unset, .unset, .unset, .unset] [(.ref b211)])) _
    refine XS.iconst X217.here hx rfl (hb hby at_31) ?_
    show Steps p.tables e below (T217.setTop (mkF m 32 #[.val (.int p0), .val (.int p1), .val (.int p2), .val (.int p3), .val (.int p4), .val (.int (p0 &&& (3 : Int32))), .val (.ref b211), .unset, .unset, .unset, .unset, .unset] [(.int (2 : Int32)), (.ref b211)])) _
    refine XS.iloadN X217.here hx rfl (hb hby at_32) rfl ?_
    show Steps p.tables e below (T217.setTop (mkF m 33 #[.val (.int p0), .val (.int p1), .val (.int p2), .val (.int p3), .val (.int p4), .val (.int (p0 &&& (3 : Int32))), .val (.ref b211), .unset, .unset, .unset, .unset, .unset] [(.int p2), (.int (2 : Int32)), (.ref b211)])) _
    refine XS.iconst X217.here hx rfl (hb hby at_33) ?_
    show Steps p.tables e below (T217.setTop (mkF m 34 #[.val (.int p0), .val (.int p1), .val (.int p2), .val (.int p3), .val (.int p4), .val (.int (p0 &&& (3 : Int32))), .val (.ref b211), .unset, .unset, .unset, .unset, .unset] [(.int (2 : Int32)), (.int p2), (.int (2 : Int32)), (.ref b211)])) _
    refine st218 _ ?_
    show Steps p.tables e below (T218.setTop (mkF m 37 #[.val (.int p0), .val (.int p1), .val (.int p2), .val (.int p3), .val (.int p4), .val (.int (p0 &&& (3 : Int32))), .val (.ref b211), .unset, .unset, .unset, .unset, .unset] [(.int (bF p2 (2 : Int32))), (.int (2 : Int32)), (.ref b211)])) _
    refine st220 _ ?_
    show Steps p.tables e below (T220.setTop (mkF m 38 #[.val (.int p0), .val (.int p1), .val (.int p2), .val (.int p3), .val (.int p4), .val (.int (p0 &&& (3 : Int32))), .val (.ref b211), .unset, .unset, .unset, .unset, .unset] [])) _
    refine XS.aload X220.here hx rfl (hb hby at_38) rfl rfl ?_
    show Steps p.tables e below (T220.setTop (mkF m 40 #[.val (.int p0), .val (.int p1), .val (.int p2), .val (.int p3), .val (.int p4), .val (.int (p0 &&& (3 : Int32))), .val (.ref b211), .unset, .unset, .unset, .unset, .unset] [(.ref b211)])) _
    refine XS.iconst X220.here hx rfl (hb hby at_40) ?_
    show Steps p.tables e below (T220.setTop (mkF m 41 #[.val (.int p0), .val (.int p1), .val (.int p2), .val (.int p3), .val (.int p4), .val (.int (p0 &&& (3 : Int32))), .val (.ref b211), .unset, .unset, .unset, .unset, .unset] [(.int (3 : Int32)), (.ref b211)])) _
    refine XS.iloadN X220.here hx rfl (hb hby at_41) rfl ?_
    show Steps p.tables e below (T220.setTop (mkF m 42 #[.val (.int p0), .val (.int p1), .val (.int p2), .val (.int p3), .val (.int p4), .val (.int (p0 &&& (3 : Int32))), .val (.ref b211), .unset, .unset, .unset, .unset, .unset] [(.int p2), (.int (3 : Int32)), (.ref b211)])) _
    refine XS.iconst X220.here hx rfl (hb hby at_42) ?_
    show Steps p.tables e below (T220.setTop (mkF m 43 #[.val (.int p0), .val (.int p1), .val (.int p2), .val (.int p3), .val (.int p4), .val (.int (p0 &&& (3 : Int32))), .val (.ref b211), .unset, .unset, .unset, .unset, .unset] [(.int (3 : Int32)), (.int p2), (.int (3 : Int32)), (.ref b211)])) _
    refine st221 _ ?_
    show Steps p.tables e below (T221.setTop (mkF m 46 #[.val (.int p0), .val (.int p1), .val (.int p2), .val (.int p3), .val (.int p4), .val (.int (p0 &&& (3 : Int32))), .val (.ref b211), .unset, .unset, .unset, .unset, .unset] [(.int (bF p2 (3 : Int32))), (.int (3 : Int32)), (.ref b211)])) _
    refine st223 _ ?_
    show Steps p.tables e below (T223.setTop (mkF m 47 #[.val (.int p0), .val (.int p1), .val (.int p2), .val (.int p3), .val (.int p4), .val (.int (p0 &&& (3 : Int32))), .val (.ref b211), .unset, .unset, .unset, .unset, .unset] [])) _
    refine XS.aload X223.here hx rfl (hb hby at_47) rfl rfl ?_
    show Steps p.tables e below (T223.setTop (mkF m 49 #[.val (.int p0), .val (.int p1), .val (.int p2), .val (.int p3), .val (.int p4), .val (.int (p0 &&& (3 : Int32))), .val (.ref b211), .unset, .unset, .unset, .unset, .unset] [(.ref b211)])) _
    refine XS.iconst X223.here hx rfl (hb hby at_49) ?_
    show Steps p.tables e below (T223.setTop (mkF m 50 #[.val (.int p0), .val (.int p1), .val (.int p2), .val (.int p3), .val (.int p4), .val (.int (p0 &&& (3 : Int32))), .val (.ref b211), .unset, .unset, .unset, .unset, .unset] [(.int (4 : Int32)), (.ref b211)])) _
    refine XS.iload X223.here hx rfl (hb hby at_50) rfl ?_
    show Steps p.tables e below (T223.setTop (mkF m 52 #[.val (.int p0), .val (.int p1), .val (.int p2), .val (.int p3), .val (.int p4), .val (.int (p0 &&& (3 : Int32))), .val (.ref b211), .unset, .unset, .unset, .unset, .unset] [(.int p4), (.int (4 : Int32)), (.ref b211)])) _
    refine XS.iconst X223.here hx rfl (hb hby at_52) ?_
    show Steps p.tables e below (T223.setTop (mkF m 53 #[.val (.int p0), .val (.int p1), .val (.int p2), .val (.int p3), .val (.int p4), .val (.int (p0 &&& (3 : Int32))), .val (.ref b211), .unset, .unset, .unset, .unset, .unset] [(.int (0 : Int32)), (.int p4), (.int (4 : Int32)), (.ref b211)])) _
    refine st224 _ ?_
    show Steps p.tables e below (T224.setTop (mkF m 56 #[.val (.int p0), .val (.int p1), .val (.int p2), .val (.int p3), .val (.int p4), .val (.int (p0 &&& (3 : Int32))), .val (.ref b211), .unset, .unset, .unset, .unset, .unset] [(.int (bF p4 (0 : Int32))), (.int (4 : Int32)), (.ref b211)])) _
    refine st226 _ ?_
    show Steps p.tables e below (T226.setTop (mkF m 57 #[.val (.int p0), .val (.int p1), .val (.int p2), .val (.int p3), .val (.int p4), .val (.int (p0 &&& (3 : Int32))), .val (.ref b211), .unset, .unset, .unset, .unset, .unset] [])) _
    refine XS.aload X226.here hx rfl (hb hby at_57) rfl rfl ?_
    show Steps p.tables e below (T226.setTop (mkF m 59 #[.val (.int p0), .val (.int p1), .val (.int p2), .val (.int p3), .val (.int p4), .val (.int (p0 &&& (3 : Int32))), .val (.ref b211), .unset, .unset, .unset, .unset, .unset] [(.ref b211)])) _
    refine XS.iconst X226.here hx rfl (hb hby at_59) ?_
    show Steps p.tables e below (T226.setTop (mkF m 60 #[.val (.int p0), .val (.int p1), .val (.int p2), .val (.int p3), .val (.int p4), .val (.int (p0 &&& (3 : Int32))), .val (.ref b211), .unset, .unset, .unset, .unset, .unset] [(.int (5 : Int32)), (.ref b211)])) _
    refine XS.iload X226.here hx rfl (hb hby at_60) rfl ?_
    show Steps p.tables e below (T226.setTop (mkF m 62 #[.val (.int p0), .val (.int p1), .val (.int p2), .val (.int p3), .val (.int p4), .val (.int (p0 &&& (3 : Int32))), .val (.ref b211), .unset, .unset, .unset, .unset, .unset] [(.int p4), (.int (5 : Int32)), (.ref b211)])) _
    refine XS.iconst X226.here hx rfl (hb hby at_62) ?_
    show Steps p.tables e below (T226.setTop (mkF m 63 #[.val (.int p0), .val (.int p1), .val (.int p2), .val (.int p3), .val (.int p4), .val (.int (p0 &&& (3 : Int32))), .val (.ref b211), .unset, .unset, .unset, .unset, .unset] [(.int (1 : Int32)), (.int p4), (.int (5 : Int32)), (.ref b211)])) _
    refine st227 _ ?_
    show Steps p.tables e below (T227.setTop (mkF m 66 #[.val (.int p0), .val (.int p1), .val (.int p2), .val (.int p3), .val (.int p4), .val (.int (p0 &&& (3 : Int32))), .val (.ref b211), .unset, .unset, .unset, .unset, .unset] [(.int (bF p4 (1 : Int32))), (.int (5 : Int32)), (.ref b211)])) _
    refine st229 _ ?_
    show Steps p.tables e below (T229.setTop (mkF m 67 #[.val (.int p0), .val (.int p1), .val (.int p2), .val (.int p3), .val (.int p4), .val (.int (p0 &&& (3 : Int32))), .val (.ref b211), .unset, .unset, .unset, .unset, .unset] [])) _
    refine XS.aload X229.here hx rfl (hb hby at_67) rfl rfl ?_
    show Steps p.tables e below (T229.setTop (mkF m 69 #[.val (.int p0), .val (.int p1), .val (.int p2), .val (.int p3), .val (.int p4), .val (.int (p0 &&& (3 : Int32))), .val (.ref b211), .unset, .unset, .unset, .unset, .unset] [(.ref b211)])) _
    refine XS.bipush X229.here hx rfl (hb hby at_69) ?_
    show Steps p.tables e below (T229.setTop (mkF m 71 #[.val (.int p0), .val (.int p1), .val (.int p2), .val (.int p3), .val (.int p4), .val (.int (p0 &&& (3 : Int32))), .val (.ref b211), .unset, .unset, .unset, .unset, .unset] [(.int (6 : Int32)), (.ref b211)])) _
    refine XS.iload X229.here hx rfl (hb hby at_71) rfl ?_
    show Steps p.tables e below (T229.setTop (mkF m 73 #[.val (.int p0), .val (.int p1), .val (.int p2), .val (.int p3), .val (.int p4), .val (.int (p0 &&& (3 : Int32))), .val (.ref b211), .unset, .unset, .unset, .unset, .unset] [(.int p4), (.int (6 : Int32)), (.ref b211)])) _
    refine XS.iconst X229.here hx rfl (hb hby at_73) ?_
    show Steps p.tables e below (T229.setTop (mkF m 74 #[.val (.int p0), .val (.int p1), .val (.int p2), .val (.int p3), .val (.int p4), .val (.int (p0 &&& (3 : Int32))), .val (.ref b211), .unset, .unset, .unset, .unset, .unset] [(.int (2 : Int32)), (.int p4), (.int (6 : Int32)), (.ref b211)])) _
    refine st230 _ ?_
    show Steps p.tables e below (T230.setTop (mkF m 77 #[.val (.int p0), .val (.int p1), .val (.int p2), .val (.int p3), .val (.int p4), .val (.int (p0 &&& (3 : Int32))), .val (.ref b211), .unset, .unset, .unset, .unset, .unset] [(.int (bF p4 (2 : Int32))), (.int (6 : Int32)), (.ref b211)])) _
    refine st232 _ ?_
    show Steps p.tables e below (T232.setTop (mkF m 78 #[.val (.int p0), .val (.int p1), .val (.int p2), .val (.int p3), .val (.int p4), .val (.int (p0 &&& (3 : Int32))), .val (.ref b211), .unset, .unset, .unset, .unset, .unset] [])) _
    refine XS.aload X232.here hx rfl (hb hby at_78) rfl rfl ?_
    show Steps p.tables e below (T232.setTop (mkF m 80 #[.val (.int p0), .val (.int p1), .val (.int p2), .val (.int p3), .val (.int p4), .val (.int (p0 &&& (3 : Int32))), .val (.ref b211), .unset, .unset, .unset, .unset, .unset] [(.ref b211)])) _
    refine XS.bipush X232.here hx rfl (hb hby at_80) ?_
    show Steps p.tables e below (T232.setTop (mkF m 82 #[.val (.int p0), .val (.int p1), .val (.int p2), .val (.int p3), .val (.int p4), .val (.int (p0 &&& (3 : Int32))), .val (.ref b211), .unset, .unset, .unset, .unset, .unset] [(.int (7 : Int32)), (.ref b211)])) _
    refine XS.iload X232.here hx rfl (hb hby at_82) rfl ?_
    show Steps p.tables e below (T232.setTop (mkF m 84 #[.val (.int p0), .val (.int p1), .val (.int p2), .val (.int p3), .val (.int p4), .val (.int (p0 &&& (3 : Int32))), .val (.ref b211), .unset, .unset, .unset, .unset, .unset] [(.int p4), (.int (7 : Int32)), (.ref b211)])) _
    refine XS.iconst X232.here hx rfl (hb hby at_84) ?_
    show Steps p.tables e below (T232.setTop (mkF m 85 #[.val (.int p0), .val (.int p1), .val (.int p2), .val (.int p3), .val (.int p4), .val (.int (p0 &&& (3 : Int32))), .val (.ref b211), .unset, .unset, .unset, .unset, .unset] [(.int (3 : Int32)), (.int p4), (.int (7 : Int32)), (.ref b211)])) _
    refine st233 _ ?_
    show Steps p.tables e below (T233.setTop (mkF m 88 #[.val (.int p0), .val (.int p1), .val (.int p2), .val (.int p3), .val (.int p4), .val (.int (p0 &&& (3 : Int32))), .val (.ref b211), .unset, .unset, .unset, .unset, .unset] [(.int (bF p4 (3 : Int32))), (.int (7 : Int32)), (.ref b211)])) _
    refine st235 _ ?_
    show Steps p.tables e below (T235.setTop (mkF m 89 #[.val (.int p0), .val (.int p1), .val (.int p2), .val (.int p3), .val (.int p4), .val (.int (p0 &&& (3 : Int32))), .val (.ref b211), .unset, .unset, .unset, .unset, .unset] [])) _
    refine XS.bipush X235.here hx rfl (hb hby at_89) ?_
    show Steps p.tables e below (T235.setTop (mkF m 91 #[.val (.int p0), .val (.int p1), .val (.int p2), .val (.int p3), .val (.int p4), .val (.int (p0 &&& (3 : Int32))), .val (.ref b211), .unset, .unset, .unset, .unset, .unset] [(.int (8 : Int32))])) _
    refine XS.istore X235.here hx rfl (hb hby at_91) rfl (l' := #[.val (.int p0), .val (.int p1), .val (.int p2), .val (.int p3), .val (.int p4), .val (.int (p0 &&& (3 : Int32))), .val (.ref b211), .val (.int (8 : Int32)), .unset, .unset, .unset, .unset]) rfl ?_
    show Steps p.tables e below (T235.setTop (mkF m 93 #[.val (.int p0), .val (.int p1), .val (.int p2), .val (.int p3), .val (.int p4), .val (.int (p0 &&& (3 : Int32))), .val (.ref b211), .val (.int (8 : Int32)), .unset, .unset, .unset, .unset] [])) _
    refine XS.iload X235.here hx rfl (hb hby at_93) rfl ?_
    exact k
  by_cases hc236 : (p0 &&& (3 : Int32)) = (0 : Int32)
  · -- hc236: yes
    refine own_go (A' := (T235.setTop (mkF m 98 #[.val (.int p0), .val (.int p1), .val (.int p2), .val (.int p3), .val (.int p4), .val (.int (p0 &&& (3 : Int32))), .val (.ref b211), .val (.int (8 : Int32)), .unset, .unset, .unset, .unset] []))) (fun t k => XS.ifNo X235.here hx rfl (hb hby at_95) rfl ((if0 _ _).trans (teq hc236).2) k) ?_
    obtain ⟨cl237, Ar237, q237, S237, N237, H237, G237⟩ := id V235
    have hin237 : ¬ ((0 : Int32) < 0 ∨ cl237.slots.size ≤ ((0 : Int32)).toNatClampNeg) := inb_of S237 ⟨by decide, by decide⟩
    obtain ⟨T238, h238, X238, e238, W238, st238⟩ := stC X235 hx hZ e235 Ar237 (j := (0 : Int32)) hin237  (g := (mkF m 103 #[.val (.int p0), .val (.int p1), .val (.int p2), .val (.int p3), .val (.int p4), .val (.int (p0 &&& (3 : Int32))), .val (.ref b211), .val (.int (8 : Int32)), .unset, .unset, .unset, .unset] [(.int (83 : Int32)), (.int (0 : Int32)), (.ref b211)])) rfl rfl (hb hby at_103)
    have Sf238 : Safe Z consts_1 s.vm h235 b211 := (own_safe_arv hZ.alike V235 (by decide))
    have hk238 := Nat.le_trans hk235 (Keep.of_wr W238).1
    have Cx238 := Cx235.trans (CHr.wr W238 Sf238 Cx235.1)
    have K238 : Keep h0 h238 [] := K235.wr W238 (Or.inr sz_b211)
    have B238 : Ext h0 h238 := own_keep_ext K238
    have N238 := Fr.snoc X238 N235 (Nat.le_trans Z0 sz_b211)
    have V238 : Arv Z h238 b211 k211 .char (8 : Int32) [(.int (nar .char (83 : Int32))), (.int (nar .char (bF p2 (1 : Int32)))), (.int (nar .char (bF p2 (2 : Int32)))), (.int (nar .char (bF p2 (3 : Int32)))), (.int (nar .char (bF p4 (0 : Int32)))), (.int (nar .char (bF p4 (1 : Int32)))), (.int (nar .char (bF p4 (2 : Int32)))), (.int (nar .char (bF p4 (3 : Int32))))] (.int (0 : Int32)) := Arv.set Ar237 q237 S237 N237 H237 G237 (fits_nar_char _) W238 0 rfl (Nat.le_of_ble_eq_true rfl)
    obtain ⟨cl239, Ar239, q239, S239, N239, H239, G239⟩ := id V238
    have hin239 : ¬ ((1 : Int32) < 0 ∨ cl239.slots.size ≤ ((1 : Int32)).toNatClampNeg) := inb_of S239 ⟨by decide, by decide⟩
    obtain ⟨T240, h240, X240, e240, W240, st240⟩ := stC X238 hx hZ e238 Ar239 (j := (1 : Int32)) hin239  (g := (mkF m 109 #[.val (.int p0), .val (.int p1), .val (.int p2), .val (.int p3), .val (.int p4), .val (.int (p0 &&& (3 : Int32))), .val (.ref b211), .val (.int (8 : Int32)), .unset, .unset, .unset, .unset] [(.int (72 : Int32)), (.int (1 : Int32)), (.ref b211)])) rfl rfl (hb hby at_109)
    have Sf240 : Safe Z consts_1 s.vm h238 b211 := (own_safe_arv hZ.alike V238 (by decide))
    have hk240 := Nat.le_trans hk238 (Keep.of_wr W240).1
    have Cx240 := Cx238.trans (CHr.wr W240 Sf240 Cx238.1)
    have K240 : Keep h0 h240 [] := K238.wr W240 (Or.inr sz_b211)
    have B240 : Ext h0 h240 := own_keep_ext K240
    have N240 := Fr.snoc X240 N238 (Nat.le_trans Z0 sz_b211)
    have V240 : Arv Z h240 b211 k211 .char (8 : Int32) [(.int (nar .char (83 : Int32))), (.int (nar .char (72 : Int32))), (.int (nar .char (bF p2 (2 : Int32)))), (.int (nar .char (bF p2 (3 : Int32)))), (.int (nar .char (bF p4 (0 : Int32)))), (.int (nar .char (bF p4 (1 : Int32)))), (.int (nar .char (bF p4 (2 : Int32)))), (.int (nar .char (bF p4 (3 : Int32))))] (.int (0 : Int32)) := Arv.set Ar239 q239 S239 N239 H239 G239 (fits_nar_char _) W240 1 rfl (Nat.le_of_ble_eq_true rfl)
    obtain ⟨cl241, Ar241, q241, S241, N241, H241, G241⟩ := id V240
    have hin241 : ¬ ((2 : Int32) < 0 ∨ cl241.slots.size ≤ ((2 : Int32)).toNatClampNeg) := inb_of S241 ⟨by decide, by decide⟩
    obtain ⟨T242, h242, X242, e242, W242, st242⟩ := stC X240 hx hZ e240 Ar241 (j := (2 : Int32)) hin241  (g := (mkF m 115 #[.val (.int p0), .val (.int p1), .val (.int p2), .val (.int p3), .val (.int p4), .val (.int (p0 &&& (3 : Int32))), .val (.ref b211), .val (.int (8 : Int32)), .unset, .unset, .unset, .unset] [(.int (65 : Int32)), (.int (2 : Int32)), (.ref b211)])) rfl rfl (hb hby at_115)
    have Sf242 : Safe Z consts_1 s.vm h240 b211 := (own_safe_arv hZ.alike V240 (by decide))
    have hk242 := Nat.le_trans hk240 (Keep.of_wr W242).1
    have Cx242 := Cx240.trans (CHr.wr W242 Sf242 Cx240.1)
    have K242 : Keep h0 h242 [] := K240.wr W242 (Or.inr sz_b211)
    have B242 : Ext h0 h242 := own_keep_ext K242
    have N242 := Fr.snoc X242 N240 (Nat.le_trans Z0 sz_b211)
    have V242 : Arv Z h242 b211 k211 .char (8 : Int32) [(.int (nar .char (83 : Int32))), (.int (nar .char (72 : Int32))), (.int (nar .char (65 : Int32))), (.int (nar .char (bF p2 (3 : Int32)))), (.int (nar .char (bF p4 (0 : Int32)))), (.int (nar .char (bF p4 (1 : Int32)))), (.int (nar .char (bF p4 (2 : Int32)))), (.int (nar .char (bF p4 (3 : Int32))))] (.int (0 : Int32)) := Arv.set Ar241 q241 S241 N241 H241 G241 (fits_nar_char _) W242 2 rfl (Nat.le_of_ble_eq_true rfl)
    obtain ⟨cl243, Ar243, q243, S243, N243, H243, G243⟩ := id V242
    have hin243 : ¬ ((3 : Int32) < 0 ∨ cl243.slots.size ≤ ((3 : Int32)).toNatClampNeg) := inb_of S243 ⟨by decide, by decide⟩
    obtain ⟨T244, h244, X244, e244, W244, st244⟩ := stC X242 hx hZ e242 Ar243 (j := (3 : Int32)) hin243  (g := (mkF m 121 #[.val (.int p0), .val (.int p1), .val (.int p2), .val (.int p3), .val (.int p4), .val (.int (p0 &&& (3 : Int32))), .val (.ref b211), .val (.int (8 : Int32)), .unset, .unset, .unset, .unset] [(.int (45 : Int32)), (.int (3 : Int32)), (.ref b211)])) rfl rfl (hb hby at_121)
    have Sf244 : Safe Z consts_1 s.vm h242 b211 := (own_safe_arv hZ.alike V242 (by decide))
    have hk244 := Nat.le_trans hk242 (Keep.of_wr W244).1
    have Cx244 := Cx242.trans (CHr.wr W244 Sf244 Cx242.1)
    have K244 : Keep h0 h244 [] := K242.wr W244 (Or.inr sz_b211)
    have B244 : Ext h0 h244 := own_keep_ext K244
    have N244 := Fr.snoc X244 N242 (Nat.le_trans Z0 sz_b211)
    have V244 : Arv Z h244 b211 k211 .char (8 : Int32) [(.int (nar .char (83 : Int32))), (.int (nar .char (72 : Int32))), (.int (nar .char (65 : Int32))), (.int (nar .char (45 : Int32))), (.int (nar .char (bF p4 (0 : Int32)))), (.int (nar .char (bF p4 (1 : Int32)))), (.int (nar .char (bF p4 (2 : Int32)))), (.int (nar .char (bF p4 (3 : Int32))))] (.int (0 : Int32)) := Arv.set Ar243 q243 S243 N243 H243 G243 (fits_nar_char _) W244 3 rfl (Nat.le_of_ble_eq_true rfl)
    obtain ⟨cl245, Ar245, q245, S245, N245, H245, G245⟩ := id V244
    have hin245 : ¬ ((4 : Int32) < 0 ∨ cl245.slots.size ≤ ((4 : Int32)).toNatClampNeg) := inb_of S245 ⟨by decide, by decide⟩
    obtain ⟨T246, h246, X246, e246, W246, st246⟩ := stC X244 hx hZ e244 Ar245 (j := (4 : Int32)) hin245  (g := (mkF m 127 #[.val (.int p0), .val (.int p1), .val (.int p2), .val (.int p3), .val (.int p4), .val (.int (p0 &&& (3 : Int32))), .val (.ref b211), .val (.int (8 : Int32)), .unset, .unset, .unset, .unset] [(.int (50 : Int32)), (.int (4 : Int32)), (.ref b211)])) rfl rfl (hb hby at_127)
    have Sf246 : Safe Z consts_1 s.vm h244 b211 := (own_safe_arv hZ.alike V244 (by decide))
    have hk246 := Nat.le_trans hk244 (Keep.of_wr W246).1
    have Cx246 := Cx244.trans (CHr.wr W246 Sf246 Cx244.1)
    have K246 : Keep h0 h246 [] := K244.wr W246 (Or.inr sz_b211)
    have B246 : Ext h0 h246 := own_keep_ext K246
    have N246 := Fr.snoc X246 N244 (Nat.le_trans Z0 sz_b211)
    have V246 : Arv Z h246 b211 k211 .char (8 : Int32) [(.int (nar .char (83 : Int32))), (.int (nar .char (72 : Int32))), (.int (nar .char (65 : Int32))), (.int (nar .char (45 : Int32))), (.int (nar .char (50 : Int32))), (.int (nar .char (bF p4 (1 : Int32)))), (.int (nar .char (bF p4 (2 : Int32)))), (.int (nar .char (bF p4 (3 : Int32))))] (.int (0 : Int32)) := Arv.set Ar245 q245 S245 N245 H245 G245 (fits_nar_char _) W246 4 rfl (Nat.le_of_ble_eq_true rfl)
    obtain ⟨cl247, Ar247, q247, S247, N247, H247, G247⟩ := id V246
    have hin247 : ¬ ((5 : Int32) < 0 ∨ cl247.slots.size ≤ ((5 : Int32)).toNatClampNeg) := inb_of S247 ⟨by decide, by decide⟩
    obtain ⟨T248, h248, X248, e248, W248, st248⟩ := stC X246 hx hZ e246 Ar247 (j := (5 : Int32)) hin247  (g := (mkF m 133 #[.val (.int p0), .val (.int p1), .val (.int p2), .val (.int p3), .val (.int p4), .val (.int (p0 &&& (3 : Int32))), .val (.ref b211), .val (.int (8 : Int32)), .unset, .unset, .unset, .unset] [(.int (53 : Int32)), (.int (5 : Int32)), (.ref b211)])) rfl rfl (hb hby at_133)
    have Sf248 : Safe Z consts_1 s.vm h246 b211 := (own_safe_arv hZ.alike V246 (by decide))
    have hk248 := Nat.le_trans hk246 (Keep.of_wr W248).1
    have Cx248 := Cx246.trans (CHr.wr W248 Sf248 Cx246.1)
    have K248 : Keep h0 h248 [] := K246.wr W248 (Or.inr sz_b211)
    have B248 : Ext h0 h248 := own_keep_ext K248
    have N248 := Fr.snoc X248 N246 (Nat.le_trans Z0 sz_b211)
    have V248 : Arv Z h248 b211 k211 .char (8 : Int32) [(.int (nar .char (83 : Int32))), (.int (nar .char (72 : Int32))), (.int (nar .char (65 : Int32))), (.int (nar .char (45 : Int32))), (.int (nar .char (50 : Int32))), (.int (nar .char (53 : Int32))), (.int (nar .char (bF p4 (2 : Int32)))), (.int (nar .char (bF p4 (3 : Int32))))] (.int (0 : Int32)) := Arv.set Ar247 q247 S247 N247 H247 G247 (fits_nar_char _) W248 5 rfl (Nat.le_of_ble_eq_true rfl)
    obtain ⟨cl249, Ar249, q249, S249, N249, H249, G249⟩ := id V248
    have hin249 : ¬ ((6 : Int32) < 0 ∨ cl249.slots.size ≤ ((6 : Int32)).toNatClampNeg) := inb_of S249 ⟨by decide, by decide⟩
    obtain ⟨T250, h250, X250, e250, W250, st250⟩ := stC X248 hx hZ e248 Ar249 (j := (6 : Int32)) hin249  (g := (mkF m 140 #[.val (.int p0), .val (.int p1), .val (.int p2), .val (.int p3), .val (.int p4), .val (.int (p0 &&& (3 : Int32))), .val (.ref b211), .val (.int (8 : Int32)), .unset, .unset, .unset, .unset] [(.int (54 : Int32)), (.int (6 : Int32)), (.ref b211)])) rfl rfl (hb hby at_140)
    have Sf250 : Safe Z consts_1 s.vm h248 b211 := (own_safe_arv hZ.alike V248 (by decide))
    have hk250 := Nat.le_trans hk248 (Keep.of_wr W250).1
    have Cx250 := Cx248.trans (CHr.wr W250 Sf250 Cx248.1)
    have K250 : Keep h0 h250 [] := K248.wr W250 (Or.inr sz_b211)
    have B250 : Ext h0 h250 := own_keep_ext K250
    have N250 := Fr.snoc X250 N248 (Nat.le_trans Z0 sz_b211)
    have V250 : Arv Z h250 b211 k211 .char (8 : Int32) [(.int (nar .char (83 : Int32))), (.int (nar .char (72 : Int32))), (.int (nar .char (65 : Int32))), (.int (nar .char (45 : Int32))), (.int (nar .char (50 : Int32))), (.int (nar .char (53 : Int32))), (.int (nar .char (54 : Int32))), (.int (nar .char (bF p4 (3 : Int32))))] (.int (0 : Int32)) := Arv.set Ar249 q249 S249 N249 H249 G249 (fits_nar_char _) W250 6 rfl (Nat.le_of_ble_eq_true rfl)
    refine own_go (A' := (T250.setTop (mkF m 175 #[.val (.int p0), .val (.int p1), .val (.int p2), .val (.int p3), .val (.int p4), .val (.int (p0 &&& (3 : Int32))), .val (.ref b211), .val (.int (7 : Int32)), .unset, .unset, .unset, .unset] []))) (fun t k => ?_) ?_
    · show Steps p.tables e below (T235.setTop (mkF m 98 #[.val (.int p0), .val (.int p1), .val (.int p2), .val (.int p3), .val (.int p4), .val (.int (p0 &&& (3 : Int32))), .val (.ref b211), .val (.int (8 : Int32)), .unset, .unset, .unset, .unset] [])) _
      refine XS.aload X235.here hx rfl (hb hby at_98) rfl rfl ?_
      show Steps p.tables e below (T235.setTop (mkF m 100 #[.val (.int p0), .val (.int p1), .val (.int p2), .val (.int p3), .val (.int p4), .val (.int (p0 &&& (3 : Int32))), .val (.ref b211), .val (.int (8 : Int32)), .unset, .unset, .unset, .unset] [(.ref b211)])) _
      refine XS.iconst X235.here hx rfl (hb hby at_100) ?_
      show Steps p.tables e below (T235.setTop (mkF m 101 #[.val (.int p0), .val (.int p1), .val (.int p2), .val (.int p3), .val (.int p4), .val (.int (p0 &&& (3 : Int32))), .val (.ref b211), .val (.int (8 : Int32)), .unset, .unset, .unset, .unset] [(.int (0 : Int32)), (.ref b211)])) _
      refine XS.bipush X235.here hx rfl (hb hby at_101) ?_
      show Steps p.tables e below (T235.setTop (mkF m 103 #[.val (.int p0), .val (.int p1), .val (.int p2), .val (.int p3), .val (.int p4), .val (.int (p0 &&& (3 : Int32))), .val (.ref b211), .val (.int (8 : Int32)), .unset, .unset, .unset, .unset] [(.int (83 : Int32)), (.int (0 : Int32)), (.ref b211)])) _
      refine st238 _ ?_
      show Steps p.tables e below (T238.setTop (mkF m 104 #[.val (.int p0), .val (.int p1), .val (.int p2), .val (.int p3), .val (.int p4), .val (.int (p0 &&& (3 : Int32))), .val (.ref b211), .val (.int (8 : Int32)), .unset, .unset, .unset, .unset] [])) _
      refine XS.aload X238.here hx rfl (hb hby at_104) rfl rfl ?_
      show Steps p.tables e below (T238.setTop (mkF m 106 #[.val (.int p0), .val (.int p1), .val (.int p2), .val (.int p3), .val (.int p4), .val (.int (p0 &&& (3 : Int32))), .val (.ref b211), .val (.int (8 : Int32)), .unset, .unset, .unset, .unset] [(.ref b211)])) _
      refine XS.iconst X238.here hx rfl (hb hby at_106) ?_
      show Steps p.tables e below (T238.setTop (mkF m 107 #[.val (.int p0), .val (.int p1), .val (.int p2), .val (.int p3), .val (.int p4), .val (.int (p0 &&& (3 : Int32))), .val (.ref b211), .val (.int (8 : Int32)), .unset, .unset, .unset, .unset] [(.int (1 : Int32)), (.ref b211)])) _
      refine XS.bipush X238.here hx rfl (hb hby at_107) ?_
      show Steps p.tables e below (T238.setTop (mkF m 109 #[.val (.int p0), .val (.int p1), .val (.int p2), .val (.int p3), .val (.int p4), .val (.int (p0 &&& (3 : Int32))), .val (.ref b211), .val (.int (8 : Int32)), .unset, .unset, .unset, .unset] [(.int (72 : Int32)), (.int (1 : Int32)), (.ref b211)])) _
      refine st240 _ ?_
      show Steps p.tables e below (T240.setTop (mkF m 110 #[.val (.int p0), .val (.int p1), .val (.int p2), .val (.int p3), .val (.int p4), .val (.int (p0 &&& (3 : Int32))), .val (.ref b211), .val (.int (8 : Int32)), .unset, .unset, .unset, .unset] [])) _
      refine XS.aload X240.here hx rfl (hb hby at_110) rfl rfl ?_
      show Steps p.tables e below (T240.setTop (mkF m 112 #[.val (.int p0), .val (.int p1), .val (.int p2), .val (.int p3), .val (.int p4), .val (.int (p0 &&& (3 : Int32))), .val (.ref b211), .val (.int (8 : Int32)), .unset, .unset, .unset, .unset] [(.ref b211)])) _
      refine XS.iconst X240.here hx rfl (hb hby at_112) ?_
      show Steps p.tables e below (T240.setTop (mkF m 113 #[.val (.int p0), .val (.int p1), .val (.int p2), .val (.int p3), .val (.int p4), .val (.int (p0 &&& (3 : Int32))), .val (.ref b211), .val (.int (8 : Int32)), .unset, .unset, .unset, .unset] [(.int (2 : Int32)), (.ref b211)])) _
      refine XS.bipush X240.here hx rfl (hb hby at_113) ?_
      show Steps p.tables e below (T240.setTop (mkF m 115 #[.val (.int p0), .val (.int p1), .val (.int p2), .val (.int p3), .val (.int p4), .val (.int (p0 &&& (3 : Int32))), .val (.ref b211), .val (.int (8 : Int32)), .unset, .unset, .unset, .unset] [(.int (65 : Int32)), (.int (2 : Int32)), (.ref b211)])) _
      refine st242 _ ?_
      show Steps p.tables e below (T242.setTop (mkF m 116 #[.val (.int p0), .val (.int p1), .val (.int p2), .val (.int p3), .val (.int p4), .val (.int (p0 &&& (3 : Int32))), .val (.ref b211), .val (.int (8 : Int32)), .unset, .unset, .unset, .unset] [])) _
      refine XS.aload X242.here hx rfl (hb hby at_116) rfl rfl ?_
      show Steps p.tables e below (T242.setTop (mkF m 118 #[.val (.int p0), .val (.int p1), .val (.int p2), .val (.int p3), .val (.int p4), .val (.int (p0 &&& (3 : Int32))), .val (.ref b211), .val (.int (8 : Int32)), .unset, .unset, .unset, .unset] [(.ref b211)])) _
      refine XS.iconst X242.here hx rfl (hb hby at_118) ?_
      show Steps p.tables e below (T242.setTop (mkF m 119 #[.val (.int p0), .val (.int p1), .val (.int p2), .val (.int p3), .val (.int p4), .val (.int (p0 &&& (3 : Int32))), .val (.ref b211), .val (.int (8 : Int32)), .unset, .unset, .unset, .unset] [(.int (3 : Int32)), (.ref b211)])) _
      refine XS.bipush X242.here hx rfl (hb hby at_119) ?_
      show Steps p.tables e below (T242.setTop (mkF m 121 #[.val (.int p0), .val (.int p1), .val (.int p2), .val (.int p3), .val (.int p4), .val (.int (p0 &&& (3 : Int32))), .val (.ref b211), .val (.int (8 : Int32)), .unset, .unset, .unset, .unset] [(.int (45 : Int32)), (.int (3 : Int32)), (.ref b211)])) _
      refine st244 _ ?_
      show Steps p.tables e below (T244.setTop (mkF m 122 #[.val (.int p0), .val (.int p1), .val (.int p2), .val (.int p3), .val (.int p4), .val (.int (p0 &&& (3 : Int32))), .val (.ref b211), .val (.int (8 : Int32)), .unset, .unset, .unset, .unset] [])) _
      refine XS.aload X244.here hx rfl (hb hby at_122) rfl rfl ?_
      show Steps p.tables e below (T244.setTop (mkF m 124 #[.val (.int p0), .val (.int p1), .val (.int p2), .val (.int p3), .val (.int p4), .val (.int (p0 &&& (3 : Int32))), .val (.ref b211), .val (.int (8 : Int32)), .unset, .unset, .unset, .unset] [(.ref b211)])) _
      refine XS.iconst X244.here hx rfl (hb hby at_124) ?_
      show Steps p.tables e below (T244.setTop (mkF m 125 #[.val (.int p0), .val (.int p1), .val (.int p2), .val (.int p3), .val (.int p4), .val (.int (p0 &&& (3 : Int32))), .val (.ref b211), .val (.int (8 : Int32)), .unset, .unset, .unset, .unset] [(.int (4 : Int32)), (.ref b211)])) _
      refine XS.bipush X244.here hx rfl (hb hby at_125) ?_
      show Steps p.tables e below (T244.setTop (mkF m 127 #[.val (.int p0), .val (.int p1), .val (.int p2), .val (.int p3), .val (.int p4), .val (.int (p0 &&& (3 : Int32))), .val (.ref b211), .val (.int (8 : Int32)), .unset, .unset, .unset, .unset] [(.int (50 : Int32)), (.int (4 : Int32)), (.ref b211)])) _
      refine st246 _ ?_
      show Steps p.tables e below (T246.setTop (mkF m 128 #[.val (.int p0), .val (.int p1), .val (.int p2), .val (.int p3), .val (.int p4), .val (.int (p0 &&& (3 : Int32))), .val (.ref b211), .val (.int (8 : Int32)), .unset, .unset, .unset, .unset] [])) _
      refine XS.aload X246.here hx rfl (hb hby at_128) rfl rfl ?_
      show Steps p.tables e below (T246.setTop (mkF m 130 #[.val (.int p0), .val (.int p1), .val (.int p2), .val (.int p3), .val (.int p4), .val (.int (p0 &&& (3 : Int32))), .val (.ref b211), .val (.int (8 : Int32)), .unset, .unset, .unset, .unset] [(.ref b211)])) _
      refine XS.iconst X246.here hx rfl (hb hby at_130) ?_
      show Steps p.tables e below (T246.setTop (mkF m 131 #[.val (.int p0), .val (.int p1), .val (.int p2), .val (.int p3), .val (.int p4), .val (.int (p0 &&& (3 : Int32))), .val (.ref b211), .val (.int (8 : Int32)), .unset, .unset, .unset, .unset] [(.int (5 : Int32)), (.ref b211)])) _
      refine XS.bipush X246.here hx rfl (hb hby at_131) ?_
      show Steps p.tables e below (T246.setTop (mkF m 133 #[.val (.int p0), .val (.int p1), .val (.int p2), .val (.int p3), .val (.int p4), .val (.int (p0 &&& (3 : Int32))), .val (.ref b211), .val (.int (8 : Int32)), .unset, .unset, .unset, .unset] [(.int (53 : Int32)), (.int (5 : Int32)), (.ref b211)])) _
      refine st248 _ ?_
      show Steps p.tables e below (T248.setTop (mkF m 134 #[.val (.int p0), .val (.int p1), .val (.int p2), .val (.int p3), .val (.int p4), .val (.int (p0 &&& (3 : Int32))), .val (.ref b211), .val (.int (8 : Int32)), .unset, .unset, .unset, .unset] [])) _
      refine XS.aload X248.here hx rfl (hb hby at_134) rfl rfl ?_
      show Steps p.tables e below (T248.setTop (mkF m 136 #[.val (.int p0), .val (.int p1), .val (.int p2), .val (.int p3), .val (.int p4), .val (.int (p0 &&& (3 : Int32))), .val (.ref b211), .val (.int (8 : Int32)), .unset, .unset, .unset, .unset] [(.ref b211)])) _
      refine XS.bipush X248.here hx rfl (hb hby at_136) ?_
      show Steps p.tables e below (T248.setTop (mkF m 138 #[.val (.int p0), .val (.int p1), .val (.int p2), .val (.int p3), .val (.int p4), .val (.int (p0 &&& (3 : Int32))), .val (.ref b211), .val (.int (8 : Int32)), .unset, .unset, .unset, .unset] [(.int (6 : Int32)), (.ref b211)])) _
      refine XS.bipush X248.here hx rfl (hb hby at_138) ?_
      show Steps p.tables e below (T248.setTop (mkF m 140 #[.val (.int p0), .val (.int p1), .val (.int p2), .val (.int p3), .val (.int p4), .val (.int (p0 &&& (3 : Int32))), .val (.ref b211), .val (.int (8 : Int32)), .unset, .unset, .unset, .unset] [(.int (54 : Int32)), (.int (6 : Int32)), (.ref b211)])) _
      refine st250 _ ?_
      show Steps p.tables e below (T250.setTop (mkF m 141 #[.val (.int p0), .val (.int p1), .val (.int p2), .val (.int p3), .val (.int p4), .val (.int (p0 &&& (3 : Int32))), .val (.ref b211), .val (.int (8 : Int32)), .unset, .unset, .unset, .unset] [])) _
      refine XS.bipush X250.here hx rfl (hb hby at_141) ?_
      show Steps p.tables e below (T250.setTop (mkF m 143 #[.val (.int p0), .val (.int p1), .val (.int p2), .val (.int p3), .val (.int p4), .val (.int (p0 &&& (3 : Int32))), .val (.ref b211), .val (.int (8 : Int32)), .unset, .unset, .unset, .unset] [(.int (7 : Int32))])) _
      refine XS.istore X250.here hx rfl (hb hby at_143) rfl (l' := #[.val (.int p0), .val (.int p1), .val (.int p2), .val (.int p3), .val (.int p4), .val (.int (p0 &&& (3 : Int32))), .val (.ref b211), .val (.int (7 : Int32)), .unset, .unset, .unset, .unset]) rfl ?_
      show Steps p.tables e below (T250.setTop (mkF m 145 #[.val (.int p0), .val (.int p1), .val (.int p2), .val (.int p3), .val (.int p4), .val (.int (p0 &&& (3 : Int32))), .val (.ref b211), .val (.int (7 : Int32)), .unset, .unset, .unset, .unset] [])) _
      refine XS.goto X250.here hx rfl (pc0 := 145) (pc' := 175) rfl (hb hby at_145) (by decide) (by decide) ?_
      exact k
    exact tail175 l Z a0 hw ws p0 p1 p2 p3 p4 w_SHA_256 w_MD5 x_SHA_256 x_MD5 w_V clV zCS h0 n0 Z0 S_V Ar_V E_V Ft_V L_V V_0 V_1 M_SHA_256 M_MD5 X_SHA_256 X_MD5 S_CS hCS E_SHA_256 E_MD5 S_SHA_256 S_MD5 Bd hml0 hZ hh hC0 b211 k211 (nar .char (83 : Int32)) (nar .char (72 : Int32)) (nar .char (65 : Int32)) (nar .char (45 : Int32)) (nar .char (50 : Int32)) (nar .char (53 : Int32)) (nar .char (54 : Int32)) (nar .char (bF p4 (3 : Int32))) (7 : Int32) X250 e250 N250 K250 Cx250 V250 sz_b211 (own_rgr ⟨by decide, by decide⟩) (own_rgr ⟨by decide, by decide⟩) (own_rgr ⟨by decide, by decide⟩) (own_rgr ⟨by decide, by decide⟩) (own_rgr ⟨by decide, by decide⟩) (own_rgr ⟨by decide, by decide⟩) (own_rgr ⟨by decide, by decide⟩) (own_rgr (own_bF _ _))
  · -- hc236: no
    refine own_go (A' := (T235.setTop (mkF m 148 #[.val (.int p0), .val (.int p1), .val (.int p2), .val (.int p3), .val (.int p4), .val (.int (p0 &&& (3 : Int32))), .val (.ref b211), .val (.int (8 : Int32)), .unset, .unset, .unset, .unset] []))) (fun t k => XS.ifYes X235.here hx rfl (pc0 := 95) (pc' := 148) rfl (hb hby at_95) rfl ((if0 _ _).trans (feq hc236).2) (by decide) (by decide) k) ?_
    refine own_go (A' := (T235.setTop (mkF m 151 #[.val (.int p0), .val (.int p1), .val (.int p2), .val (.int p3), .val (.int p4), .val (.int (p0 &&& (3 : Int32))), .val (.ref b211), .val (.int (8 : Int32)), .unset, .unset, .unset, .unset] [(.int (1 : Int32)), (.int (p0 &&& (3 : Int32)))]))) (fun t k => ?_) ?_
    · show Steps p.tables e below (T235.setTop (mkF m 148 #[.val (.int p0), .val (.int p1), .val (.int p2), .val (.int p3), .val (.int p4), .val (.int (p0 &&& (3 : Int32))), .val (.ref b211), .val (.int (8 : Int32)), .unset, .unset, .unset, .unset] [])) _
      refine XS.iload X235.here hx rfl (hb hby at_148) rfl ?_
      show Steps p.tables e below (T235.setTop (mkF m 150 #[.val (.int p0), .val (.int p1), .val (.int p2), .val (.int p3), .val (.int p4), .val (.int (p0 &&& (3 : Int32))), .val (.ref b211), .val (.int (8 : Int32)), .unset, .unset, .unset, .unset] [(.int (p0 &&& (3 : Int32)))])) _
      refine XS.iconst X235.here hx rfl (hb hby at_150) ?_
      exact k
    by_cases hc251 : (p0 &&& (3 : Int32)) = (1 : Int32)
    · -- hc251: yes
      refine own_go (A' := (T235.setTop (mkF m 154 #[.val (.int p0), .val (.int p1), .val (.int p2), .val (.int p3), .val (.int p4), .val (.int (p0 &&& (3 : Int32))), .val (.ref b211), .val (.int (8 : Int32)), .unset, .unset, .unset, .unset] []))) (fun t k => XS.icmpNo X235.here hx rfl (hb hby at_151) rfl (teq hc251).2 k) ?_
      obtain ⟨cl252, Ar252, q252, S252, N252, H252, G252⟩ := id V235
      have hin252 : ¬ ((0 : Int32) < 0 ∨ cl252.slots.size ≤ ((0 : Int32)).toNatClampNeg) := inb_of S252 ⟨by decide, by decide⟩
      obtain ⟨T253, h253, X253, e253, W253, st253⟩ := stC X235 hx hZ e235 Ar252 (j := (0 : Int32)) hin252  (g := (mkF m 159 #[.val (.int p0), .val (.int p1), .val (.int p2), .val (.int p3), .val (.int p4), .val (.int (p0 &&& (3 : Int32))), .val (.ref b211), .val (.int (8 : Int32)), .unset, .unset, .unset, .unset] [(.int (77 : Int32)), (.int (0 : Int32)), (.ref b211)])) rfl rfl (hb hby at_159)
      have Sf253 : Safe Z consts_1 s.vm h235 b211 := (own_safe_arv hZ.alike V235 (by decide))
      have hk253 := Nat.le_trans hk235 (Keep.of_wr W253).1
      have Cx253 := Cx235.trans (CHr.wr W253 Sf253 Cx235.1)
      have K253 : Keep h0 h253 [] := K235.wr W253 (Or.inr sz_b211)
      have B253 : Ext h0 h253 := own_keep_ext K253
      have N253 := Fr.snoc X253 N235 (Nat.le_trans Z0 sz_b211)
      have V253 : Arv Z h253 b211 k211 .char (8 : Int32) [(.int (nar .char (77 : Int32))), (.int (nar .char (bF p2 (1 : Int32)))), (.int (nar .char (bF p2 (2 : Int32)))), (.int (nar .char (bF p2 (3 : Int32)))), (.int (nar .char (bF p4 (0 : Int32)))), (.int (nar .char (bF p4 (1 : Int32)))), (.int (nar .char (bF p4 (2 : Int32)))), (.int (nar .char (bF p4 (3 : Int32))))] (.int (0 : Int32)) := Arv.set Ar252 q252 S252 N252 H252 G252 (fits_nar_char _) W253 0 rfl (Nat.le_of_ble_eq_true rfl)
      obtain ⟨cl254, Ar254, q254, S254, N254, H254, G254⟩ := id V253
      have hin254 : ¬ ((1 : Int32) < 0 ∨ cl254.slots.size ≤ ((1 : Int32)).toNatClampNeg) := inb_of S254 ⟨by decide, by decide⟩
      obtain ⟨T255, h255, X255, e255, W255, st255⟩ := stC X253 hx hZ e253 Ar254 (j := (1 : Int32)) hin254  (g := (mkF m 165 #[.val (.int p0), .val (.int p1), .val (.int p2), .val (.int p3), .val (.int p4), .val (.int (p0 &&& (3 : Int32))), .val (.ref b211), .val (.int (8 : Int32)), .unset, .unset, .unset, .unset] [(.int (68 : Int32)), (.int (1 : Int32)), (.ref b211)])) rfl rfl (hb hby at_165)
      have Sf255 : Safe Z consts_1 s.vm h253 b211 := (own_safe_arv hZ.alike V253 (by decide))
      have hk255 := Nat.le_trans hk253 (Keep.of_wr W255).1
      have Cx255 := Cx253.trans (CHr.wr W255 Sf255 Cx253.1)
      have K255 : Keep h0 h255 [] := K253.wr W255 (Or.inr sz_b211)
      have B255 : Ext h0 h255 := own_keep_ext K255
      have N255 := Fr.snoc X255 N253 (Nat.le_trans Z0 sz_b211)
      have V255 : Arv Z h255 b211 k211 .char (8 : Int32) [(.int (nar .char (77 : Int32))), (.int (nar .char (68 : Int32))), (.int (nar .char (bF p2 (2 : Int32)))), (.int (nar .char (bF p2 (3 : Int32)))), (.int (nar .char (bF p4 (0 : Int32)))), (.int (nar .char (bF p4 (1 : Int32)))), (.int (nar .char (bF p4 (2 : Int32)))), (.int (nar .char (bF p4 (3 : Int32))))] (.int (0 : Int32)) := Arv.set Ar254 q254 S254 N254 H254 G254 (fits_nar_char _) W255 1 rfl (Nat.le_of_ble_eq_true rfl)
      obtain ⟨cl256, Ar256, q256, S256, N256, H256, G256⟩ := id V255
      have hin256 : ¬ ((2 : Int32) < 0 ∨ cl256.slots.size ≤ ((2 : Int32)).toNatClampNeg) := inb_of S256 ⟨by decide, by decide⟩
      obtain ⟨T257, h257, X257, e257, W257, st257⟩ := stC X255 hx hZ e255 Ar256 (j := (2 : Int32)) hin256  (g := (mkF m 171 #[.val (.int p0), .val (.int p1), .val (.int p2), .val (.int p3), .val (.int p4), .val (.int (p0 &&& (3 : Int32))), .val (.ref b211), .val (.int (8 : Int32)), .unset, .unset, .unset, .unset] [(.int (53 : Int32)), (.int (2 : Int32)), (.ref b211)])) rfl rfl (hb hby at_171)
      have Sf257 : Safe Z consts_1 s.vm h255 b211 := (own_safe_arv hZ.alike V255 (by decide))
      have hk257 := Nat.le_trans hk255 (Keep.of_wr W257).1
      have Cx257 := Cx255.trans (CHr.wr W257 Sf257 Cx255.1)
      have K257 : Keep h0 h257 [] := K255.wr W257 (Or.inr sz_b211)
      have B257 : Ext h0 h257 := own_keep_ext K257
      have N257 := Fr.snoc X257 N255 (Nat.le_trans Z0 sz_b211)
      have V257 : Arv Z h257 b211 k211 .char (8 : Int32) [(.int (nar .char (77 : Int32))), (.int (nar .char (68 : Int32))), (.int (nar .char (53 : Int32))), (.int (nar .char (bF p2 (3 : Int32)))), (.int (nar .char (bF p4 (0 : Int32)))), (.int (nar .char (bF p4 (1 : Int32)))), (.int (nar .char (bF p4 (2 : Int32)))), (.int (nar .char (bF p4 (3 : Int32))))] (.int (0 : Int32)) := Arv.set Ar256 q256 S256 N256 H256 G256 (fits_nar_char _) W257 2 rfl (Nat.le_of_ble_eq_true rfl)
      refine own_go (A' := (T257.setTop (mkF m 175 #[.val (.int p0), .val (.int p1), .val (.int p2), .val (.int p3), .val (.int p4), .val (.int (p0 &&& (3 : Int32))), .val (.ref b211), .val (.int (3 : Int32)), .unset, .unset, .unset, .unset] []))) (fun t k => ?_) ?_
      · show Steps p.tables e below (T235.setTop (mkF m 154 #[.val (.int p0), .val (.int p1), .val (.int p2), .val (.int p3), .val (.int p4), .val (.int (p0 &&& (3 : Int32))), .val (.ref b211), .val (.int (8 : Int32)), .unset, .unset, .unset, .unset] [])) _
        refine XS.aload X235.here hx rfl (hb hby at_154) rfl rfl ?_
        show Steps p.tables e below (T235.setTop (mkF m 156 #[.val (.int p0), .val (.int p1), .val (.int p2), .val (.int p3), .val (.int p4), .val (.int (p0 &&& (3 : Int32))), .val (.ref b211), .val (.int (8 : Int32)), .unset, .unset, .unset, .unset] [(.ref b211)])) _
        refine XS.iconst X235.here hx rfl (hb hby at_156) ?_
        show Steps p.tables e below (T235.setTop (mkF m 157 #[.val (.int p0), .val (.int p1), .val (.int p2), .val (.int p3), .val (.int p4), .val (.int (p0 &&& (3 : Int32))), .val (.ref b211), .val (.int (8 : Int32)), .unset, .unset, .unset, .unset] [(.int (0 : Int32)), (.ref b211)])) _
        refine XS.bipush X235.here hx rfl (hb hby at_157) ?_
        show Steps p.tables e below (T235.setTop (mkF m 159 #[.val (.int p0), .val (.int p1), .val (.int p2), .val (.int p3), .val (.int p4), .val (.int (p0 &&& (3 : Int32))), .val (.ref b211), .val (.int (8 : Int32)), .unset, .unset, .unset, .unset] [(.int (77 : Int32)), (.int (0 : Int32)), (.ref b211)])) _
        refine st253 _ ?_
        show Steps p.tables e below (T253.setTop (mkF m 160 #[.val (.int p0), .val (.int p1), .val (.int p2), .val (.int p3), .val (.int p4), .val (.int (p0 &&& (3 : Int32))), .val (.ref b211), .val (.int (8 : Int32)), .unset, .unset, .unset, .unset] [])) _
        refine XS.aload X253.here hx rfl (hb hby at_160) rfl rfl ?_
        show Steps p.tables e below (T253.setTop (mkF m 162 #[.val (.int p0), .val (.int p1), .val (.int p2), .val (.int p3), .val (.int p4), .val (.int (p0 &&& (3 : Int32))), .val (.ref b211), .val (.int (8 : Int32)), .unset, .unset, .unset, .unset] [(.ref b211)])) _
        refine XS.iconst X253.here hx rfl (hb hby at_162) ?_
        show Steps p.tables e below (T253.setTop (mkF m 163 #[.val (.int p0), .val (.int p1), .val (.int p2), .val (.int p3), .val (.int p4), .val (.int (p0 &&& (3 : Int32))), .val (.ref b211), .val (.int (8 : Int32)), .unset, .unset, .unset, .unset] [(.int (1 : Int32)), (.ref b211)])) _
        refine XS.bipush X253.here hx rfl (hb hby at_163) ?_
        show Steps p.tables e below (T253.setTop (mkF m 165 #[.val (.int p0), .val (.int p1), .val (.int p2), .val (.int p3), .val (.int p4), .val (.int (p0 &&& (3 : Int32))), .val (.ref b211), .val (.int (8 : Int32)), .unset, .unset, .unset, .unset] [(.int (68 : Int32)), (.int (1 : Int32)), (.ref b211)])) _
        refine st255 _ ?_
        show Steps p.tables e below (T255.setTop (mkF m 166 #[.val (.int p0), .val (.int p1), .val (.int p2), .val (.int p3), .val (.int p4), .val (.int (p0 &&& (3 : Int32))), .val (.ref b211), .val (.int (8 : Int32)), .unset, .unset, .unset, .unset] [])) _
        refine XS.aload X255.here hx rfl (hb hby at_166) rfl rfl ?_
        show Steps p.tables e below (T255.setTop (mkF m 168 #[.val (.int p0), .val (.int p1), .val (.int p2), .val (.int p3), .val (.int p4), .val (.int (p0 &&& (3 : Int32))), .val (.ref b211), .val (.int (8 : Int32)), .unset, .unset, .unset, .unset] [(.ref b211)])) _
        refine XS.iconst X255.here hx rfl (hb hby at_168) ?_
        show Steps p.tables e below (T255.setTop (mkF m 169 #[.val (.int p0), .val (.int p1), .val (.int p2), .val (.int p3), .val (.int p4), .val (.int (p0 &&& (3 : Int32))), .val (.ref b211), .val (.int (8 : Int32)), .unset, .unset, .unset, .unset] [(.int (2 : Int32)), (.ref b211)])) _
        refine XS.bipush X255.here hx rfl (hb hby at_169) ?_
        show Steps p.tables e below (T255.setTop (mkF m 171 #[.val (.int p0), .val (.int p1), .val (.int p2), .val (.int p3), .val (.int p4), .val (.int (p0 &&& (3 : Int32))), .val (.ref b211), .val (.int (8 : Int32)), .unset, .unset, .unset, .unset] [(.int (53 : Int32)), (.int (2 : Int32)), (.ref b211)])) _
        refine st257 _ ?_
        show Steps p.tables e below (T257.setTop (mkF m 172 #[.val (.int p0), .val (.int p1), .val (.int p2), .val (.int p3), .val (.int p4), .val (.int (p0 &&& (3 : Int32))), .val (.ref b211), .val (.int (8 : Int32)), .unset, .unset, .unset, .unset] [])) _
        refine XS.iconst X257.here hx rfl (hb hby at_172) ?_
        show Steps p.tables e below (T257.setTop (mkF m 173 #[.val (.int p0), .val (.int p1), .val (.int p2), .val (.int p3), .val (.int p4), .val (.int (p0 &&& (3 : Int32))), .val (.ref b211), .val (.int (8 : Int32)), .unset, .unset, .unset, .unset] [(.int (3 : Int32))])) _
        refine XS.istore X257.here hx rfl (hb hby at_173) rfl (l' := #[.val (.int p0), .val (.int p1), .val (.int p2), .val (.int p3), .val (.int p4), .val (.int (p0 &&& (3 : Int32))), .val (.ref b211), .val (.int (3 : Int32)), .unset, .unset, .unset, .unset]) rfl ?_
        exact k
      exact tail175 l Z a0 hw ws p0 p1 p2 p3 p4 w_SHA_256 w_MD5 x_SHA_256 x_MD5 w_V clV zCS h0 n0 Z0 S_V Ar_V E_V Ft_V L_V V_0 V_1 M_SHA_256 M_MD5 X_SHA_256 X_MD5 S_CS hCS E_SHA_256 E_MD5 S_SHA_256 S_MD5 Bd hml0 hZ hh hC0 b211 k211 (nar .char (77 : Int32)) (nar .char (68 : Int32)) (nar .char (53 : Int32)) (nar .char (bF p2 (3 : Int32))) (nar .char (bF p4 (0 : Int32))) (nar .char (bF p4 (1 : Int32))) (nar .char (bF p4 (2 : Int32))) (nar .char (bF p4 (3 : Int32))) (3 : Int32) X257 e257 N257 K257 Cx257 V257 sz_b211 (own_rgr ⟨by decide, by decide⟩) (own_rgr ⟨by decide, by decide⟩) (own_rgr ⟨by decide, by decide⟩) (own_rgr (own_bF _ _)) (own_rgr (own_bF _ _)) (own_rgr (own_bF _ _)) (own_rgr (own_bF _ _)) (own_rgr (own_bF _ _))
    · -- hc251: no
      refine own_go (A' := (T235.setTop (mkF m 175 #[.val (.int p0), .val (.int p1), .val (.int p2), .val (.int p3), .val (.int p4), .val (.int (p0 &&& (3 : Int32))), .val (.ref b211), .val (.int (8 : Int32)), .unset, .unset, .unset, .unset] []))) (fun t k => XS.icmpYes X235.here hx rfl (pc0 := 151) (pc' := 175) rfl (hb hby at_151) rfl (feq hc251).2 (by decide) (by decide) k) ?_
      exact tail175 l Z a0 hw ws p0 p1 p2 p3 p4 w_SHA_256 w_MD5 x_SHA_256 x_MD5 w_V clV zCS h0 n0 Z0 S_V Ar_V E_V Ft_V L_V V_0 V_1 M_SHA_256 M_MD5 X_SHA_256 X_MD5 S_CS hCS E_SHA_256 E_MD5 S_SHA_256 S_MD5 Bd hml0 hZ hh hC0 b211 k211 (nar .char (bF p2 (0 : Int32))) (nar .char (bF p2 (1 : Int32))) (nar .char (bF p2 (2 : Int32))) (nar .char (bF p2 (3 : Int32))) (nar .char (bF p4 (0 : Int32))) (nar .char (bF p4 (1 : Int32))) (nar .char (bF p4 (2 : Int32))) (nar .char (bF p4 (3 : Int32))) (8 : Int32) X235 e235 N235 K235 Cx235 V235 sz_b211 (own_rgr (own_bF _ _)) (own_rgr (own_bF _ _)) (own_rgr (own_bF _ _)) (own_rgr (own_bF _ _)) (own_rgr (own_bF _ _)) (own_rgr (own_bF _ _)) (own_rgr (own_bF _ _)) (own_rgr (own_bF _ _))
theorem own_eqref {t u : Term} {w : Addr} {args : Array Value} {first s : State} {o : Option Outcome} {idx : List Nat} (h : (Jvm.Cond.eq t u).value args first o s idx = some true) (hu : u.eval args first o idx s = some (.ref w)) : t.eval args first o idx s = some (.ref w) := by
  cases ht : t.eval args first o idx s with
  | none => simp [Cond.value, hu, ht] at h
  | some x => cases x <;> simp [Cond.value, hu, ht] at h; subst h; rfl
theorem own_two {n : Nat} (h : n < 2 ^ 31) (e : n.toInt32 = (2 : Int32)) : n = 2 := by
  have q := len_toInt h
  rw [e, show (2 : Int32).toInt = 2 from by decide] at q
  omega
theorem own_eqint {t : Term} {k : Int32} {args : Array Value} {first s : State} {o : Option Outcome} {idx : List Nat} (h : (Jvm.Cond.eq t (.int k)).value args first o s idx = some true) : t.eval args first o idx s = some (.int k) := by
  cases ht : t.eval args first o idx s with
  | none => simp [Cond.value, Term.eval, ht] at h
  | some x => cases x <;> simp [Cond.value, Term.eval, ht] at h; subst h; rfl
theorem own_neint {t : Term} {k z : Int32} {args : Array Value} {first s : State} {o : Option Outcome} {idx : List Nat} (h : (Jvm.Cond.not (.eq t (.int k))).value args first o s idx = some true) (ev : t.eval args first o idx s = some (.int z)) : ¬ z = k := fun q => by
  subst q
  have h' := not_v h
  simp [Cond.value, Term.eval, ev] at h'
set_option maxRecDepth 65536 in
set_option maxHeartbeats 40000000 in
theorem comes_1 {Post : Tables → Env → Array Value → State → Outcome → State → Prop} (hpost : ∀ tb e args s v u, (limb_1_1.after args s (.returned v) u = true ∧ limb_1_2.after args s (.returned v) u = true ∧ True) → Jvm.D.FramedW s (.returned v) u (Jvm.fieldLocs frame_1_writes args s ++ Jvm.arrayLocs frame_1_arrays args s ++ Jvm.staticLocs frame_1_statics s) 24 3264 → Post tb e args s (.returned v) u) :
    ArmFor flags0 classFile x code maxLocals ret World_1 tables_1 room_1 Calls_1 rest_1 Pre_1 Post := by
  intro l hfl _ _ p e ha hc hk s m args below hf hA hF happ hP
  obtain ⟨hcalls, hrest, hpre⟩ := hP
  obtain ⟨-, -, -, hnamed, -, -, -, hat⟩ := (Spec.applies_iff hf).mp happ
  obtain ⟨hg, hn⟩ := and_e (Cond.before_iff.mp (show (Jvm.Cond.and given_1 narrow_1).before args s = true from hpre))
  have hv0 := (and_e (and_e hg).2).1
  have hv1 := (and_e (and_e (and_e hg).2).2).1
  have hv2 := (and_e (and_e (and_e (and_e hg).2).2).2).1
  have hv3 := (and_e (and_e (and_e (and_e (and_e hg).2).2).2).2).1
  have hv4 := (and_e (and_e (and_e (and_e (and_e hg).2).2).2).2).2
  obtain ⟨w0, w1, w2, w3, w4, rfl⟩ : ∃ w0 w1 w2 w3 w4 : Value, args = #[w0, w1, w2, w3, w4] := by
    have hs : args.size = 5 := by simpa [Cond.value, given_1] using (and_e hg).1
    obtain ⟨L⟩ := args
    match L, hs with
    | [w0, w1, w2, w3, w4], _ => exact ⟨w0, w1, w2, w3, w4, rfl⟩
  have hw := fun d (hd : d ∈ tables_1) => atoms_spec (ws := Jvm.Cond.code x code maxLocals ret :: tables_1) hat d (List.mem_cons_of_mem _ hd)
  have hfit : Fit s := fun {y c} hc i hi => by
    obtain ⟨ha, rfl⟩ := Array.getElem?_eq_some_iff.mp hc
    have q := List.all_eq_true.mp ((Array.all_eq_true_iff_forall_mem.mp hF) _ (Array.getElem_mem ha)) i (List.mem_range.mpr hi)
    simpa [Array.getElem?_eq_getElem hi] using q
  obtain ⟨hsets, hown0⟩ := atoms_of _ (rest_1_c_eq ▸ (show rest_1_c.before _ s = true from hrest))
  have hr0 := Cond.before_iff.mp hown0
  obtain ⟨i0, ei0⟩ := is_v hv0
  obtain rfl : w0 = (.int i0) := Option.some.inj ei0
  obtain ⟨i1, ei1⟩ := is_v hv1
  obtain rfl : w1 = (.int i1) := Option.some.inj ei1
  obtain ⟨i2, ei2⟩ := is_v hv2
  obtain rfl : w2 = (.int i2) := Option.some.inj ei2
  obtain ⟨i3, ei3⟩ := is_v hv3
  obtain rfl : w3 = (.int i3) := Option.some.inj ei3
  obtain ⟨i4, ei4⟩ := is_v hv4
  obtain rfl : w4 = (.int i4) := Option.some.inj ei4
  have hx_SHA_256 := (and_e hn).1
  obtain ⟨w_SHA_256, ev_SHA_256⟩ := exa_v hx_SHA_256
  have S_SHA_256 : Sta s s.heap "com/example/lading/lading/packaging/ChecksumAlgorithm" "SHA_256" "Lcom/example/lading/lading/packaging/ChecksumAlgorithm;" (.ref w_SHA_256) := Sta.start ev_SHA_256 (Or.inr ⟨(hw _ (List.mem_of_getElem? (i := 51) rfl)), (hw _ (List.mem_of_getElem? (i := 52) rfl))⟩)
  have E_SHA_256 : Exa s s.heap w_SHA_256 "com/example/lading/lading/packaging/ChecksumAlgorithm" := Exa.start ev_SHA_256 hx_SHA_256
  have hx_MD5 := (and_e (and_e (and_e (and_e (and_e (and_e hn).2).2).2).2).2).1
  obtain ⟨w_MD5, ev_MD5⟩ := exa_v hx_MD5
  have S_MD5 : Sta s s.heap "com/example/lading/lading/packaging/ChecksumAlgorithm" "MD5" "Lcom/example/lading/lading/packaging/ChecksumAlgorithm;" (.ref w_MD5) := Sta.start ev_MD5 (Or.inr ⟨(hw _ (List.mem_of_getElem? (i := 51) rfl)), (hw _ (List.mem_of_getElem? (i := 68) rfl))⟩)
  have E_MD5 : Exa s s.heap w_MD5 "com/example/lading/lading/packaging/ChecksumAlgorithm" := Exa.start ev_MD5 hx_MD5
  obtain ⟨zCS, ev_CS⟩ := is_v (Cond.before_iff.mp (hsets _ (List.mem_of_getElem? (i := 1) rfl)))
  have S_CS : Sta s s.heap "java/lang/String" "COMPACT_STRINGS" "Z" (.int zCS) := Sta.start ev_CS (Or.inl (hsets _ (List.mem_of_getElem? (i := 0) rfl)))
  have hCS : ¬ zCS = 0 := own_neint (Cond.before_iff.mp (hsets _ (List.mem_of_getElem? (i := 2) rfl))) ev_CS
  have hm_SHA_256 := (and_e (and_e (and_e (and_e (and_e (and_e (and_e (and_e hn).2).2).2).2).2).2).2).1
  obtain ⟨x_SHA_256, em_SHA_256⟩ := exa_v hm_SHA_256
  have M_SHA_256 : Fld s s.heap w_SHA_256 "com/example/lading/lading/packaging/ChecksumAlgorithm" "manifestName" "Ljava/lang/String;" (.ref x_SHA_256) := Fld.start ((fld_at ev_SHA_256).symm.trans em_SHA_256)
  have Ex_SHA_256 : Exa s s.heap x_SHA_256 "java/lang/String" := Exa.start em_SHA_256 hm_SHA_256
  have Fc_SHA_256 : Fld s s.heap x_SHA_256 "java/lang/String" "coder" "B" (.int (0 : Int32)) := Fld.start ((fld_at em_SHA_256).symm.trans (own_eqint (and_e (and_e (and_e (and_e (and_e (and_e (and_e (and_e (and_e hn).2).2).2).2).2).2).2).2).1))
  have ha_SHA_256 := (and_e (and_e (and_e (and_e (and_e (and_e (and_e (and_e (and_e (and_e hn).2).2).2).2).2).2).2).2).2).1
  obtain ⟨t_SHA_256, et_SHA_256⟩ := arr_v ha_SHA_256
  obtain ⟨cl_SHA_256, Ar_SHA_256⟩ := Arr.start et_SHA_256 ha_SHA_256
  have Fv_SHA_256 : Fld s s.heap x_SHA_256 "java/lang/String" "value" "[B" (.ref t_SHA_256) := Fld.start ((fld_at em_SHA_256).symm.trans et_SHA_256)
  obtain ⟨sz_SHA_256, len_SHA_256⟩ := IntBox.length_fwd (Cond.before_iff.mpr (and_e (and_e (and_e (and_e (and_e (and_e (and_e (and_e (and_e (and_e (and_e hn).2).2).2).2).2).2).2).2).2).2).1) et_SHA_256 Ar_SHA_256.1 Ar_SHA_256.2.1 Ar_SHA_256.2.2
  have at_SHA_256 := IntBox.arrayAt_of Ar_SHA_256.1 Ar_SHA_256.2.1 Ar_SHA_256.2.2
  have e0_SHA_256 : cl_SHA_256.slots[0]? = some (.int (83 : Int32)) := (elem_f et_SHA_256 (Term.int_eval (0)) at_SHA_256 (by decide)).symm.trans (own_eqint (and_e (and_e (and_e (and_e (and_e (and_e (and_e (and_e (and_e (and_e (and_e (and_e (and_e (and_e (and_e (and_e (and_e (and_e (and_e hn).2).2).2).2).2).2).2).2).2).2).2).2).2).2).2).2).2).2).1)
  have e1_SHA_256 : cl_SHA_256.slots[1]? = some (.int (72 : Int32)) := (elem_f et_SHA_256 (Term.int_eval (1)) at_SHA_256 (by decide)).symm.trans (own_eqint (and_e (and_e (and_e (and_e (and_e (and_e (and_e (and_e (and_e (and_e (and_e (and_e (and_e (and_e (and_e (and_e (and_e (and_e (and_e (and_e hn).2).2).2).2).2).2).2).2).2).2).2).2).2).2).2).2).2).2).2).1)
  have e2_SHA_256 : cl_SHA_256.slots[2]? = some (.int (65 : Int32)) := (elem_f et_SHA_256 (Term.int_eval (2)) at_SHA_256 (by decide)).symm.trans (own_eqint (and_e (and_e (and_e (and_e (and_e (and_e (and_e (and_e (and_e (and_e (and_e (and_e (and_e (and_e (and_e (and_e (and_e (and_e (and_e (and_e (and_e hn).2).2).2).2).2).2).2).2).2).2).2).2).2).2).2).2).2).2).2).2).1)
  have e3_SHA_256 : cl_SHA_256.slots[3]? = some (.int (45 : Int32)) := (elem_f et_SHA_256 (Term.int_eval (3)) at_SHA_256 (by decide)).symm.trans (own_eqint (and_e (and_e (and_e (and_e (and_e (and_e (and_e (and_e (and_e (and_e (and_e (and_e (and_e (and_e (and_e (and_e (and_e (and_e (and_e (and_e (and_e (and_e hn).2).2).2).2).2).2).2).2).2).2).2).2).2).2).2).2).2).2).2).2).2).1)
  have e4_SHA_256 : cl_SHA_256.slots[4]? = some (.int (50 : Int32)) := (elem_f et_SHA_256 (Term.int_eval (4)) at_SHA_256 (by decide)).symm.trans (own_eqint (and_e (and_e (and_e (and_e (and_e (and_e (and_e (and_e (and_e (and_e (and_e (and_e (and_e (and_e (and_e (and_e (and_e (and_e (and_e (and_e (and_e (and_e (and_e hn).2).2).2).2).2).2).2).2).2).2).2).2).2).2).2).2).2).2).2).2).2).2).1)
  have e5_SHA_256 : cl_SHA_256.slots[5]? = some (.int (53 : Int32)) := (elem_f et_SHA_256 (Term.int_eval (5)) at_SHA_256 (by decide)).symm.trans (own_eqint (and_e (and_e (and_e (and_e (and_e (and_e (and_e (and_e (and_e (and_e (and_e (and_e (and_e (and_e (and_e (and_e (and_e (and_e (and_e (and_e (and_e (and_e (and_e (and_e hn).2).2).2).2).2).2).2).2).2).2).2).2).2).2).2).2).2).2).2).2).2).2).2).1)
  have e6_SHA_256 : cl_SHA_256.slots[6]? = some (.int (54 : Int32)) := (elem_f et_SHA_256 (Term.int_eval (6)) at_SHA_256 (by decide)).symm.trans (own_eqint (and_e (and_e (and_e (and_e (and_e (and_e (and_e (and_e (and_e (and_e (and_e (and_e (and_e (and_e (and_e (and_e (and_e (and_e (and_e (and_e (and_e (and_e (and_e (and_e hn).2).2).2).2).2).2).2).2).2).2).2).2).2).2).2).2).2).2).2).2).2).2).2).2)
  have A_SHA_256 : Arv s s.heap t_SHA_256 cl_SHA_256.cls .byte (7 : Int32) [(.int (83 : Int32)), (.int (72 : Int32)), (.int (65 : Int32)), (.int (45 : Int32)), (.int (50 : Int32)), (.int (53 : Int32)), (.int (54 : Int32))] (.int 0) := Arv.start hfit Ar_SHA_256 sz_SHA_256 len_SHA_256 (by decide) (by decide) ⟨e0_SHA_256, e1_SHA_256, e2_SHA_256, e3_SHA_256, e4_SHA_256, e5_SHA_256, e6_SHA_256, trivial⟩
  have X_SHA_256 : SF s s.heap x_SHA_256 sha := own_SF (by decide) (by decide) (by decide) (by decide) Ex_SHA_256 Fc_SHA_256 Fv_SHA_256 A_SHA_256
  have hm_MD5 := (and_e (and_e (and_e (and_e (and_e (and_e (and_e (and_e (and_e (and_e (and_e (and_e hn).2).2).2).2).2).2).2).2).2).2).2).1
  obtain ⟨x_MD5, em_MD5⟩ := exa_v hm_MD5
  have M_MD5 : Fld s s.heap w_MD5 "com/example/lading/lading/packaging/ChecksumAlgorithm" "manifestName" "Ljava/lang/String;" (.ref x_MD5) := Fld.start ((fld_at ev_MD5).symm.trans em_MD5)
  have Ex_MD5 : Exa s s.heap x_MD5 "java/lang/String" := Exa.start em_MD5 hm_MD5
  have Fc_MD5 : Fld s s.heap x_MD5 "java/lang/String" "coder" "B" (.int (0 : Int32)) := Fld.start ((fld_at em_MD5).symm.trans (own_eqint (and_e (and_e (and_e (and_e (and_e (and_e (and_e (and_e (and_e (and_e (and_e (and_e (and_e hn).2).2).2).2).2).2).2).2).2).2).2).2).1))
  have ha_MD5 := (and_e (and_e (and_e (and_e (and_e (and_e (and_e (and_e (and_e (and_e (and_e (and_e (and_e (and_e hn).2).2).2).2).2).2).2).2).2).2).2).2).2).1
  obtain ⟨t_MD5, et_MD5⟩ := arr_v ha_MD5
  obtain ⟨cl_MD5, Ar_MD5⟩ := Arr.start et_MD5 ha_MD5
  have Fv_MD5 : Fld s s.heap x_MD5 "java/lang/String" "value" "[B" (.ref t_MD5) := Fld.start ((fld_at em_MD5).symm.trans et_MD5)
  obtain ⟨sz_MD5, len_MD5⟩ := IntBox.length_fwd (Cond.before_iff.mpr (and_e (and_e (and_e (and_e (and_e (and_e (and_e (and_e (and_e (and_e (and_e (and_e (and_e (and_e (and_e hn).2).2).2).2).2).2).2).2).2).2).2).2).2).2).1) et_MD5 Ar_MD5.1 Ar_MD5.2.1 Ar_MD5.2.2
  have at_MD5 := IntBox.arrayAt_of Ar_MD5.1 Ar_MD5.2.1 Ar_MD5.2.2
  have e0_MD5 : cl_MD5.slots[0]? = some (.int (77 : Int32)) := (elem_f et_MD5 (Term.int_eval (0)) at_MD5 (by decide)).symm.trans (own_eqint (and_e (and_e (and_e (and_e (and_e (and_e (and_e (and_e (and_e (and_e (and_e (and_e (and_e (and_e (and_e (and_e hn).2).2).2).2).2).2).2).2).2).2).2).2).2).2).2).1)
  have e1_MD5 : cl_MD5.slots[1]? = some (.int (68 : Int32)) := (elem_f et_MD5 (Term.int_eval (1)) at_MD5 (by decide)).symm.trans (own_eqint (and_e (and_e (and_e (and_e (and_e (and_e (and_e (and_e (and_e (and_e (and_e (and_e (and_e (and_e (and_e (and_e (and_e hn).2).2).2).2).2).2).2).2).2).2).2).2).2).2).2).2).1)
  have e2_MD5 : cl_MD5.slots[2]? = some (.int (53 : Int32)) := (elem_f et_MD5 (Term.int_eval (2)) at_MD5 (by decide)).symm.trans (own_eqint (and_e (and_e (and_e (and_e (and_e (and_e (and_e (and_e (and_e (and_e (and_e (and_e (and_e (and_e (and_e (and_e (and_e (and_e hn).2).2).2).2).2).2).2).2).2).2).2).2).2).2).2).2).2).1)
  have A_MD5 : Arv s s.heap t_MD5 cl_MD5.cls .byte (3 : Int32) [(.int (77 : Int32)), (.int (68 : Int32)), (.int (53 : Int32))] (.int 0) := Arv.start hfit Ar_MD5 sz_MD5 len_MD5 (by decide) (by decide) ⟨e0_MD5, e1_MD5, e2_MD5, trivial⟩
  have X_MD5 : SF s s.heap x_MD5 md5 := own_SF (by decide) (by decide) (by decide) (by decide) Ex_MD5 Fc_MD5 Fv_MD5 A_MD5
  have hv2 := (and_e (and_e (and_e hn).2).2).1
  have hv1 := (and_e (and_e hn).2).1
  obtain ⟨w_V, ev_V⟩ := exa_v hv2
  have S_V : Sta s s.heap "com/example/lading/lading/packaging/ChecksumAlgorithm" "$VALUES" "[Lcom/example/lading/lading/packaging/ChecksumAlgorithm;" (.ref w_V) := Sta.start ev_V (Or.inl (hw _ (List.mem_of_getElem? (i := 69) rfl)))
  have E_V : Exa s s.heap w_V "[Lcom/example/lading/lading/packaging/ChecksumAlgorithm;" := Exa.start ev_V hv2
  obtain ⟨clV, Ar_V⟩ := Arr.start ev_V hv1
  have Ft_V : FitC s clV := FitC.start hfit Ar_V
  obtain ⟨szV, lenV⟩ := IntBox.length_fwd (Cond.before_iff.mpr (and_e (and_e (and_e (and_e hn).2).2).2).1) ev_V Ar_V.1 Ar_V.2.1 Ar_V.2.2
  have L_V : clV.slots.size = 2 := own_two szV lenV
  have at_V := IntBox.arrayAt_of Ar_V.1 Ar_V.2.1 Ar_V.2.2
  have V_0 : clV.slots[0]? = some (.ref w_SHA_256) := (elem_f ev_V (Term.int_eval (0)) at_V (by decide)).symm.trans (own_eqref (and_e (and_e (and_e (and_e (and_e hn).2).2).2).2).1 ev_SHA_256)
  have V_1 : clV.slots[1]? = some (.ref w_MD5) := (elem_f ev_V (Term.int_eval (1)) at_V (by decide)).symm.trans (own_eqref (and_e (and_e (and_e (and_e (and_e (and_e (and_e hn).2).2).2).2).2).2).1 ev_MD5)
  have hCH : CHv s consts_1 s.vm s.heap := CHv.start (own_EL hw) hcalls.1 (show Jvm.Lit.compactW.before _ s = true from (hsets _ (List.mem_of_getElem? (i := 2) rfl))) (hw _ (List.mem_of_getElem? (i := 26) rfl)) (hw _ (List.mem_of_getElem? (i := 9) rfl))
  obtain ⟨n, o, h1, h2, h3, _, L, rfl, ⟨rfl, N⟩, -, hq⟩ := rm0 l s _ hw tables_1 i0 i1 i2 i3 i4 w_SHA_256 w_MD5 x_SHA_256 x_MD5 w_V clV zCS s.heap s.heap.size (Nat.le_refl _) S_V Ar_V E_V Ft_V L_V V_0 V_1 M_SHA_256 M_MD5 X_SHA_256 X_MD5 S_CS hCS E_SHA_256 E_MD5 S_SHA_256 S_MD5 p e ha hc hk s m _ below hf ((Spec.applies_iff_loose hf).mp happ).1 ⟨rfl, State.Warmed39.refl s, rfl, hCH⟩ trivial
  refine ⟨n, _, h1, h2, h3, hpost _ _ _ _ _ _ ⟨Cond.after_iff.mpr rfl, Cond.after_iff.mpr (eq_i res_at (Term.int_eval (1)) rfl), trivial⟩ ⟨hq.1, hq.2.1, hq.2.2.1, (hq.2.2.2.sift fun y hy => Or.inr (N y hy)).mono (by decide) (by decide)⟩⟩
theorem main_1_1 : Claimed_1_1 := comes_1 fun _ _ _ _ _ _ h hF => ⟨h.1, hF⟩
theorem main_1_2 : Claimed_1_2 := comes_1 fun _ _ _ _ _ _ h hF => ⟨h.2.1, hF⟩
end Jvm.Pilot.@@N@@
namespace Jvm.Pilot.@@N@@
open Jvm Jvm.ClassFile Sem Op Lib Jvm.Free Jvm.Stand Jvm.Pilot.@@N@@.Jvm.D
/-! MADE BY PROGRAM (witnessworld.py) out of the Statement's table words and the real class files: 22 classes; the members and pool entries that the words name. The judged class is class 1, her method 3. -/
namespace start1
open Jvm.ClassFile
def u (s : String) : CpInfo := .utf8 (stringToUtf16 s)
/-- a pool by its gaps: so many unusable entries, then the entry; so many at the end -/
def gap : Nat → List CpInfo → List CpInfo
  | 0, r => r
  | n + 1, r => .unusable :: gap n r
def poolList (es : List (Nat × CpInfo)) (last : Nat) : List CpInfo := es.foldr (fun e r => gap e.1 (e.2 :: r)) (gap last [])
def pool (es : List (Nat × CpInfo)) (last : Nat) : Array CpInfo := ⟨poolList es last⟩
def fileOf (pool : Array CpInfo) (this : Nat) (attrs : Array Attribute := #[]) (ms : Array MethodInfo := #[]) (fl : Nat := 33) (sup : Nat := 0) (ifs : Array Nat := #[]) (fds : Array FieldInfo := #[]) : ClassFile where
  minorVersion := 0
  majorVersion := 65
  constantPool := pool
  accessFlags := fl
  thisClass := this
  superClass := sup
  interfaces := ifs
  fields := fds
  methods := ms
  attributes := attrs
def plain (name : String) (sup : Option ClassId) : Class where
  name := name
  kind := .ordinary
  loader := none
  accessFlags := 33
  super := sup
  interfaces := #[]
  cf := none
  fields := #[]
  methods := #[]
  instanceTypes := #[]
  staticTypes := #[]
  resolved := #[]
  callSites := []
  init := .initialized
  statics := none
  mirror := none

def pool0 : Array CpInfo := pool [(5, u "<init>"), (0, u "()V"), (1, .class_ 10), (1, u "java/lang/Object"), (85, u "clone"), (0, u "()Ljava/lang/Object;")] 26

def k0c0 : Code := { maxStack := 0, maxLocals := 1, code := object_method_1_code, exceptionTable := #[], attributes := #[] }
def k0m0 : Method := { name := "<init>", desc := "()V", sig := { parameters := [], returnType := none }, accessFlags := 1, code := some k0c0 }
def k0m1 : Method := { name := "clone", desc := "()Ljava/lang/Object;", sig := { parameters := [], returnType := some (.object "java/lang/Object") }, accessFlags := 260, code := none }
/-- java/lang/Object -/
def k0 : Class := { plain "java/lang/Object" none with
  accessFlags := 33
  interfaces := #[]
  cf := some (fileOf pool0 8 #[] #[{ accessFlags := 1, nameIndex := 5, descriptorIndex := 6, attributes := #[] }, { accessFlags := 260, nameIndex := 96, descriptorIndex := 97, attributes := #[] }] 33 0 #[] #[])
  fields := #[]
  methods := #[k0m0, k0m1]
  instanceTypes := #[]
  staticTypes := #[]
  resolved := Array.replicate 124 none
  statics := none }

def pool1 : Array CpInfo := pool [(2, .class_ 4), (1, u "java/lang/Object"), (0, u "<init>"), (0, u "()V"), (0, .class_ 8), (0, u "java/lang/String"), (0, .methodref 7 10), (0, .nameAndType 5 11), (0, u "([C)V"), (0, .methodref 13 14), (0, .class_ 15), (0, .nameAndType 16 17), (0, u "com/example/lading/lading/packaging/ChecksumAlgorithmNamedPinLaw"), (0, u "b"), (0, u "(II)C"), (0, .integer 2147483647), (0, .methodref 13 20), (0, .nameAndType 21 22), (0, u "str"), (0, u "([CI)Ljava/lang/String;"), (0, .string 24), (0, u "SHA-256"), (0, .methodref 7 26), (0, .nameAndType 27 28), (0, u "equals"), (0, u "(Ljava/lang/Object;)Z"), (0, .fieldref 30 31), (0, .class_ 32), (0, .nameAndType 33 34), (0, u "com/example/lading/lading/packaging/ChecksumAlgorithm"), (0, u "SHA_256"), (0, u "Lcom/example/lading/lading/packaging/ChecksumAlgorithm;"), (0, .string 36), (0, u "MD5"), (0, .fieldref 30 38), (0, .nameAndType 36 34), (0, .methodref 30 40), (0, .nameAndType 41 42), (0, u "named"), (0, u "(Ljava/lang/String;)Lcom/example/lading/lading/packaging/ChecksumAlgorithm;"), (0, .methodref 30 44), (0, .nameAndType 45 46), (0, u "manifestName"), (0, u "()Ljava/lang/String;"), (3, u "law"), (0, u "(IIIII)Z")] 4

def k1m0 : Method := { name := "<init>", desc := "()V", sig := { parameters := [], returnType := none }, accessFlags := 2, code := none }
def k1c1 : Code := { maxStack := 3, maxLocals := 2, code := method_2_code, exceptionTable := #[], attributes := #[] }
def k1m1 : Method := { name := "b", desc := "(II)C", sig := { parameters := [.int, .int], returnType := some .char }, accessFlags := 10, code := some k1c1 }
def k1c2 : Code := { maxStack := 7, maxLocals := 2, code := method_3_code, exceptionTable := #[], attributes := #[] }
def k1m2 : Method := { name := "str", desc := "([CI)Ljava/lang/String;", sig := { parameters := [(.array .char), .int], returnType := some (.object "java/lang/String") }, accessFlags := 10, code := some k1c2 }
def k1c3 : Code := { maxStack := 4, maxLocals := 12, code := code, exceptionTable := #[], attributes := #[] }
def k1m3 : Method := { name := "law", desc := "(IIIII)Z", sig := { parameters := [.int, .int, .int, .int, .int], returnType := some .boolean }, accessFlags := 9, code := some k1c3 }
/-- com/example/lading/lading/packaging/ChecksumAlgorithmNamedPinLaw -/
def k1 : Class := { plain "com/example/lading/lading/packaging/ChecksumAlgorithmNamedPinLaw" (some 0) with
  accessFlags := 49
  interfaces := #[]
  cf := some (fileOf pool1 13 #[] #[{ accessFlags := 2, nameIndex := 5, descriptorIndex := 6, attributes := #[] }, { accessFlags := 10, nameIndex := 16, descriptorIndex := 17, attributes := #[] }, { accessFlags := 10, nameIndex := 21, descriptorIndex := 22, attributes := #[] }, { accessFlags := 9, nameIndex := 50, descriptorIndex := 51, attributes := #[] }] 49 2 #[] #[])
  fields := #[]
  methods := #[k1m0, k1m1, k1m2, k1m3]
  instanceTypes := #[]
  staticTypes := #[]
  resolved := Array.replicate 56 none
  statics := none }

def pool2 : Array CpInfo := pool [(1, .class_ 2), (0, u "java/io/Serializable"), (0, .class_ 4), (0, u "java/lang/Object")] 2

/-- java/io/Serializable -/
def k2 : Class := { plain "java/io/Serializable" (some 0) with
  accessFlags := 1537
  interfaces := #[]
  cf := some (fileOf pool2 1 #[] #[] 1537 3 #[] #[])
  fields := #[]
  methods := #[]
  instanceTypes := #[]
  staticTypes := #[]
  resolved := Array.replicate 7 none
  statics := none }

def pool3 : Array CpInfo := pool [(1, .class_ 2), (0, u "java/lang/Comparable"), (0, .class_ 4), (0, u "java/lang/Object")] 7

/-- java/lang/Comparable -/
def k3 : Class := { plain "java/lang/Comparable" (some 0) with
  accessFlags := 1537
  interfaces := #[]
  cf := some (fileOf pool3 1 #[] #[] 1537 3 #[] #[])
  fields := #[]
  methods := #[]
  instanceTypes := #[]
  staticTypes := #[]
  resolved := Array.replicate 12 none
  statics := none }

def pool4 : Array CpInfo := pool [(2, .class_ 4), (1, u "java/lang/CharSequence"), (42, .class_ 48), (0, u "java/lang/CharSequence$1CodePointIterator"), (10, .class_ 60), (0, u "java/lang/CharSequence$1CharIterator"), (5, .class_ 67), (0, u "java/lang/Object")] 63

/-- java/lang/CharSequence -/
def k4 : Class := { plain "java/lang/CharSequence" (some 0) with
  accessFlags := 1537
  interfaces := #[]
  cf := some (fileOf pool4 2 #[.nestMembers #[47, 59]] #[] 1537 66 #[] #[])
  fields := #[]
  methods := #[]
  instanceTypes := #[]
  staticTypes := #[]
  resolved := Array.replicate 131 none
  statics := none }

def pool5 : Array CpInfo := pool [(1, .class_ 2), (0, u "java/lang/constant/Constable"), (0, .class_ 4), (0, u "java/lang/Object")] 6

/-- java/lang/constant/Constable -/
def k5 : Class := { plain "java/lang/constant/Constable" (some 0) with
  accessFlags := 1537
  interfaces := #[]
  cf := some (fileOf pool5 1 #[] #[] 1537 3 #[] #[])
  fields := #[]
  methods := #[]
  instanceTypes := #[]
  staticTypes := #[]
  resolved := Array.replicate 11 none
  statics := none }

def pool6 : Array CpInfo := pool [(1, .class_ 2), (0, u "java/lang/constant/ConstantDesc"), (0, .class_ 4), (0, u "java/lang/Object")] 32

/-- java/lang/constant/ConstantDesc -/
def k6 : Class := { plain "java/lang/constant/ConstantDesc" (some 0) with
  accessFlags := 1537
  interfaces := #[]
  cf := some (fileOf pool6 1 #[] #[] 1537 3 #[] #[])
  fields := #[]
  methods := #[]
  instanceTypes := #[]
  staticTypes := #[]
  resolved := Array.replicate 37 none
  statics := none }

def pool7 : Array CpInfo := pool [(1, .methodref 2 3), (0, .class_ 4), (0, .nameAndType 5 6), (0, u "java/lang/Object"), (0, u "<init>"), (0, u "()V"), (0, .string 8), (0, u ""), (0, .fieldref 10 11), (0, .class_ 12), (0, .nameAndType 13 14), (0, u "java/lang/String"), (0, u "value"), (0, u "[B"), (0, .fieldref 10 16), (0, .nameAndType 17 18), (0, u "coder"), (0, u "B"), (2, u "hash"), (0, u "I"), (2, u "hashIsZero"), (0, u "Z"), (0, .methodref 10 28), (0, .nameAndType 5 29), (0, u "([CIILjava/lang/Void;)V"), (8, .fieldref 10 39), (0, .nameAndType 40 26), (0, u "COMPACT_STRINGS"), (1, .class_ 44), (1, u "java/lang/StringUTF16"), (0, u "compress"), (1, .methodref 42 48), (0, .nameAndType 49 50), (0, u "coderFromArrayLen"), (0, u "([BI)B"), (56, .class_ 109), (1, u "java/lang/StringLatin1"), (67, .methodref 42 178), (0, .nameAndType 45 179), (0, u "([CII)[B"), (361, .methodref 107 542), (0, .nameAndType 543 544), (0, u "equals"), (0, u "([B[B)Z"), (28, u "(Ljava/lang/Object;)Z"), (1, .class_ 576), (0, u "java/lang/CharSequence"), (22, u "CASE_INSENSITIVE_ORDER"), (0, u "Ljava/util/Comparator;"), (409, u "([C)V"), (90, u "serialPersistentFields"), (0, u "[Ljava/io/ObjectStreamField;"), (0, .class_ 1104), (0, u "java/lang/String$CaseInsensitiveComparator"), (1, .class_ 1107), (0, u "java/io/Serializable"), (0, .class_ 1109), (0, u "java/lang/Comparable"), (0, .class_ 1111), (0, u "java/lang/constant/Constable"), (0, .class_ 1113), (0, u "java/lang/constant/ConstantDesc"), (2, u "serialVersionUID"), (0, u "J"), (3, u "REPL"), (0, u "C"), (2, u "LATIN1"), (1, u "UTF16")] 323

def k7m0 : Method := { name := "<init>", desc := "()V", sig := { parameters := [], returnType := none }, accessFlags := 1, code := none }
def k7c1 : Code := { maxStack := 5, maxLocals := 2, code := jdk_42_method_3_code, exceptionTable := #[], attributes := #[] }
def k7m1 : Method := { name := "<init>", desc := "([C)V", sig := { parameters := [(.array .char)], returnType := none }, accessFlags := 1, code := some k7c1 }
def k7c2 : Code := { maxStack := 2, maxLocals := 3, code := jdk_42_method_66_code, exceptionTable := #[], attributes := #[] }
def k7m2 : Method := { name := "equals", desc := "(Ljava/lang/Object;)Z", sig := { parameters := [(.object "java/lang/Object")], returnType := some .boolean }, accessFlags := 1, code := some k7c2 }
def k7c3 : Code := { maxStack := 4, maxLocals := 6, code := jdk_42_method_149_code, exceptionTable := #[], attributes := #[] }
def k7m3 : Method := { name := "<init>", desc := "([CIILjava/lang/Void;)V", sig := { parameters := [(.array .char), .int, .int, (.object "java/lang/Void")], returnType := none }, accessFlags := 2, code := some k7c3 }
/-- java/lang/String -/
def k7 : Class := { plain "java/lang/String" (some 0) with
  accessFlags := 49
  interfaces := #[2, 3, 4, 5, 6]
  cf := some (fileOf pool7 10 #[.nestMembers #[1103]] #[{ accessFlags := 1, nameIndex := 5, descriptorIndex := 6, attributes := #[] }, { accessFlags := 1, nameIndex := 5, descriptorIndex := 1010, attributes := #[] }, { accessFlags := 1, nameIndex := 543, descriptorIndex := 573, attributes := #[] }, { accessFlags := 2, nameIndex := 5, descriptorIndex := 29, attributes := #[] }] 49 2 #[1106, 1108, 575, 1110, 1112] #[{ accessFlags := 18, nameIndex := 13, descriptorIndex := 14, attributes := #[] }, { accessFlags := 18, nameIndex := 17, descriptorIndex := 18, attributes := #[] }, { accessFlags := 2, nameIndex := 21, descriptorIndex := 22, attributes := #[] }, { accessFlags := 2, nameIndex := 25, descriptorIndex := 26, attributes := #[] }, { accessFlags := 26, nameIndex := 1116, descriptorIndex := 1117, attributes := #[] }, { accessFlags := 24, nameIndex := 40, descriptorIndex := 26, attributes := #[] }, { accessFlags := 26, nameIndex := 1101, descriptorIndex := 1102, attributes := #[] }, { accessFlags := 26, nameIndex := 1121, descriptorIndex := 1122, attributes := #[] }, { accessFlags := 25, nameIndex := 599, descriptorIndex := 600, attributes := #[] }, { accessFlags := 24, nameIndex := 1125, descriptorIndex := 18, attributes := #[] }, { accessFlags := 24, nameIndex := 1127, descriptorIndex := 18, attributes := #[] }])
  fields := #[{ name := "value", type := (.array .byte), accessFlags := 18, slot := 0, constantValue := 0 }, { name := "coder", type := .byte, accessFlags := 18, slot := 1, constantValue := 0 }, { name := "hash", type := .int, accessFlags := 2, slot := 2, constantValue := 0 }, { name := "hashIsZero", type := .boolean, accessFlags := 2, slot := 3, constantValue := 0 }, { name := "serialVersionUID", type := .long, accessFlags := 26, slot := 0, constantValue := 0 }, { name := "COMPACT_STRINGS", type := .boolean, accessFlags := 24, slot := 1, constantValue := 0 }, { name := "serialPersistentFields", type := (.array (.object "java/io/ObjectStreamField")), accessFlags := 26, slot := 2, constantValue := 0 }, { name := "REPL", type := .char, accessFlags := 26, slot := 3, constantValue := 0 }, { name := "CASE_INSENSITIVE_ORDER", type := (.object "java/util/Comparator"), accessFlags := 25, slot := 4, constantValue := 0 }, { name := "LATIN1", type := .byte, accessFlags := 24, slot := 5, constantValue := 0 }, { name := "UTF16", type := .byte, accessFlags := 24, slot := 6, constantValue := 0 }]
  methods := #[k7m0, k7m1, k7m2, k7m3]
  instanceTypes := #[(.array .byte), .byte, .int, .boolean]
  staticTypes := #[.long, .boolean, (.array (.object "java/io/ObjectStreamField")), .char, (.object "java/util/Comparator"), .byte, .byte]
  resolved := Array.replicate 1451 none
  statics := some 0 }

def pool8 : Array CpInfo := pool [(6, .class_ 8), (1, u "java/lang/Object"), (0, u "<init>"), (0, u "()V"), (1, .class_ 14), (1, u "java/lang/StringUTF16"), (31, u "$assertionsDisabled"), (0, u "Z"), (13, u "HI_BYTE_SHIFT"), (0, u "I"), (2, u "LO_BYTE_SHIFT"), (49, .methodref 12 116), (0, .nameAndType 117 118), (0, u "compress"), (0, u "([CI[BII)I"), (3, u "([CII)[B"), (138, u "coderFromArrayLen"), (0, u "([BI)B"), (106, .class_ 371), (1, u "java/lang/StringUTF16$LinesSpliterator"), (58, u "MAX_LENGTH"), (196, .class_ 628), (0, u "java/lang/StringUTF16$CodePointsSpliterator"), (0, .class_ 630), (0, u "java/lang/StringUTF16$CharsSpliterator")] 4

def k8m0 : Method := { name := "<init>", desc := "()V", sig := { parameters := [], returnType := none }, accessFlags := 0, code := none }
def k8c1 : Code := { maxStack := 2, maxLocals := 2, code := jdk_52_method_15_code, exceptionTable := #[], attributes := #[] }
def k8m1 : Method := { name := "coderFromArrayLen", desc := "([BI)B", sig := { parameters := [(.array .byte), .int], returnType := some .byte }, accessFlags := 8, code := some k8c1 }
def k8c2 : Code := { maxStack := 5, maxLocals := 6, code := jdk_52_method_16_code, exceptionTable := #[], attributes := #[] }
def k8m2 : Method := { name := "compress", desc := "([CII)[B", sig := { parameters := [(.array .char), .int, .int], returnType := some (.array .byte) }, accessFlags := 9, code := some k8c2 }
def k8c3 : Code := { maxStack := 3, maxLocals := 7, code := jdk_52_method_21_code, exceptionTable := #[], attributes := #[] }
def k8m3 : Method := { name := "compress", desc := "([CI[BII)I", sig := { parameters := [(.array .char), .int, (.array .byte), .int, .int], returnType := some .int }, accessFlags := 9, code := some k8c3 }
/-- java/lang/StringUTF16 -/
def k8 : Class := { plain "java/lang/StringUTF16" (some 0) with
  accessFlags := 48
  interfaces := #[]
  cf := some (fileOf pool8 12 #[.nestMembers #[627, 629, 369]] #[{ accessFlags := 0, nameIndex := 9, descriptorIndex := 10, attributes := #[] }, { accessFlags := 8, nameIndex := 261, descriptorIndex := 262, attributes := #[] }, { accessFlags := 9, nameIndex := 117, descriptorIndex := 122, attributes := #[] }, { accessFlags := 9, nameIndex := 117, descriptorIndex := 118, attributes := #[] }] 48 6 #[] #[{ accessFlags := 26, nameIndex := 61, descriptorIndex := 62, attributes := #[] }, { accessFlags := 26, nameIndex := 65, descriptorIndex := 62, attributes := #[] }, { accessFlags := 24, nameIndex := 430, descriptorIndex := 62, attributes := #[] }, { accessFlags := 4120, nameIndex := 46, descriptorIndex := 47, attributes := #[] }])
  fields := #[{ name := "HI_BYTE_SHIFT", type := .int, accessFlags := 26, slot := 0, constantValue := 0 }, { name := "LO_BYTE_SHIFT", type := .int, accessFlags := 26, slot := 1, constantValue := 0 }, { name := "MAX_LENGTH", type := .int, accessFlags := 24, slot := 2, constantValue := 0 }, { name := "$assertionsDisabled", type := .boolean, accessFlags := 4120, slot := 3, constantValue := 0 }]
  methods := #[k8m0, k8m1, k8m2, k8m3]
  instanceTypes := #[]
  staticTypes := #[.int, .int, .int, .boolean]
  resolved := Array.replicate 635 none
  statics := none }

def pool9 : Array CpInfo := pool [(4, .class_ 6), (1, u "java/lang/Object"), (0, u "<init>"), (0, u "()V"), (5, .class_ 16), (1, u "java/lang/StringLatin1"), (104, u "$assertionsDisabled"), (0, u "Z"), (98, .class_ 223), (1, u "java/lang/StringLatin1$LinesSpliterator"), (57, u "equals"), (0, u "([B[B)Z"), (107, .class_ 391), (0, u "java/lang/StringLatin1$CharsSpliterator")] 3

def k9m0 : Method := { name := "<init>", desc := "()V", sig := { parameters := [], returnType := none }, accessFlags := 0, code := none }
def k9c1 : Code := { maxStack := 3, maxLocals := 3, code := jdk_43_method_13_code, exceptionTable := #[], attributes := #[] }
def k9m1 : Method := { name := "equals", desc := "([B[B)Z", sig := { parameters := [(.array .byte), (.array .byte)], returnType := some .boolean }, accessFlags := 9, code := some k9c1 }
/-- java/lang/StringLatin1 -/
def k9 : Class := { plain "java/lang/StringLatin1" (some 0) with
  accessFlags := 48
  interfaces := #[]
  cf := some (fileOf pool9 14 #[.nestMembers #[390, 221]] #[{ accessFlags := 0, nameIndex := 7, descriptorIndex := 8, attributes := #[] }, { accessFlags := 9, nameIndex := 281, descriptorIndex := 282, attributes := #[] }] 48 4 #[] #[{ accessFlags := 4120, nameIndex := 121, descriptorIndex := 122, attributes := #[] }])
  fields := #[{ name := "$assertionsDisabled", type := .boolean, accessFlags := 4120, slot := 0, constantValue := 0 }]
  methods := #[k9m0, k9m1]
  instanceTypes := #[]
  staticTypes := #[.boolean]
  resolved := Array.replicate 395 none
  statics := none }

def pool10 : Array CpInfo := pool [(2, .class_ 4), (1, u "java/lang/Enum"), (0, u "name"), (0, u "Ljava/lang/String;"), (2, u "ordinal"), (0, u "I"), (1, .class_ 14), (1, u "java/lang/Object"), (4, u "hash"), (86, .class_ 108), (1, u "java/lang/Enum$EnumDesc"), (2, .class_ 112), (0, u "java/lang/constant/Constable"), (0, .class_ 114), (0, u "java/lang/Comparable"), (0, .class_ 116), (0, u "java/io/Serializable")] 87

/-- java/lang/Enum -/
def k10 : Class := { plain "java/lang/Enum" (some 0) with
  accessFlags := 1057
  interfaces := #[5, 3, 2]
  cf := some (fileOf pool10 2 #[.nestMembers #[106]] #[] 1057 12 #[111, 113, 115] #[{ accessFlags := 18, nameIndex := 5, descriptorIndex := 6, attributes := #[] }, { accessFlags := 18, nameIndex := 9, descriptorIndex := 10, attributes := #[] }, { accessFlags := 2, nameIndex := 19, descriptorIndex := 10, attributes := #[] }])
  fields := #[{ name := "name", type := (.object "java/lang/String"), accessFlags := 18, slot := 0, constantValue := 0 }, { name := "ordinal", type := .int, accessFlags := 18, slot := 1, constantValue := 0 }, { name := "hash", type := .int, accessFlags := 2, slot := 2, constantValue := 0 }]
  methods := #[]
  instanceTypes := #[(.object "java/lang/String"), .int, .int]
  staticTypes := #[]
  resolved := Array.replicate 204 none
  statics := none }

def pool11 : Array CpInfo := pool [(1, .class_ 2), (0, u "com/example/lading/lading/packaging/ChecksumAlgorithm"), (2, u "SHA_256"), (0, u "Lcom/example/lading/lading/packaging/ChecksumAlgorithm;"), (2, u "MD5"), (0, .fieldref 1 11), (0, .nameAndType 12 13), (0, u "$VALUES"), (0, u "[Lcom/example/lading/lading/packaging/ChecksumAlgorithm;"), (0, .methodref 15 16), (0, .class_ 13), (0, .nameAndType 17 18), (0, u "clone"), (0, u "()Ljava/lang/Object;"), (1, .class_ 22), (1, u "java/lang/Enum"), (6, .fieldref 1 30), (0, .nameAndType 31 32), (0, u "manifestName"), (0, u "Ljava/lang/String;"), (0, .methodref 1 34), (0, .nameAndType 35 36), (0, u "values"), (0, u "()[Lcom/example/lading/lading/packaging/ChecksumAlgorithm;"), (0, .methodref 38 39), (0, .class_ 40), (0, .nameAndType 41 42), (0, u "java/lang/String"), (0, u "equals"), (0, u "(Ljava/lang/Object;)Z"), (29, u "(Ljava/lang/String;)Lcom/example/lading/lading/packaging/ChecksumAlgorithm;"), (3, u "()Ljava/lang/String;"), (0, u "named")] 23

def k11c0 : Code := { maxStack := 1, maxLocals := 0, code := prog_62_method_1_code, exceptionTable := #[], attributes := #[] }
def k11m0 : Method := { name := "values", desc := "()[Lcom/example/lading/lading/packaging/ChecksumAlgorithm;", sig := { parameters := [], returnType := some (.array (.object "com/example/lading/lading/packaging/ChecksumAlgorithm")) }, accessFlags := 9, code := some k11c0 }
def k11c1 : Code := { maxStack := 1, maxLocals := 1, code := prog_62_method_4_code, exceptionTable := #[], attributes := #[] }
def k11m1 : Method := { name := "manifestName", desc := "()Ljava/lang/String;", sig := { parameters := [], returnType := some (.object "java/lang/String") }, accessFlags := 1, code := some k11c1 }
def k11c2 : Code := { maxStack := 2, maxLocals := 6, code := prog_62_method_5_code, exceptionTable := #[], attributes := #[] }
def k11m2 : Method := { name := "named", desc := "(Ljava/lang/String;)Lcom/example/lading/lading/packaging/ChecksumAlgorithm;", sig := { parameters := [(.object "java/lang/String")], returnType := some (.object "com/example/lading/lading/packaging/ChecksumAlgorithm") }, accessFlags := 9, code := some k11c2 }
/-- com/example/lading/lading/packaging/ChecksumAlgorithm -/
def k11 : Class := { plain "com/example/lading/lading/packaging/ChecksumAlgorithm" (some 10) with
  accessFlags := 16433
  interfaces := #[]
  cf := some (fileOf pool11 1 #[] #[{ accessFlags := 9, nameIndex := 35, descriptorIndex := 36, attributes := #[] }, { accessFlags := 1, nameIndex := 31, descriptorIndex := 76, attributes := #[] }, { accessFlags := 9, nameIndex := 77, descriptorIndex := 72, attributes := #[] }] 16433 20 #[] #[{ accessFlags := 16409, nameIndex := 5, descriptorIndex := 6, attributes := #[] }, { accessFlags := 16409, nameIndex := 9, descriptorIndex := 6, attributes := #[] }, { accessFlags := 18, nameIndex := 31, descriptorIndex := 32, attributes := #[] }, { accessFlags := 4122, nameIndex := 12, descriptorIndex := 13, attributes := #[] }])
  fields := #[{ name := "SHA_256", type := (.object "com/example/lading/lading/packaging/ChecksumAlgorithm"), accessFlags := 16409, slot := 0, constantValue := 0 }, { name := "MD5", type := (.object "com/example/lading/lading/packaging/ChecksumAlgorithm"), accessFlags := 16409, slot := 1, constantValue := 0 }, { name := "manifestName", type := (.object "java/lang/String"), accessFlags := 18, slot := 3, constantValue := 0 }, { name := "$VALUES", type := (.array (.object "com/example/lading/lading/packaging/ChecksumAlgorithm")), accessFlags := 4122, slot := 2, constantValue := 0 }]
  methods := #[k11m0, k11m1, k11m2]
  instanceTypes := #[(.object "java/lang/String"), .int, .int, (.object "java/lang/String")]
  staticTypes := #[(.object "com/example/lading/lading/packaging/ChecksumAlgorithm"), (.object "com/example/lading/lading/packaging/ChecksumAlgorithm"), (.array (.object "com/example/lading/lading/packaging/ChecksumAlgorithm"))]
  resolved := Array.replicate 101 none
  statics := some 1 }

def pool12 : Array CpInfo := pool [(1, .class_ 2), (0, u "java/lang/Cloneable"), (0, .class_ 4), (0, u "java/lang/Object")] 2

/-- java/lang/Cloneable -/
def k12 : Class := { plain "java/lang/Cloneable" (some 0) with
  accessFlags := 1537
  interfaces := #[]
  cf := some (fileOf pool12 1 #[] #[] 1537 3 #[] #[])
  fields := #[]
  methods := #[]
  instanceTypes := #[]
  staticTypes := #[]
  resolved := Array.replicate 7 none
  statics := none }

def pool13 : Array CpInfo := pool [(2, .class_ 4), (1, u "java/lang/Object"), (0, u "<init>"), (0, u "()V"), (17, .class_ 26), (1, u "jdk/internal/util/Preconditions"), (28, .class_ 56), (0, u "jdk/internal/util/Preconditions$4"), (57, .class_ 115), (0, u "jdk/internal/util/Preconditions$1"), (7, u "SIOOBE_FORMATTER"), (0, u "Ljava/util/function/BiFunction;"), (0, .class_ 126), (0, u "jdk/internal/util/Preconditions$2"), (3, u "AIOOBE_FORMATTER"), (0, .class_ 132), (0, u "jdk/internal/util/Preconditions$3"), (3, u "IOOBE_FORMATTER")] 57

def k13m0 : Method := { name := "<init>", desc := "()V", sig := { parameters := [], returnType := none }, accessFlags := 1, code := none }
/-- jdk/internal/util/Preconditions -/
def k13 : Class := { plain "jdk/internal/util/Preconditions" (some 0) with
  accessFlags := 33
  interfaces := #[]
  cf := some (fileOf pool13 24 #[.nestMembers #[55, 131, 125, 114]] #[{ accessFlags := 1, nameIndex := 5, descriptorIndex := 6, attributes := #[] }] 33 2 #[] #[{ accessFlags := 25, nameIndex := 123, descriptorIndex := 124, attributes := #[] }, { accessFlags := 25, nameIndex := 130, descriptorIndex := 124, attributes := #[] }, { accessFlags := 25, nameIndex := 136, descriptorIndex := 124, attributes := #[] }])
  fields := #[{ name := "SIOOBE_FORMATTER", type := (.object "java/util/function/BiFunction"), accessFlags := 25, slot := 0, constantValue := 0 }, { name := "AIOOBE_FORMATTER", type := (.object "java/util/function/BiFunction"), accessFlags := 25, slot := 1, constantValue := 0 }, { name := "IOOBE_FORMATTER", type := (.object "java/util/function/BiFunction"), accessFlags := 25, slot := 2, constantValue := 0 }]
  methods := #[k13m0]
  instanceTypes := #[]
  staticTypes := #[(.object "java/util/function/BiFunction"), (.object "java/util/function/BiFunction"), (.object "java/util/function/BiFunction")]
  resolved := Array.replicate 194 none
  statics := some 2 }

def pool14 : Array CpInfo := pool [(9, u "<init>"), (6, .class_ 18), (1, u "java/lang/Object"), (0, u "()V"), (1, .class_ 23), (1, u "jdk/internal/util/ArraysSupport"), (0, u "LOG2_ARRAY_LONG_INDEX_SCALE"), (0, u "I"), (2, u "U"), (0, u "Ljdk/internal/misc/Unsafe;"), (8, u "BIG_ENDIAN"), (0, u "Z"), (8, u "LOG2_BYTE_BIT_SIZE"), (4, u "LOG2_ARRAY_INT_INDEX_SCALE"), (54, u "JLA"), (0, u "Ljdk/internal/access/JavaLangAccess;"), (11, u "LOG2_ARRAY_BOOLEAN_INDEX_SCALE"), (9, u "LOG2_ARRAY_BYTE_INDEX_SCALE"), (5, u "LOG2_ARRAY_CHAR_INDEX_SCALE"), (5, u "LOG2_ARRAY_SHORT_INDEX_SCALE"), (18, u "LOG2_ARRAY_FLOAT_INDEX_SCALE"), (24, u "LOG2_ARRAY_DOUBLE_INDEX_SCALE"), (89, u "T_BOOLEAN"), (2, u "T_CHAR"), (1, u "T_FLOAT"), (1, u "T_DOUBLE"), (1, u "T_BYTE"), (1, u "T_SHORT"), (1, u "T_INT"), (1, u "T_LONG"), (1, u "SOFT_MAX_ARRAY_LENGTH")] 83

def k14m0 : Method := { name := "<init>", desc := "()V", sig := { parameters := [], returnType := none }, accessFlags := 2, code := none }
/-- jdk/internal/util/ArraysSupport -/
def k14 : Class := { plain "jdk/internal/util/ArraysSupport" (some 0) with
  accessFlags := 33
  interfaces := #[]
  cf := some (fileOf pool14 21 #[] #[{ accessFlags := 2, nameIndex := 9, descriptorIndex := 19, attributes := #[] }] 33 16 #[] #[{ accessFlags := 24, nameIndex := 28, descriptorIndex := 29, attributes := #[] }, { accessFlags := 26, nameIndex := 38, descriptorIndex := 39, attributes := #[] }, { accessFlags := 25, nameIndex := 121, descriptorIndex := 25, attributes := #[] }, { accessFlags := 25, nameIndex := 131, descriptorIndex := 25, attributes := #[] }, { accessFlags := 25, nameIndex := 137, descriptorIndex := 25, attributes := #[] }, { accessFlags := 25, nameIndex := 143, descriptorIndex := 25, attributes := #[] }, { accessFlags := 25, nameIndex := 53, descriptorIndex := 25, attributes := #[] }, { accessFlags := 25, nameIndex := 24, descriptorIndex := 25, attributes := #[] }, { accessFlags := 25, nameIndex := 162, descriptorIndex := 25, attributes := #[] }, { accessFlags := 25, nameIndex := 187, descriptorIndex := 25, attributes := #[] }, { accessFlags := 26, nameIndex := 48, descriptorIndex := 25, attributes := #[] }, { accessFlags := 25, nameIndex := 277, descriptorIndex := 25, attributes := #[] }, { accessFlags := 25, nameIndex := 280, descriptorIndex := 25, attributes := #[] }, { accessFlags := 25, nameIndex := 282, descriptorIndex := 25, attributes := #[] }, { accessFlags := 25, nameIndex := 284, descriptorIndex := 25, attributes := #[] }, { accessFlags := 25, nameIndex := 286, descriptorIndex := 25, attributes := #[] }, { accessFlags := 25, nameIndex := 288, descriptorIndex := 25, attributes := #[] }, { accessFlags := 25, nameIndex := 290, descriptorIndex := 25, attributes := #[] }, { accessFlags := 25, nameIndex := 292, descriptorIndex := 25, attributes := #[] }, { accessFlags := 26, nameIndex := 108, descriptorIndex := 109, attributes := #[] }, { accessFlags := 25, nameIndex := 294, descriptorIndex := 25, attributes := #[] }])
  fields := #[{ name := "U", type := (.object "jdk/internal/misc/Unsafe"), accessFlags := 24, slot := 0, constantValue := 0 }, { name := "BIG_ENDIAN", type := .boolean, accessFlags := 26, slot := 1, constantValue := 0 }, { name := "LOG2_ARRAY_BOOLEAN_INDEX_SCALE", type := .int, accessFlags := 25, slot := 2, constantValue := 0 }, { name := "LOG2_ARRAY_BYTE_INDEX_SCALE", type := .int, accessFlags := 25, slot := 3, constantValue := 0 }, { name := "LOG2_ARRAY_CHAR_INDEX_SCALE", type := .int, accessFlags := 25, slot := 4, constantValue := 0 }, { name := "LOG2_ARRAY_SHORT_INDEX_SCALE", type := .int, accessFlags := 25, slot := 5, constantValue := 0 }, { name := "LOG2_ARRAY_INT_INDEX_SCALE", type := .int, accessFlags := 25, slot := 6, constantValue := 0 }, { name := "LOG2_ARRAY_LONG_INDEX_SCALE", type := .int, accessFlags := 25, slot := 7, constantValue := 0 }, { name := "LOG2_ARRAY_FLOAT_INDEX_SCALE", type := .int, accessFlags := 25, slot := 8, constantValue := 0 }, { name := "LOG2_ARRAY_DOUBLE_INDEX_SCALE", type := .int, accessFlags := 25, slot := 9, constantValue := 0 }, { name := "LOG2_BYTE_BIT_SIZE", type := .int, accessFlags := 26, slot := 10, constantValue := 0 }, { name := "T_BOOLEAN", type := .int, accessFlags := 25, slot := 11, constantValue := 0 }, { name := "T_CHAR", type := .int, accessFlags := 25, slot := 12, constantValue := 0 }, { name := "T_FLOAT", type := .int, accessFlags := 25, slot := 13, constantValue := 0 }, { name := "T_DOUBLE", type := .int, accessFlags := 25, slot := 14, constantValue := 0 }, { name := "T_BYTE", type := .int, accessFlags := 25, slot := 15, constantValue := 0 }, { name := "T_SHORT", type := .int, accessFlags := 25, slot := 16, constantValue := 0 }, { name := "T_INT", type := .int, accessFlags := 25, slot := 17, constantValue := 0 }, { name := "T_LONG", type := .int, accessFlags := 25, slot := 18, constantValue := 0 }, { name := "JLA", type := (.object "jdk/internal/access/JavaLangAccess"), accessFlags := 26, slot := 19, constantValue := 0 }, { name := "SOFT_MAX_ARRAY_LENGTH", type := .int, accessFlags := 25, slot := 20, constantValue := 0 }]
  methods := #[k14m0]
  instanceTypes := #[]
  staticTypes := #[(.object "jdk/internal/misc/Unsafe"), .boolean, .int, .int, .int, .int, .int, .int, .int, .int, .int, .int, .int, .int, .int, .int, .int, .int, .int, (.object "jdk/internal/access/JavaLangAccess"), .int]
  resolved := Array.replicate 378 none
  statics := none }

/-- the primitive byte -/
def k15 : Class := { plain "byte" none with kind := .primitive 'B', accessFlags := 0x411 }
/-- [B -/
def k16 : Class := { plain "[B" (some 0) with kind := .array 15 .byte, interfaces := #[12, 2], accessFlags := 1041 }

/-- the primitive char -/
def k17 : Class := { plain "char" none with kind := .primitive 'C', accessFlags := 0x411 }
/-- [C -/
def k18 : Class := { plain "[C" (some 0) with kind := .array 17 .char, interfaces := #[12, 2], accessFlags := 1041 }

/-- the primitive int -/
def k19 : Class := { plain "int" none with kind := .primitive 'I', accessFlags := 0x411 }
/-- [I -/
def k20 : Class := { plain "[I" (some 0) with kind := .array 19 .int, interfaces := #[12, 2], accessFlags := 1041 }

/-- [Lcom/example/lading/lading/packaging/ChecksumAlgorithm; -/
def k21 : Class := { plain "[Lcom/example/lading/lading/packaging/ChecksumAlgorithm;" (some 0) with kind := .array 11 (.object "com/example/lading/lading/packaging/ChecksumAlgorithm"), interfaces := #[12, 2], accessFlags := 1041 }

def heap : Heap := #[{ cls := 7, slots := #[.long 0, .int 1, .null, .int 0, .null, .int 0, .int 0], vm := .statics 7 },
  { cls := 11, slots := #[.ref 4, .ref 5, .ref 3], vm := .statics 11 },
  { cls := 13, slots := #[.null, .null, .null], vm := .statics 13 },
  { cls := 21, slots := #[.ref 4, .ref 5], vm := .none },
  { cls := 11, slots := #[.null, .int 0, .int 0, .ref 6], vm := .none },
  { cls := 11, slots := #[.null, .int 1, .int 0, .ref 7], vm := .none },
  { cls := 7, slots := #[.ref 8, .int 0, .int 0, .int 0], vm := .none },
  { cls := 7, slots := #[.ref 9, .int 0, .int 0, .int 0], vm := .none },
  { cls := 16, slots := #[.int 83, .int 72, .int 65, .int 45, .int 50, .int 53, .int 54], vm := .none },
  { cls := 16, slots := #[.int 77, .int 68, .int 53], vm := .none }]
def classes : Array Class := #[k0, k1, k2, k3, k4, k5, k6, k7, k8, k9, k10, k11, k12, k13, k14, k15, k16, k17, k18, k19, k20, k21]
def interned : List (Array UInt16 × Addr) := []
def slotsUsed : Nat := 41
def theMethod : MethodId := ⟨1, 3⟩
def args0 : Array Value := #[.int 5, .int 7, .int 9, .int 1, .int 2]
def aboutOver (below : List Frame) : State where
  vm := { classes := classes, interned := interned.toArray }
  heap := heap
  slotsUsed := slotsUsed
  threads := #[{ frames := .invoking theMethod args0 :: below }]
def below0 : List Frame := [.native { method := ⟨0, 0⟩, args := #[] }]
def about1 : State := aboutOver below0
def p0 : Program := .bare "" "" ""
def e0 : Env := launch0.env 0 0 0
theorem w_frames : about1.frames = Frame.invoking theMethod args0 :: below0 := rfl
set_option maxRecDepth 65536 in
theorem w_args : argsFit about1.vm theMethod args0 = true := by decide +kernel
set_option maxRecDepth 65536 in
theorem w_heap : heapFits about1 = true := by decide +kernel
set_option maxRecDepth 65536 in
theorem w_runnable : about1.curStatus? = some .runnable := by decide +kernel
set_option maxRecDepth 65536 in
theorem w_alone : about1.alone = true := by decide +kernel
set_option maxRecDepth 65536 in
theorem w_named : about1.methodNamed? x = some theMethod := by decide +kernel
set_option maxRecDepth 65536 in
theorem w_hears : about1.hears theMethod below0 = true := by decide +kernel
set_option maxRecDepth 65536 in
theorem w_ripe : about1.ripe theMethod args0 below0 = true := by decide +kernel
theorem w_running : about1.status = .running := rfl
set_option maxRecDepth 65536 in
theorem w_room : about1.hasRoom e0.platform room_1 = true :=
  launch0.hasRoom_least _ room_1 (by decide +kernel) (by decide +kernel) (by decide +kernel) (by decide +kernel) (by decide +kernel) (by decide +kernel)
theorem allAtoms_all (ts : List Jvm.Cond) (a : Array Jvm.Value) (st : Jvm.State) : (allAtoms ts).before a st = ts.all (fun c => c.before a st) := by
  induction ts with
  | nil => rfl
  | cons c t ih =>
    show (Jvm.Cond.and c (allAtoms t)).before a st = _
    rw [Jvm.Cond.before_and, ih, List.all_cons]
def words1 : List Jvm.Cond := Jvm.Cond.code x code maxLocals ret :: tables_1
/-- a 'code' word, met by the world's own term for the bytes: nothing is compared byte by byte -/
theorem code_word {y : MethodName} {bytes : ByteArray} {mx : Nat} {rt : Option FieldType} {a : Array Value} {s : State} {m : MethodId} {meth : Method} {c : Code} (h1 : s.methodNamed? y = some m) (h2 : s.vm.method? m = some meth) (h3 : meth.code = some c) (h4 : c.code = bytes)
    (h5 : (c.maxLocals == mx && c.exceptionTable.isEmpty && decide (c.maxStack ≤ mostOperands) && decide (meth.sig.returnType = rt) && !meth.locks && decide (parseMethodDescriptor y.desc = some meth.sig)) = true) : (Jvm.Cond.code y bytes mx rt).before a s = true := by
  simp only [Bool.and_eq_true, beq_iff_eq, Bool.not_eq_true', decide_eq_true_eq] at h5
  obtain ⟨⟨⟨⟨⟨g1, g2⟩, g3⟩, g4⟩, g5⟩, g6⟩ := h5
  simp [Cond.before, Cond.holds, Cond.value, h1, h2, h3, h4, g1, g2, g3, g4, g5, g6]
def isCode : Jvm.Cond → Bool
  | .code _ _ _ _ => true
  | _ => false
theorem all_split {L : List Jvm.Cond} {P : Jvm.Cond → Bool} (h1 : L.all (fun c => isCode c || P c) = true) (h2 : ∀ c ∈ L.filter isCode, P c = true) : L.all P = true := by
  refine List.all_eq_true.mpr fun c hc => ?_
  have h := List.all_eq_true.mp h1 c hc
  rcases Bool.eq_false_or_eq_true (isCode c) with hi | hi
  · exact h2 c (List.mem_filter.mpr ⟨hc, hi⟩)
  · simpa [hi] using h
set_option maxRecDepth 65536 in
theorem w_c0 : (Jvm.Cond.code x code maxLocals ret).before args0 about1 = true := code_word (m := ⟨1, 3⟩) (meth := k1m3) (c := k1c3) (by decide +kernel) rfl rfl rfl (by decide +kernel)
set_option maxRecDepth 65536 in
theorem w_c1 : (Jvm.Cond.code ({ cls := "com/example/lading/lading/packaging/ChecksumAlgorithmNamedPinLaw", name := "b", desc := "(II)C" } : Jvm.MethodName) method_2_code (2 : Nat) (Option.some Jvm.ClassFile.FieldType.char)).before args0 about1 = true := code_word (m := ⟨1, 1⟩) (meth := k1m1) (c := k1c1) (by decide +kernel) rfl rfl rfl (by decide +kernel)
set_option maxRecDepth 65536 in
theorem w_c2 : (Jvm.Cond.code ({ cls := "com/example/lading/lading/packaging/ChecksumAlgorithmNamedPinLaw", name := "str", desc := "([CI)Ljava/lang/String;" } : Jvm.MethodName) method_3_code (2 : Nat) (Option.some (Jvm.ClassFile.FieldType.object "java/lang/String"))).before args0 about1 = true := code_word (m := ⟨1, 2⟩) (meth := k1m2) (c := k1c2) (by decide +kernel) rfl rfl rfl (by decide +kernel)
set_option maxRecDepth 65536 in
theorem w_c3 : (Jvm.Cond.code ({ cls := "java/lang/String", name := "<init>", desc := "([C)V" } : Jvm.MethodName) jdk_42_method_3_code (2 : Nat) (Option.none : Option Jvm.ClassFile.FieldType)).before args0 about1 = true := code_word (m := ⟨7, 1⟩) (meth := k7m1) (c := k7c1) (by decide +kernel) rfl rfl rfl (by decide +kernel)
set_option maxRecDepth 65536 in
theorem w_c4 : (Jvm.Cond.code ({ cls := "java/lang/String", name := "<init>", desc := "([CIILjava/lang/Void;)V" } : Jvm.MethodName) jdk_42_method_149_code (6 : Nat) (Option.none : Option Jvm.ClassFile.FieldType)).before args0 about1 = true := code_word (m := ⟨7, 3⟩) (meth := k7m3) (c := k7c3) (by decide +kernel) rfl rfl rfl (by decide +kernel)
set_option maxRecDepth 65536 in
theorem w_c5 : (Jvm.Cond.code ({ cls := "java/lang/Object", name := "<init>", desc := "()V" } : Jvm.MethodName) object_method_1_code (1 : Nat) (Option.none : Option Jvm.ClassFile.FieldType)).before args0 about1 = true := code_word (m := ⟨0, 0⟩) (meth := k0m0) (c := k0c0) (by decide +kernel) rfl rfl rfl (by decide +kernel)
set_option maxRecDepth 65536 in
theorem w_c6 : (Jvm.Cond.code ({ cls := "java/lang/StringUTF16", name := "compress", desc := "([CII)[B" } : Jvm.MethodName) jdk_52_method_16_code (6 : Nat) (Option.some (Jvm.ClassFile.FieldType.array Jvm.ClassFile.FieldType.byte))).before args0 about1 = true := code_word (m := ⟨8, 2⟩) (meth := k8m2) (c := k8c2) (by decide +kernel) rfl rfl rfl (by decide +kernel)
set_option maxRecDepth 65536 in
theorem w_c7 : (Jvm.Cond.code ({ cls := "java/lang/StringUTF16", name := "compress", desc := "([CI[BII)I" } : Jvm.MethodName) jdk_52_method_21_code (7 : Nat) (Option.some Jvm.ClassFile.FieldType.int)).before args0 about1 = true := code_word (m := ⟨8, 3⟩) (meth := k8m3) (c := k8c3) (by decide +kernel) rfl rfl rfl (by decide +kernel)
set_option maxRecDepth 65536 in
theorem w_c8 : (Jvm.Cond.code ({ cls := "java/lang/StringUTF16", name := "coderFromArrayLen", desc := "([BI)B" } : Jvm.MethodName) jdk_52_method_15_code (2 : Nat) (Option.some Jvm.ClassFile.FieldType.byte)).before args0 about1 = true := code_word (m := ⟨8, 1⟩) (meth := k8m1) (c := k8c1) (by decide +kernel) rfl rfl rfl (by decide +kernel)
set_option maxRecDepth 65536 in
theorem w_c9 : (Jvm.Cond.code ({ cls := "java/lang/String", name := "equals", desc := "(Ljava/lang/Object;)Z" } : Jvm.MethodName) jdk_42_method_66_code (3 : Nat) (Option.some Jvm.ClassFile.FieldType.boolean)).before args0 about1 = true := code_word (m := ⟨7, 2⟩) (meth := k7m2) (c := k7c2) (by decide +kernel) rfl rfl rfl (by decide +kernel)
set_option maxRecDepth 65536 in
theorem w_c10 : (Jvm.Cond.code ({ cls := "java/lang/StringLatin1", name := "equals", desc := "([B[B)Z" } : Jvm.MethodName) jdk_43_method_13_code (3 : Nat) (Option.some Jvm.ClassFile.FieldType.boolean)).before args0 about1 = true := code_word (m := ⟨9, 1⟩) (meth := k9m1) (c := k9c1) (by decide +kernel) rfl rfl rfl (by decide +kernel)
set_option maxRecDepth 65536 in
theorem w_c11 : (Jvm.Cond.code ({ cls := "com/example/lading/lading/packaging/ChecksumAlgorithm", name := "named", desc := "(Ljava/lang/String;)Lcom/example/lading/lading/packaging/ChecksumAlgorithm;" } : Jvm.MethodName) prog_62_method_5_code (6 : Nat) (Option.some (Jvm.ClassFile.FieldType.object "com/example/lading/lading/packaging/ChecksumAlgorithm"))).before args0 about1 = true := code_word (m := ⟨11, 2⟩) (meth := k11m2) (c := k11c2) (by decide +kernel) rfl rfl rfl (by decide +kernel)
set_option maxRecDepth 65536 in
theorem w_c12 : (Jvm.Cond.code ({ cls := "com/example/lading/lading/packaging/ChecksumAlgorithm", name := "values", desc := "()[Lcom/example/lading/lading/packaging/ChecksumAlgorithm;" } : Jvm.MethodName) prog_62_method_1_code (0 : Nat) (Option.some (Jvm.ClassFile.FieldType.array (Jvm.ClassFile.FieldType.object "com/example/lading/lading/packaging/ChecksumAlgorithm")))).before args0 about1 = true := code_word (m := ⟨11, 0⟩) (meth := k11m0) (c := k11c0) (by decide +kernel) rfl rfl rfl (by decide +kernel)
set_option maxRecDepth 65536 in
theorem w_c13 : (Jvm.Cond.code ({ cls := "com/example/lading/lading/packaging/ChecksumAlgorithm", name := "manifestName", desc := "()Ljava/lang/String;" } : Jvm.MethodName) prog_62_method_4_code (1 : Nat) (Option.some (Jvm.ClassFile.FieldType.object "java/lang/String"))).before args0 about1 = true := code_word (m := ⟨11, 1⟩) (meth := k11m1) (c := k11c1) (by decide +kernel) rfl rfl rfl (by decide +kernel)
def codes1 : List Jvm.Cond := [Jvm.Cond.code x code maxLocals ret, Jvm.Cond.code ({ cls := "com/example/lading/lading/packaging/ChecksumAlgorithmNamedPinLaw", name := "b", desc := "(II)C" } : Jvm.MethodName) method_2_code (2 : Nat) (Option.some Jvm.ClassFile.FieldType.char), Jvm.Cond.code ({ cls := "com/example/lading/lading/packaging/ChecksumAlgorithmNamedPinLaw", name := "str", desc := "([CI)Ljava/lang/String;" } : Jvm.MethodName) method_3_code (2 : Nat) (Option.some (Jvm.ClassFile.FieldType.object "java/lang/String")), Jvm.Cond.code ({ cls := "java/lang/String", name := "<init>", desc := "([C)V" } : Jvm.MethodName) jdk_42_method_3_code (2 : Nat) (Option.none : Option Jvm.ClassFile.FieldType), Jvm.Cond.code ({ cls := "java/lang/String", name := "<init>", desc := "([CIILjava/lang/Void;)V" } : Jvm.MethodName) jdk_42_method_149_code (6 : Nat) (Option.none : Option Jvm.ClassFile.FieldType), Jvm.Cond.code ({ cls := "java/lang/Object", name := "<init>", desc := "()V" } : Jvm.MethodName) object_method_1_code (1 : Nat) (Option.none : Option Jvm.ClassFile.FieldType), Jvm.Cond.code ({ cls := "java/lang/StringUTF16", name := "compress", desc := "([CII)[B" } : Jvm.MethodName) jdk_52_method_16_code (6 : Nat) (Option.some (Jvm.ClassFile.FieldType.array Jvm.ClassFile.FieldType.byte)), Jvm.Cond.code ({ cls := "java/lang/StringUTF16", name := "compress", desc := "([CI[BII)I" } : Jvm.MethodName) jdk_52_method_21_code (7 : Nat) (Option.some Jvm.ClassFile.FieldType.int), Jvm.Cond.code ({ cls := "java/lang/StringUTF16", name := "coderFromArrayLen", desc := "([BI)B" } : Jvm.MethodName) jdk_52_method_15_code (2 : Nat) (Option.some Jvm.ClassFile.FieldType.byte), Jvm.Cond.code ({ cls := "java/lang/String", name := "equals", desc := "(Ljava/lang/Object;)Z" } : Jvm.MethodName) jdk_42_method_66_code (3 : Nat) (Option.some Jvm.ClassFile.FieldType.boolean), Jvm.Cond.code ({ cls := "java/lang/StringLatin1", name := "equals", desc := "([B[B)Z" } : Jvm.MethodName) jdk_43_method_13_code (3 : Nat) (Option.some Jvm.ClassFile.FieldType.boolean), Jvm.Cond.code ({ cls := "com/example/lading/lading/packaging/ChecksumAlgorithm", name := "named", desc := "(Ljava/lang/String;)Lcom/example/lading/lading/packaging/ChecksumAlgorithm;" } : Jvm.MethodName) prog_62_method_5_code (6 : Nat) (Option.some (Jvm.ClassFile.FieldType.object "com/example/lading/lading/packaging/ChecksumAlgorithm")), Jvm.Cond.code ({ cls := "com/example/lading/lading/packaging/ChecksumAlgorithm", name := "values", desc := "()[Lcom/example/lading/lading/packaging/ChecksumAlgorithm;" } : Jvm.MethodName) prog_62_method_1_code (0 : Nat) (Option.some (Jvm.ClassFile.FieldType.array (Jvm.ClassFile.FieldType.object "com/example/lading/lading/packaging/ChecksumAlgorithm"))), Jvm.Cond.code ({ cls := "com/example/lading/lading/packaging/ChecksumAlgorithm", name := "manifestName", desc := "()Ljava/lang/String;" } : Jvm.MethodName) prog_62_method_4_code (1 : Nat) (Option.some (Jvm.ClassFile.FieldType.object "java/lang/String"))]
set_option maxRecDepth 65536 in
theorem codes_eq : words1.filter isCode = codes1 := rfl
theorem w_codes : ∀ c ∈ words1.filter isCode, c.before args0 about1 = true := by
  rw [codes_eq]
  intro c hc
  simp only [codes1, List.mem_cons, List.not_mem_nil, or_false] at hc
  rcases hc with rfl | rfl | rfl | rfl | rfl | rfl | rfl | rfl | rfl | rfl | rfl | rfl | rfl | rfl
  · exact w_c0
  · exact w_c1
  · exact w_c2
  · exact w_c3
  · exact w_c4
  · exact w_c5
  · exact w_c6
  · exact w_c7
  · exact w_c8
  · exact w_c9
  · exact w_c10
  · exact w_c11
  · exact w_c12
  · exact w_c13
set_option maxRecDepth 65536 in
theorem w_t1 : (words1.take 24).all (fun c => isCode c || c.before args0 about1) = true := by decide +kernel
set_option maxRecDepth 65536 in
theorem w_t2 : ((words1.drop 24).take 24).all (fun c => isCode c || c.before args0 about1) = true := by decide +kernel
set_option maxRecDepth 65536 in
theorem w_t3 : (((words1.drop 24).drop 24).take 24).all (fun c => isCode c || c.before args0 about1) = true := by decide +kernel
set_option maxRecDepth 65536 in
theorem w_t4 : (((words1.drop 24).drop 24).drop 24).all (fun c => isCode c || c.before args0 about1) = true := by decide +kernel
theorem w_tables : (allAtoms (Jvm.Cond.code x code maxLocals ret :: tables_1)).before args0 about1 = true := by
  rw [allAtoms_all]
  show words1.all (fun c => c.before args0 about1) = true
  refine all_split ?_ w_codes
  rw [← List.take_append_drop 24 words1, List.all_append, w_t1, ← List.take_append_drop 24 (words1.drop 24), List.all_append, w_t2, ← List.take_append_drop 24 ((words1.drop 24).drop 24), List.all_append, w_t3, w_t4]
  rfl
set_option maxRecDepth 65536 in
theorem w_rest : rest_1_c.before args0 about1 = true := by decide +kernel
set_option maxRecDepth 65536 in
theorem w_case : (Jvm.Cond.and given_1 narrow_1).before args0 about1 = true := by decide +kernel
set_option maxRecDepth 65536 in
theorem w_consts : constsHeld consts_1 about1 := Jvm.Lit.constsHeldB_iff.mp (by decide +kernel)
theorem w_applies : (headSpec (Jvm.Cond.code x code maxLocals ret :: tables_1) room_1).applies x e0.platform about1 = true :=
  (Spec.applies_iff w_frames).mpr ⟨w_running, w_runnable, w_alone, w_named, w_hears, w_ripe, w_room, w_tables⟩
theorem atStart : AtStart classFile x code maxLocals ret World_1 tables_1 room_1 Calls_1 rest_1 Pre_1 launch0 p0 e0 about1 theMethod args0 below0 :=
  ⟨lists_1, trivial, launch0.admits_env _ _ _, launch0.least_env, fairChoices_fair.cas, fairChoices_fair.clock, w_frames, w_args, w_heap, w_applies, ⟨w_consts, trivial⟩, w_rest, w_case⟩
end start1
theorem witness_1 : WitnessClaimed_1 := ⟨start1.p0, start1.e0, start1.about1, start1.theMethod, start1.args0, start1.below0, start1.atStart⟩
end Jvm.Pilot.@@N@@
