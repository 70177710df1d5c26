import JvmDerived
import JvmDerived.Pilot.@@N@@Statement
import JvmDerived.Pilot.@@N@@Code
set_option linter.unusedVariables false
set_option linter.unusedSimpArgs false
namespace Jvm.Pilot.@@N@@
open Jvm Jvm.ClassFile Sem Op Lib Jvm.Free Jvm.Stand Jvm.LawKit Jvm.RoadKit Bundle Jvm.Pilot.@@N@@.Jvm.D
/-- the byte[72] at a holds f -/
def Byt (Z : State) (h : Heap) (a : Addr) (f : Nat → Int32) : Prop := ∃ cl : Cell, Arr Z h a cl .byte ∧ cl.slots.size = 72 ∧ ∀ i, i < 72 → cl.slots[i]? = some (.int (f i))
theorem Byt.ext {Z : State} {h h' : Heap} {a : Addr} {f : Nat → Int32} (F : Byt Z h a f) (E : Ext h h') : Byt Z h' a f := by obtain ⟨c, A, r⟩ := F; exact ⟨c, A.ext E, r⟩
theorem Byt.lt {Z : State} {h : Heap} {a : Addr} {f : Nat → Int32} (F : Byt Z h a f) : a < h.size := by obtain ⟨c, A, -⟩ := F; exact A.lt
theorem Byt.other {Z : State} {h h' : Heap} {a b : Addr} {sl : Nat} {v : Value} {f : Nat → Int32} (F : Byt Z h b f) (W : Wr h h' a sl v) (q : b ≠ a) : Byt Z h' b f := by obtain ⟨c, A, r⟩ := F; exact ⟨c, A.other W q, r⟩
theorem Byt.keep {Z : State} {h h' : Heap} {a : Addr} {ws : List Addr} {f : Nat → Int32} (F : Byt Z h a f) (K : Keep h h' ws) (q : a ∉ ws) : Byt Z h' a f := by obtain ⟨c, A, r⟩ := F; exact ⟨c, ⟨K.2.1 a c A.1 q, A.2⟩, r⟩
theorem Byt.put {Z : State} {h h' : Heap} {a : Addr} {cl : Cell} {f : Nat → Int32} {j : Int32} {v : Int32} (A : Arr Z h a cl .byte) (S : cl.slots.size = 72) (H : ∀ i, i < 72 → cl.slots[i]? = some (.int (f i))) (W : Wr h h' a j.toNatClampNeg (.int v)) (n : Nat) (e : j.toNatClampNeg = n) : Byt Z h' a (fun i => if i = n then v else f i) := by
  refine ⟨_, A.same W, by rw [sz_set]; exact S, fun i hi => ?_⟩
  subst e
  by_cases q : i = j.toNatClampNeg
  · subst q
    simp [Cell.setSlot, S, hi]
  · have q' : j.toNatClampNeg ≠ i := fun z => q z.symm
    simp only [Cell.setSlot, if_neg q]
    rw [Array.getElem?_setIfInBounds_ne q']
    exact H i hi
theorem own_in {cl : Cell} {j : Int32} (S : cl.slots.size = 72) (n : Nat) (e : j.toInt = n) (hn : n < 72) : ¬ (j < 0 ∨ cl.slots.size ≤ j.toNatClampNeg) := by
  have e2 : j.toNatClampNeg = j.toInt.toNat := rfl
  have e0 : (0 : Int32).toInt = 0 := by decide
  rw [S, e2, Int32.lt_iff_toInt_lt, e0]
  omega
theorem own_nc {j : Int32} (n : Nat) (e : j.toInt = n) : j.toNatClampNeg = n := by
  have e2 : j.toNatClampNeg = j.toInt.toNat := rfl
  rw [e2]; omega
theorem own_p1 {j : Int32} {n : Nat} (e : j.toInt = n) (h : n < 1000) : (j + (1 : Int32)).toInt = (n + 1 : Nat) := by
  have h1 := c_iadd j 1
  have h2 := rng32 (j + 1)
  have e1 : (1 : Int32).toInt = 1 := by decide
  omega
theorem own_p2 {j : Int32} {n : Nat} (e : j.toInt = n) (h : n < 1000) : (j + (2 : Int32)).toInt = (n + 2 : Nat) := by
  have h1 := c_iadd j 2
  have h2 := rng32 (j + 2)
  have e1 : (2 : Int32).toInt = 2 := by decide
  omega
theorem own_p3 {j : Int32} {n : Nat} (e : j.toInt = n) (h : n < 1000) : (j + (3 : Int32)).toInt = (n + 3 : Nat) := by
  have h1 := c_iadd j 3
  have h2 := rng32 (j + 3)
  have e1 : (3 : Int32).toInt = 3 := by decide
  omega
theorem own_d1_0 : decode method_2_code 0 = .ok (.aload_n 0, 1) := by decide +kernel
theorem own_d1_1 : decode method_2_code 1 = .ok (.iload_n 1, 1) := by decide +kernel
theorem own_d1_2 : decode method_2_code 2 = .ok (.lload_n 2, 1) := by decide +kernel
theorem own_d1_3 : decode method_2_code 3 = .ok (.bipush 24, 2) := by decide +kernel
theorem own_d1_5 : decode method_2_code 5 = .ok (.lushr, 1) := by decide +kernel
theorem own_d1_6 : decode method_2_code 6 = .ok (.l2i, 1) := by decide +kernel
theorem own_d1_7 : decode method_2_code 7 = .ok (.i2b, 1) := by decide +kernel
theorem own_d1_8 : decode method_2_code 8 = .ok (.bastore, 1) := by decide +kernel
theorem own_d1_9 : decode method_2_code 9 = .ok (.aload_n 0, 1) := by decide +kernel
theorem own_d1_10 : decode method_2_code 10 = .ok (.iload_n 1, 1) := by decide +kernel
theorem own_d1_11 : decode method_2_code 11 = .ok (.iconst 1, 1) := by decide +kernel
theorem own_d1_12 : decode method_2_code 12 = .ok (.iadd, 1) := by decide +kernel
theorem own_d1_13 : decode method_2_code 13 = .ok (.lload_n 2, 1) := by decide +kernel
theorem own_d1_14 : decode method_2_code 14 = .ok (.bipush 16, 2) := by decide +kernel
theorem own_d1_16 : decode method_2_code 16 = .ok (.lushr, 1) := by decide +kernel
theorem own_d1_17 : decode method_2_code 17 = .ok (.l2i, 1) := by decide +kernel
theorem own_d1_18 : decode method_2_code 18 = .ok (.i2b, 1) := by decide +kernel
theorem own_d1_19 : decode method_2_code 19 = .ok (.bastore, 1) := by decide +kernel
theorem own_d1_20 : decode method_2_code 20 = .ok (.aload_n 0, 1) := by decide +kernel
theorem own_d1_21 : decode method_2_code 21 = .ok (.iload_n 1, 1) := by decide +kernel
theorem own_d1_22 : decode method_2_code 22 = .ok (.iconst 2, 1) := by decide +kernel
theorem own_d1_23 : decode method_2_code 23 = .ok (.iadd, 1) := by decide +kernel
theorem own_d1_24 : decode method_2_code 24 = .ok (.lload_n 2, 1) := by decide +kernel
theorem own_d1_25 : decode method_2_code 25 = .ok (.bipush 8, 2) := by decide +kernel
theorem own_d1_27 : decode method_2_code 27 = .ok (.lushr, 1) := by decide +kernel
theorem own_d1_28 : decode method_2_code 28 = .ok (.l2i, 1) := by decide +kernel
theorem own_d1_29 : decode method_2_code 29 = .ok (.i2b, 1) := by decide +kernel
theorem own_d1_30 : decode method_2_code 30 = .ok (.bastore, 1) := by decide +kernel
theorem own_d1_31 : decode method_2_code 31 = .ok (.aload_n 0, 1) := by decide +kernel
theorem own_d1_32 : decode method_2_code 32 = .ok (.iload_n 1, 1) := by decide +kernel
theorem own_d1_33 : decode method_2_code 33 = .ok (.iconst 3, 1) := by decide +kernel
theorem own_d1_34 : decode method_2_code 34 = .ok (.iadd, 1) := by decide +kernel
theorem own_d1_35 : decode method_2_code 35 = .ok (.lload_n 2, 1) := by decide +kernel
theorem own_d1_36 : decode method_2_code 36 = .ok (.l2i, 1) := by decide +kernel
theorem own_d1_37 : decode method_2_code 37 = .ok (.i2b, 1) := by decide +kernel
theorem own_d1_38 : decode method_2_code 38 = .ok (.bastore, 1) := by decide +kernel
theorem own_d1_39 : decode method_2_code 39 = .ok (.return_, 1) := by decide +kernel
theorem own_pn0 : plainName "com/example/kest/kest/codec/ReaderTimestampPinLaw" = true := by first | (simp [plainName, overriddenIn]; done) | decide +kernel
theorem ef_put (m : MethodId) (r0 : Addr) (p1 : Int32) (q2 : Int64) : entryFrame m #[(.ref r0), (.int p1), (.long q2)] 4 = mkF m 0 #[.val (.ref r0), .val (.int p1), .val (.long q2), .second] [] := by first | (simp [entryFrame, mkF, argsToLocals, Value.category]; done) | rfl
def Q_put (Z : State) (r0 : Addr) (p1 : Int32) (q2 : Int64) (f : Nat → Int32) (n : Nat) (h0 : Heap) (n0 : Nat) (v : Option Value) (h : Heap) (L : List Loc) : Prop := v = none ∧ Fr n0 L ∧ Keep h0 h [r0] ∧ Byt Z h r0 (fun i => if i = (n + 3) then (nar .byte ((q2.toInt32).toInt8.toInt32)) else (fun i => if i = (n + 2) then (nar .byte ((((q2.toUInt64 >>> ((8 : Int32) &&& 0x3f).toInt64.toUInt64).toInt64).toInt32).toInt8.toInt32)) else (fun i => if i = (n + 1) then (nar .byte ((((q2.toUInt64 >>> ((16 : Int32) &&& 0x3f).toInt64.toUInt64).toInt64).toInt32).toInt8.toInt32)) else (fun i => if i = n then (nar .byte ((((q2.toUInt64 >>> ((24 : Int32) &&& 0x3f).toInt64.toUInt64).toInt64).toInt32).toInt8.toInt32)) else f i) i) i) i)
set_option maxRecDepth 65536 in
set_option maxHeartbeats 40000000 in
theorem rm_put (l : Launch) (Z : State) (a0 : Array Value) (hw : ∀ d ∈ tables_1, d.before a0 Z = true) (ws : List Jvm.Cond) (r0 : Addr) (p1 : Int32) (q2 : Int64) (f : Nat → Int32) (n : Nat) (h0 : Heap) (n0 : Nat) (Z0 : n0 ≤ h0.size) (Y0 : Byt Z h0 r0 f) (hn : p1.toInt = (n : Int)) (hn2 : n + 3 < 72) (g_r0 : n0 ≤ r0) :
    MetFree l (⟨"com/example/kest/kest/codec/ReaderTimestampPinLaw", "put", "([BIJ)V"⟩ : MethodName) (head1 (Jvm.Cond.code (⟨"com/example/kest/kest/codec/ReaderTimestampPinLaw", "put", "([BIJ)V"⟩ : MethodName) method_2_code 4 none :: ws) ({ frames := 0, cells := 0, slots := 0, locals := 0 } : Room)) (fun a U => a = #[(.ref r0), (.int p1), (.long q2)] ∧ Z.Warmed39 U.vm ∧ U.heap = h0) (fun _ _ _ _ _ => True) (fun _ U o U' => ∃ v L, o = .returned v ∧ Q_put Z r0 p1 q2 f n h0 n0 v U'.heap L ∧ FrameEnd U o U' L ({ frames := 0, cells := 0, slots := 0, locals := 0 } : Room).cells ({ frames := 0, cells := 0, slots := 0, locals := 0 } : Room).slots) := by
  refine MetFree.of_bodySF (plainFor_of_name own_pn0) hisR ?_
  intro p e s m args below meth c s₁ Bd hml0 hP hK
  obtain ⟨rfl, hZ, hh⟩ := hP
  have hx := Bd.exec
  have hby := Bd.bytes
  have hml : c.maxLocals = 4 := hml0
  have hown : s.vm.findClass "com/example/kest/kest/codec/ReaderTimestampPinLaw" = some m.cls := findClass_of_methodNamed Bd.named
  have hnm := (name_of_methodNamed Bd.named Bd.method).1
  have X0 : Stand p l e ({ frames := 0, cells := 0, slots := 0, locals := 0 } : Room) s m #[(.ref r0), (.int p1), (.long q2)] below meth c s₁ [] 0 0 := Stand.of_body Bd
  have e0 : s₁.heap = h0 := by rw [← hh, Bd.state]; rfl
  have N0 := Fr.nil n0
  have pre0 : ∀ t, Steps p.tables e below (s₁.setTop (mkF m 0 #[.val (.ref r0), .val (.int p1), .val (.long q2), .second] [])) t → Steps p.tables e below (s₁.setTop (entryFrame m #[(.ref r0), (.int p1), (.long q2)] 4)) t := fun t k => castTop (ef_put m r0 p1 q2) k
  have K0 : Keep h0 h0 [r0] := Keep.refl h0 _
  obtain ⟨cl1, Ar1, S1, H1⟩ := id Y0
  obtain ⟨T2, h2, X2, e2, W2, st2⟩ := stB X0 hx hZ e0 Ar1 (j := p1) (own_in S1 n hn (by omega)) (g := (mkF m 8 #[.val (.ref r0), .val (.int p1), .val (.long q2), .second] [(.int ((((q2.toUInt64 >>> ((24 : Int32) &&& 0x3f).toInt64.toUInt64).toInt64).toInt32).toInt8.toInt32)), (.int p1), (.ref r0)])) rfl rfl (hb hby own_d1_8)
  have Y2 : Byt Z h2 r0 (fun i => if i = n then (nar .byte ((((q2.toUInt64 >>> ((24 : Int32) &&& 0x3f).toInt64.toUInt64).toInt64).toInt32).toInt8.toInt32)) else f i) := Byt.put Ar1 S1 H1 W2 n (own_nc n hn)
  have N2 := Fr.snoc X2 N0 g_r0
  have Z2 : n0 ≤ h2.size := Nat.le_trans Z0 (Keep.of_wr W2).1
  have K2 := K0.wr W2 (Or.inl (by simp))
  obtain ⟨cl4, Ar4, S4, H4⟩ := id Y2
  obtain ⟨T5, h5, X5, e5, W5, st5⟩ := stB X2 hx hZ e2 Ar4 (j := (p1 + (1 : Int32))) (own_in S4 (n + 1) (own_p1 hn (by omega)) (by omega)) (g := (mkF m 19 #[.val (.ref r0), .val (.int p1), .val (.long q2), .second] [(.int ((((q2.toUInt64 >>> ((16 : Int32) &&& 0x3f).toInt64.toUInt64).toInt64).toInt32).toInt8.toInt32)), (.int (p1 + (1 : Int32))), (.ref r0)])) rfl rfl (hb hby own_d1_19)
  have Y5 : Byt Z h5 r0 (fun i => if i = (n + 1) then (nar .byte ((((q2.toUInt64 >>> ((16 : Int32) &&& 0x3f).toInt64.toUInt64).toInt64).toInt32).toInt8.toInt32)) else (fun i => if i = n then (nar .byte ((((q2.toUInt64 >>> ((24 : Int32) &&& 0x3f).toInt64.toUInt64).toInt64).toInt32).toInt8.toInt32)) else f i) i) := Byt.put Ar4 S4 H4 W5 (n + 1) (own_nc (n + 1) (own_p1 hn (by omega)))
  have N5 := Fr.snoc X5 N2 g_r0
  have Z5 : n0 ≤ h5.size := Nat.le_trans Z2 (Keep.of_wr W5).1
  have K5 := K2.wr W5 (Or.inl (by simp))
  obtain ⟨cl7, Ar7, S7, H7⟩ := id Y5
  obtain ⟨T8, h8, X8, e8, W8, st8⟩ := stB X5 hx hZ e5 Ar7 (j := (p1 + (2 : Int32))) (own_in S7 (n + 2) (own_p2 hn (by omega)) (by omega)) (g := (mkF m 30 #[.val (.ref r0), .val (.int p1), .val (.long q2), .second] [(.int ((((q2.toUInt64 >>> ((8 : Int32) &&& 0x3f).toInt64.toUInt64).toInt64).toInt32).toInt8.toInt32)), (.int (p1 + (2 : Int32))), (.ref r0)])) rfl rfl (hb hby own_d1_30)
  have Y8 : Byt Z h8 r0 (fun i => if i = (n + 2) then (nar .byte ((((q2.toUInt64 >>> ((8 : Int32) &&& 0x3f).toInt64.toUInt64).toInt64).toInt32).toInt8.toInt32)) else (fun i => if i = (n + 1) then (nar .byte ((((q2.toUInt64 >>> ((16 : Int32) &&& 0x3f).toInt64.toUInt64).toInt64).toInt32).toInt8.toInt32)) else (fun i => if i = n then (nar .byte ((((q2.toUInt64 >>> ((24 : Int32) &&& 0x3f).toInt64.toUInt64).toInt64).toInt32).toInt8.toInt32)) else f i) i) i) := Byt.put Ar7 S7 H7 W8 (n + 2) (own_nc (n + 2) (own_p2 hn (by omega)))
  have N8 := Fr.snoc X8 N5 g_r0
  have Z8 : n0 ≤ h8.size := Nat.le_trans Z5 (Keep.of_wr W8).1
  have K8 := K5.wr W8 (Or.inl (by simp))
  obtain ⟨cl10, Ar10, S10, H10⟩ := id Y8
  obtain ⟨T11, h11, X11, e11, W11, st11⟩ := stB X8 hx hZ e8 Ar10 (j := (p1 + (3 : Int32))) (own_in S10 (n + 3) (own_p3 hn (by omega)) (by omega)) (g := (mkF m 38 #[.val (.ref r0), .val (.int p1), .val (.long q2), .second] [(.int ((q2.toInt32).toInt8.toInt32)), (.int (p1 + (3 : Int32))), (.ref r0)])) rfl rfl (hb hby own_d1_38)
  have Y11 : Byt Z h11 r0 (fun i => if i = (n + 3) then (nar .byte ((q2.toInt32).toInt8.toInt32)) else (fun i => if i = (n + 2) then (nar .byte ((((q2.toUInt64 >>> ((8 : Int32) &&& 0x3f).toInt64.toUInt64).toInt64).toInt32).toInt8.toInt32)) else (fun i => if i = (n + 1) then (nar .byte ((((q2.toUInt64 >>> ((16 : Int32) &&& 0x3f).toInt64.toUInt64).toInt64).toInt32).toInt8.toInt32)) else (fun i => if i = n then (nar .byte ((((q2.toUInt64 >>> ((24 : Int32) &&& 0x3f).toInt64.toUInt64).toInt64).toInt32).toInt8.toInt32)) else f i) i) i) i) := Byt.put Ar10 S10 H10 W11 (n + 3) (own_nc (n + 3) (own_p3 hn (by omega)))
  have N11 := Fr.snoc X11 N8 g_r0
  have Z11 : n0 ≤ h11.size := Nat.le_trans Z8 (Keep.of_wr W11).1
  have K11 := K8.wr W11 (Or.inl (by simp))
  obtain ⟨fs, hr, hrun, hended, hW, hsame⟩ := X11.leave (v := none) (fun _ => rfl)
  refine ⟨_, _, pre0 _ ?_, hrun, hended, _, _, rfl, ?_, ⟨_, rfl⟩, hW, hsame.mono (by decide) (by decide)⟩
  · show Steps p.tables e below (s₁.setTop (mkF m 0 #[.val (.ref r0), .val (.int p1), .val (.long q2), .second] [])) _
    refine XS.aloadN X0.here hx rfl (hb hby own_d1_0) rfl rfl ?_
    show Steps p.tables e below (s₁.setTop (mkF m 1 #[.val (.ref r0), .val (.int p1), .val (.long q2), .second] [(.ref r0)])) _
    refine XS.iloadN X0.here hx rfl (hb hby own_d1_1) rfl ?_
    show Steps p.tables e below (s₁.setTop (mkF m 2 #[.val (.ref r0), .val (.int p1), .val (.long q2), .second] [(.int p1), (.ref r0)])) _
    refine XS.lloadN X0.here hx rfl (hb hby own_d1_2) rfl ?_
    show Steps p.tables e below (s₁.setTop (mkF m 3 #[.val (.ref r0), .val (.int p1), .val (.long q2), .second] [(.long q2), (.int p1), (.ref r0)])) _
    refine XS.bipush X0.here hx rfl (hb hby own_d1_3) ?_
    show Steps p.tables e below (s₁.setTop (mkF m 5 #[.val (.ref r0), .val (.int p1), .val (.long q2), .second] [(.int (24 : Int32)), (.long q2), (.int p1), (.ref r0)])) _
    refine XS.lushr X0.here hx rfl (hb hby own_d1_5) rfl ?_
    show Steps p.tables e below (s₁.setTop (mkF m 6 #[.val (.ref r0), .val (.int p1), .val (.long q2), .second] [(.long ((q2.toUInt64 >>> ((24 : Int32) &&& 0x3f).toInt64.toUInt64).toInt64)), (.int p1), (.ref r0)])) _
    refine XS.l2i X0.here hx rfl (hb hby own_d1_6) rfl ?_
    show Steps p.tables e below (s₁.setTop (mkF m 7 #[.val (.ref r0), .val (.int p1), .val (.long q2), .second] [(.int (((q2.toUInt64 >>> ((24 : Int32) &&& 0x3f).toInt64.toUInt64).toInt64).toInt32)), (.int p1), (.ref r0)])) _
    refine XS.i2b X0.here hx rfl (hb hby own_d1_7) rfl ?_
    show Steps p.tables e below (s₁.setTop (mkF m 8 #[.val (.ref r0), .val (.int p1), .val (.long q2), .second] [(.int ((((q2.toUInt64 >>> ((24 : Int32) &&& 0x3f).toInt64.toUInt64).toInt64).toInt32).toInt8.toInt32)), (.int p1), (.ref r0)])) _
    refine st2 _ ?_
    show Steps p.tables e below (T2.setTop (mkF m 9 #[.val (.ref r0), .val (.int p1), .val (.long q2), .second] [])) _
    refine XS.aloadN X2.here hx rfl (hb hby own_d1_9) rfl rfl ?_
    show Steps p.tables e below (T2.setTop (mkF m 10 #[.val (.ref r0), .val (.int p1), .val (.long q2), .second] [(.ref r0)])) _
    refine XS.iloadN X2.here hx rfl (hb hby own_d1_10) rfl ?_
    show Steps p.tables e below (T2.setTop (mkF m 11 #[.val (.ref r0), .val (.int p1), .val (.long q2), .second] [(.int p1), (.ref r0)])) _
    refine XS.iconst X2.here hx rfl (hb hby own_d1_11) ?_
    show Steps p.tables e below (T2.setTop (mkF m 12 #[.val (.ref r0), .val (.int p1), .val (.long q2), .second] [(.int (1 : Int32)), (.int p1), (.ref r0)])) _
    refine XS.iadd X2.here hx rfl (hb hby own_d1_12) rfl ?_
    show Steps p.tables e below (T2.setTop (mkF m 13 #[.val (.ref r0), .val (.int p1), .val (.long q2), .second] [(.int (p1 + (1 : Int32))), (.ref r0)])) _
    refine XS.lloadN X2.here hx rfl (hb hby own_d1_13) rfl ?_
    show Steps p.tables e below (T2.setTop (mkF m 14 #[.val (.ref r0), .val (.int p1), .val (.long q2), .second] [(.long q2), (.int (p1 + (1 : Int32))), (.ref r0)])) _
    refine XS.bipush X2.here hx rfl (hb hby own_d1_14) ?_
    show Steps p.tables e below (T2.setTop (mkF m 16 #[.val (.ref r0), .val (.int p1), .val (.long q2), .second] [(.int (16 : Int32)), (.long q2), (.int (p1 + (1 : Int32))), (.ref r0)])) _
    refine XS.lushr X2.here hx rfl (hb hby own_d1_16) rfl ?_
    show Steps p.tables e below (T2.setTop (mkF m 17 #[.val (.ref r0), .val (.int p1), .val (.long q2), .second] [(.long ((q2.toUInt64 >>> ((16 : Int32) &&& 0x3f).toInt64.toUInt64).toInt64)), (.int (p1 + (1 : Int32))), (.ref r0)])) _
    refine XS.l2i X2.here hx rfl (hb hby own_d1_17) rfl ?_
    show Steps p.tables e below (T2.setTop (mkF m 18 #[.val (.ref r0), .val (.int p1), .val (.long q2), .second] [(.int (((q2.toUInt64 >>> ((16 : Int32) &&& 0x3f).toInt64.toUInt64).toInt64).toInt32)), (.int (p1 + (1 : Int32))), (.ref r0)])) _
    refine XS.i2b X2.here hx rfl (hb hby own_d1_18) rfl ?_
    show Steps p.tables e below (T2.setTop (mkF m 19 #[.val (.ref r0), .val (.int p1), .val (.long q2), .second] [(.int ((((q2.toUInt64 >>> ((16 : Int32) &&& 0x3f).toInt64.toUInt64).toInt64).toInt32).toInt8.toInt32)), (.int (p1 + (1 : Int32))), (.ref r0)])) _
    refine st5 _ ?_
    show Steps p.tables e below (T5.setTop (mkF m 20 #[.val (.ref r0), .val (.int p1), .val (.long q2), .second] [])) _
    refine XS.aloadN X5.here hx rfl (hb hby own_d1_20) rfl rfl ?_
    show Steps p.tables e below (T5.setTop (mkF m 21 #[.val (.ref r0), .val (.int p1), .val (.long q2), .second] [(.ref r0)])) _
    refine XS.iloadN X5.here hx rfl (hb hby own_d1_21) rfl ?_
    show Steps p.tables e below (T5.setTop (mkF m 22 #[.val (.ref r0), .val (.int p1), .val (.long q2), .second] [(.int p1), (.ref r0)])) _
    refine XS.iconst X5.here hx rfl (hb hby own_d1_22) ?_
    show Steps p.tables e below (T5.setTop (mkF m 23 #[.val (.ref r0), .val (.int p1), .val (.long q2), .second] [(.int (2 : Int32)), (.int p1), (.ref r0)])) _
    refine XS.iadd X5.here hx rfl (hb hby own_d1_23) rfl ?_
    show Steps p.tables e below (T5.setTop (mkF m 24 #[.val (.ref r0), .val (.int p1), .val (.long q2), .second] [(.int (p1 + (2 : Int32))), (.ref r0)])) _
    refine XS.lloadN X5.here hx rfl (hb hby own_d1_24) rfl ?_
    show Steps p.tables e below (T5.setTop (mkF m 25 #[.val (.ref r0), .val (.int p1), .val (.long q2), .second] [(.long q2), (.int (p1 + (2 : Int32))), (.ref r0)])) _
    refine XS.bipush X5.here hx rfl (hb hby own_d1_25) ?_
    show Steps p.tables e below (T5.setTop (mkF m 27 #[.val (.ref r0), .val (.int p1), .val (.long q2), .second] [(.int (8 : Int32)), (.long q2), (.int (p1 + (2 : Int32))), (.ref r0)])) _
    refine XS.lushr X5.here hx rfl (hb hby own_d1_27) rfl ?_
    show Steps p.tables e below (T5.setTop (mkF m 28 #[.val (.ref r0), .val (.int p1), .val (.long q2), .second] [(.long ((q2.toUInt64 >>> ((8 : Int32) &&& 0x3f).toInt64.toUInt64).toInt64)), (.int (p1 + (2 : Int32))), (.ref r0)])) _
    refine XS.l2i X5.here hx rfl (hb hby own_d1_28) rfl ?_
    show Steps p.tables e below (T5.setTop (mkF m 29 #[.val (.ref r0), .val (.int p1), .val (.long q2), .second] [(.int (((q2.toUInt64 >>> ((8 : Int32) &&& 0x3f).toInt64.toUInt64).toInt64).toInt32)), (.int (p1 + (2 : Int32))), (.ref r0)])) _
    refine XS.i2b X5.here hx rfl (hb hby own_d1_29) rfl ?_
    show Steps p.tables e below (T5.setTop (mkF m 30 #[.val (.ref r0), .val (.int p1), .val (.long q2), .second] [(.int ((((q2.toUInt64 >>> ((8 : Int32) &&& 0x3f).toInt64.toUInt64).toInt64).toInt32).toInt8.toInt32)), (.int (p1 + (2 : Int32))), (.ref r0)])) _
    refine st8 _ ?_
    show Steps p.tables e below (T8.setTop (mkF m 31 #[.val (.ref r0), .val (.int p1), .val (.long q2), .second] [])) _
    refine XS.aloadN X8.here hx rfl (hb hby own_d1_31) rfl rfl ?_
    show Steps p.tables e below (T8.setTop (mkF m 32 #[.val (.ref r0), .val (.int p1), .val (.long q2), .second] [(.ref r0)])) _
    refine XS.iloadN X8.here hx rfl (hb hby own_d1_32) rfl ?_
    show Steps p.tables e below (T8.setTop (mkF m 33 #[.val (.ref r0), .val (.int p1), .val (.long q2), .second] [(.int p1), (.ref r0)])) _
    refine XS.iconst X8.here hx rfl (hb hby own_d1_33) ?_
    show Steps p.tables e below (T8.setTop (mkF m 34 #[.val (.ref r0), .val (.int p1), .val (.long q2), .second] [(.int (3 : Int32)), (.int p1), (.ref r0)])) _
    refine XS.iadd X8.here hx rfl (hb hby own_d1_34) rfl ?_
    show Steps p.tables e below (T8.setTop (mkF m 35 #[.val (.ref r0), .val (.int p1), .val (.long q2), .second] [(.int (p1 + (3 : Int32))), (.ref r0)])) _
    refine XS.lloadN X8.here hx rfl (hb hby own_d1_35) rfl ?_
    show Steps p.tables e below (T8.setTop (mkF m 36 #[.val (.ref r0), .val (.int p1), .val (.long q2), .second] [(.long q2), (.int (p1 + (3 : Int32))), (.ref r0)])) _
    refine XS.l2i X8.here hx rfl (hb hby own_d1_36) rfl ?_
    show Steps p.tables e below (T8.setTop (mkF m 37 #[.val (.ref r0), .val (.int p1), .val (.long q2), .second] [(.int (q2.toInt32)), (.int (p1 + (3 : Int32))), (.ref r0)])) _
    refine XS.i2b X8.here hx rfl (hb hby own_d1_37) rfl ?_
    show Steps p.tables e below (T8.setTop (mkF m 38 #[.val (.ref r0), .val (.int p1), .val (.long q2), .second] [(.int ((q2.toInt32).toInt8.toInt32)), (.int (p1 + (3 : Int32))), (.ref r0)])) _
    refine st11 _ ?_
    show Steps p.tables e below (T11.setTop (mkF m 39 #[.val (.ref r0), .val (.int p1), .val (.long q2), .second] [])) _
    exact X11.returnOut hx Bd.returns (hb hby own_d1_39) hr
  · show Q_put Z r0 p1 q2 f n h0 n0 _ T11.heap _
    rw [e11]
    exact ⟨rfl, N11, K11, Y11⟩
theorem own_d2_0 : decode prog_32_method_1_code 0 = .ok (.aload_n 0, 1) := by decide +kernel
theorem own_d2_1 : decode prog_32_method_1_code 1 = .ok (.invokespecial 3, 3) := by decide +kernel
theorem own_d2_4 : decode prog_32_method_1_code 4 = .ok (.aload_n 0, 1) := by decide +kernel
theorem own_d2_5 : decode prog_32_method_1_code 5 = .ok (.iconst (-1), 1) := by decide +kernel
theorem own_d2_6 : decode prog_32_method_1_code 6 = .ok (.putfield 9, 3) := by decide +kernel
theorem own_d2_9 : decode prog_32_method_1_code 9 = .ok (.aload_n 0, 1) := by decide +kernel
theorem own_d2_10 : decode prog_32_method_1_code 10 = .ok (.aload_n 1, 1) := by decide +kernel
theorem own_d2_11 : decode prog_32_method_1_code 11 = .ok (.putfield 15, 3) := by decide +kernel
theorem own_d2_14 : decode prog_32_method_1_code 14 = .ok (.return_, 1) := by decide +kernel
theorem own_pn1 : plainName "com/example/kest/kest/codec/PointLog$Reader" = true := by first | (simp [plainName, overriddenIn]; done) | decide +kernel
theorem ef_init (m : MethodId) (r0 : Addr) (r1 : Addr) : entryFrame m #[(.ref r0), (.ref r1)] 2 = mkF m 0 #[.val (.ref r0), .val (.ref r1)] [] := by first | (simp [entryFrame, mkF, argsToLocals, Value.category]; done) | rfl
def Q_init (Z : State) (r0 : Addr) (r1 : Addr) (h0 : Heap) (n0 : Nat) (v : Option Value) (h : Heap) (L : List Loc) : Prop := v = none ∧ Fr n0 L ∧ Keep h0 h [r0] ∧ Exa Z h r0 "com/example/kest/kest/codec/PointLog$Reader" ∧ Fld Z h r0 "com/example/kest/kest/codec/PointLog$Reader" "record" "[B" (.ref r1) ∧ Fld Z h r0 "com/example/kest/kest/codec/PointLog$Reader" "series" "I" (.int (-1 : Int32)) ∧ Fld Z h r0 "com/example/kest/kest/codec/PointLog$Reader" "next" "I" (.int (0 : Int32)) ∧ Fld Z h r0 "com/example/kest/kest/codec/PointLog$Reader" "seriesLength" "I" (.int (0 : Int32))
set_option maxRecDepth 65536 in
set_option maxHeartbeats 40000000 in
theorem rm_init (l : Launch) (Z : State) (a0 : Array Value) (hw : ∀ d ∈ tables_1, d.before a0 Z = true) (ws : List Jvm.Cond) (r0 : Addr) (r1 : Addr) (h0 : Heap) (n0 : Nat) (Z0 : n0 ≤ h0.size) (E_r0 : Exa Z h0 r0 "com/example/kest/kest/codec/PointLog$Reader") (g_r0 : n0 ≤ r0) (F_record : Fld Z h0 r0 "com/example/kest/kest/codec/PointLog$Reader" "record" "[B" .null) (F_series : Fld Z h0 r0 "com/example/kest/kest/codec/PointLog$Reader" "series" "I" (.int (0 : Int32))) (F_next : Fld Z h0 r0 "com/example/kest/kest/codec/PointLog$Reader" "next" "I" (.int (0 : Int32))) (F_seriesLength : Fld Z h0 r0 "com/example/kest/kest/codec/PointLog$Reader" "seriesLength" "I" (.int (0 : Int32))) :
    MetFree l (⟨"com/example/kest/kest/codec/PointLog$Reader", "<init>", "([B)V"⟩ : MethodName) (head1 (Jvm.Cond.code (⟨"com/example/kest/kest/codec/PointLog$Reader", "<init>", "([B)V"⟩ : MethodName) prog_32_method_1_code 2 none :: ws) ({ frames := 1, cells := 0, slots := 0, locals := 12 } : Room)) (fun a U => a = #[(.ref r0), (.ref r1)] ∧ Z.Warmed39 U.vm ∧ U.heap = h0) (fun _ _ _ _ _ => True) (fun _ U o U' => ∃ v L, o = .returned v ∧ Q_init Z r0 r1 h0 n0 v U'.heap L ∧ FrameEnd U o U' L ({ frames := 1, cells := 0, slots := 0, locals := 12 } : Room).cells ({ frames := 1, cells := 0, slots := 0, locals := 12 } : Room).slots) := by
  refine MetFree.of_bodySF (plainFor_of_name own_pn1) hisR ?_
  intro p e s m args below meth c s₁ Bd hml0 hP hK
  obtain ⟨rfl, hZ, hh⟩ := hP
  have hx := Bd.exec
  have hby := Bd.bytes
  have hml : c.maxLocals = 2 := hml0
  have hown : s.vm.findClass "com/example/kest/kest/codec/PointLog$Reader" = some m.cls := findClass_of_methodNamed Bd.named
  have hnm := (name_of_methodNamed Bd.named Bd.method).1
  have X0 : Stand p l e ({ frames := 1, cells := 0, slots := 0, locals := 12 } : Room) s m #[(.ref r0), (.ref r1)] below meth c s₁ [] 0 0 := Stand.of_body Bd
  have e0 : s₁.heap = h0 := by rw [← hh, Bd.state]; rfl
  have N0 := Fr.nil n0
  have pre0 : ∀ t, Steps p.tables e below (s₁.setTop (mkF m 0 #[.val (.ref r0), .val (.ref r1)] [])) t → Steps p.tables e below (s₁.setTop (entryFrame m #[(.ref r0), (.ref r1)] 2)) t := fun t k => castTop (ef_init m r0 r1) k
  have K0 : Keep h0 h0 [r0] := Keep.refl h0 _
  obtain ⟨T1, X1, e1, st1⟩ := initO X0 hx hZ hown (hw _ (List.mem_of_getElem? (i := 11) rfl)) (hw _ (List.mem_of_getElem? (i := 12) rfl)) (hw _ (List.mem_of_getElem? (i := 13) rfl)) e0 (g := (mkF m 1 #[.val (.ref r0), .val (.ref r1)] [(.ref r0)])) rfl (by rw [hml]; rfl) rfl (hb hby own_d2_1) (by decide) (W := 0) (by show 2 * 0 + _ ≤ _; exact Nat.le_of_eq rfl) (by decide)
  obtain ⟨T2, h2, X2, e2, W2, st2⟩ := putF X1 hx hZ hown (host := "") (Or.inl (hw _ (List.mem_of_getElem? (i := 14) rfl))) Via.refl e1 F_series E_r0 (Or.inl (hw _ (List.mem_of_getElem? (i := 15) rfl))) (hw _ (List.mem_of_getElem? (i := 6) rfl)) (ty := .int) (by decide) rfl rfl (g := (mkF m 6 #[.val (.ref r0), .val (.ref r1)] [(.int (-1 : Int32)), (.ref r0)])) rfl rfl (hb hby own_d2_6)
  have Fw2 := F_series.same W2
  have f3_1 := E_r0.wr W2
  have f3_2 := F_record.other W2 (Or.inr (slot_ne (Or.inr (hw _ (List.mem_of_getElem? (i := 17) rfl))) (Or.inl (hw _ (List.mem_of_getElem? (i := 15) rfl))) (by decide) (t := (.array .byte)) (t' := .int) (by decide) (by decide)))
  have f3_4 := F_next.other W2 (Or.inr (slot_ne (Or.inl (hw _ (List.mem_of_getElem? (i := 24) rfl))) (Or.inl (hw _ (List.mem_of_getElem? (i := 15) rfl))) (by decide) (t := .int) (t' := .int) (by decide) (by decide)))
  have f3_5 := F_seriesLength.other W2 (Or.inr (slot_ne (Or.inl (hw _ (List.mem_of_getElem? (i := 26) rfl))) (Or.inl (hw _ (List.mem_of_getElem? (i := 15) rfl))) (by decide) (t := .int) (t' := .int) (by decide) (by decide)))
  have N2 := Fr.snoc X2 N0 g_r0
  have Z2 : n0 ≤ h2.size := Nat.le_trans Z0 (Keep.of_wr W2).1
  have K2 := K0.wr W2 (Or.inl (by simp))
  obtain ⟨T4, h4, X4, e4, W4, st4⟩ := putF X2 hx hZ hown (host := "") (Or.inl (hw _ (List.mem_of_getElem? (i := 16) rfl))) Via.refl e2 f3_2 f3_1 (Or.inr ⟨(hw _ (List.mem_of_getElem? (i := 17) rfl)), rfl, hnm⟩) (hw _ (List.mem_of_getElem? (i := 6) rfl)) (ty := (.array .byte)) (by decide) rfl rfl (g := (mkF m 11 #[.val (.ref r0), .val (.ref r1)] [(.ref r1), (.ref r0)])) rfl rfl (hb hby own_d2_11)
  have Fw4 := f3_2.same W4
  have f5_1 := f3_1.wr W4
  have f5_3 := Fw2.other W4 (Or.inr (slot_ne (Or.inl (hw _ (List.mem_of_getElem? (i := 15) rfl))) (Or.inr (hw _ (List.mem_of_getElem? (i := 17) rfl))) (by decide) (t := .int) (t' := (.array .byte)) (by decide) (by decide)))
  have f5_4 := f3_4.other W4 (Or.inr (slot_ne (Or.inl (hw _ (List.mem_of_getElem? (i := 24) rfl))) (Or.inr (hw _ (List.mem_of_getElem? (i := 17) rfl))) (by decide) (t := .int) (t' := (.array .byte)) (by decide) (by decide)))
  have f5_5 := f3_5.other W4 (Or.inr (slot_ne (Or.inl (hw _ (List.mem_of_getElem? (i := 26) rfl))) (Or.inr (hw _ (List.mem_of_getElem? (i := 17) rfl))) (by decide) (t := .int) (t' := (.array .byte)) (by decide) (by decide)))
  have N4 := Fr.snoc X4 N2 g_r0
  have Z4 : n0 ≤ h4.size := Nat.le_trans Z2 (Keep.of_wr W4).1
  have K4 := K2.wr W4 (Or.inl (by simp))
  obtain ⟨fs, hr, hrun, hended, hW, hsame⟩ := X4.leave (v := none) (fun _ => rfl)
  refine ⟨_, _, pre0 _ ?_, hrun, hended, _, _, rfl, ?_, ⟨_, rfl⟩, hW, hsame.mono (by decide) (by decide)⟩
  · show Steps p.tables e below (s₁.setTop (mkF m 0 #[.val (.ref r0), .val (.ref r1)] [])) _
    refine XS.aloadN X0.here hx rfl (hb hby own_d2_0) rfl rfl ?_
    show Steps p.tables e below (s₁.setTop (mkF m 1 #[.val (.ref r0), .val (.ref r1)] [(.ref r0)])) _
    refine st1 _ ?_
    show Steps p.tables e below (T1.setTop (mkF m 4 #[.val (.ref r0), .val (.ref r1)] [])) _
    refine XS.aloadN X1.here hx rfl (hb hby own_d2_4) rfl rfl ?_
    show Steps p.tables e below (T1.setTop (mkF m 5 #[.val (.ref r0), .val (.ref r1)] [(.ref r0)])) _
    refine XS.iconst X1.here hx rfl (hb hby own_d2_5) ?_
    show Steps p.tables e below (T1.setTop (mkF m 6 #[.val (.ref r0), .val (.ref r1)] [(.int (-1 : Int32)), (.ref r0)])) _
    refine st2 _ ?_
    show Steps p.tables e below (T2.setTop (mkF m 9 #[.val (.ref r0), .val (.ref r1)] [])) _
    refine XS.aloadN X2.here hx rfl (hb hby own_d2_9) rfl rfl ?_
    show Steps p.tables e below (T2.setTop (mkF m 10 #[.val (.ref r0), .val (.ref r1)] [(.ref r0)])) _
    refine XS.aloadN X2.here hx rfl (hb hby own_d2_10) rfl rfl ?_
    show Steps p.tables e below (T2.setTop (mkF m 11 #[.val (.ref r0), .val (.ref r1)] [(.ref r1), (.ref r0)])) _
    refine st4 _ ?_
    show Steps p.tables e below (T4.setTop (mkF m 14 #[.val (.ref r0), .val (.ref r1)] [])) _
    exact X4.returnOut hx Bd.returns (hb hby own_d2_14) hr
  · show Q_init Z r0 r1 h0 n0 _ T4.heap _
    rw [e4]
    exact ⟨rfl, N4, K4, f5_1, Fw4, f5_3, f5_4, f5_5⟩
theorem own_d4_0 : decode prog_32_method_2_code 0 = .ok (.aload_n 0, 1) := by decide +kernel
theorem own_d4_1 : decode prog_32_method_2_code 1 = .ok (.getfield 19, 3) := by decide +kernel
theorem own_d4_4 : decode prog_32_method_2_code 4 = .ok (.aload_n 0, 1) := by decide +kernel
theorem own_d4_5 : decode prog_32_method_2_code 5 = .ok (.getfield 15, 3) := by decide +kernel
theorem own_d4_8 : decode prog_32_method_2_code 8 = .ok (.arraylength, 1) := by decide +kernel
theorem own_d4_9 : decode prog_32_method_2_code 9 = .ok (.if_icmp .ne 5, 3) := by decide +kernel
theorem own_d4_14 : decode prog_32_method_2_code 14 = .ok (.aload_n 0, 1) := by decide +kernel
theorem own_d4_15 : decode prog_32_method_2_code 15 = .ok (.iconst 3, 1) := by decide +kernel
theorem own_d4_16 : decode prog_32_method_2_code 16 = .ok (.aload_n 0, 1) := by decide +kernel
theorem own_d4_17 : decode prog_32_method_2_code 17 = .ok (.getfield 15, 3) := by decide +kernel
theorem own_d4_20 : decode prog_32_method_2_code 20 = .ok (.aload_n 0, 1) := by decide +kernel
theorem own_d4_21 : decode prog_32_method_2_code 21 = .ok (.getfield 19, 3) := by decide +kernel
theorem own_d4_24 : decode prog_32_method_2_code 24 = .ok (.baload, 1) := by decide +kernel
theorem own_d4_25 : decode prog_32_method_2_code 25 = .ok (.sipush 255, 3) := by decide +kernel
theorem own_d4_28 : decode prog_32_method_2_code 28 = .ok (.iand, 1) := by decide +kernel
theorem own_d4_29 : decode prog_32_method_2_code 29 = .ok (.bipush 6, 2) := by decide +kernel
theorem own_d4_31 : decode prog_32_method_2_code 31 = .ok (.imul, 1) := by decide +kernel
theorem own_d4_32 : decode prog_32_method_2_code 32 = .ok (.iadd, 1) := by decide +kernel
theorem own_d4_33 : decode prog_32_method_2_code 33 = .ok (.putfield 26, 3) := by decide +kernel
theorem own_d4_36 : decode prog_32_method_2_code 36 = .ok (.aload_n 0, 1) := by decide +kernel
theorem own_d4_37 : decode prog_32_method_2_code 37 = .ok (.aload_n 0, 1) := by decide +kernel
theorem own_d4_38 : decode prog_32_method_2_code 38 = .ok (.getfield 19, 3) := by decide +kernel
theorem own_d4_41 : decode prog_32_method_2_code 41 = .ok (.iconst 1, 1) := by decide +kernel
theorem own_d4_42 : decode prog_32_method_2_code 42 = .ok (.iadd, 1) := by decide +kernel
theorem own_d4_43 : decode prog_32_method_2_code 43 = .ok (.putfield 9, 3) := by decide +kernel
theorem own_d4_46 : decode prog_32_method_2_code 46 = .ok (.aload_n 0, 1) := by decide +kernel
theorem own_d4_47 : decode prog_32_method_2_code 47 = .ok (.aload_n 0, 1) := by decide +kernel
theorem own_d4_48 : decode prog_32_method_2_code 48 = .ok (.getfield 9, 3) := by decide +kernel
theorem own_d4_51 : decode prog_32_method_2_code 51 = .ok (.aload_n 0, 1) := by decide +kernel
theorem own_d4_52 : decode prog_32_method_2_code 52 = .ok (.getfield 26, 3) := by decide +kernel
theorem own_d4_55 : decode prog_32_method_2_code 55 = .ok (.iadd, 1) := by decide +kernel
theorem own_d4_56 : decode prog_32_method_2_code 56 = .ok (.iconst 4, 1) := by decide +kernel
theorem own_d4_57 : decode prog_32_method_2_code 57 = .ok (.iadd, 1) := by decide +kernel
theorem own_d4_58 : decode prog_32_method_2_code 58 = .ok (.bipush 9, 2) := by decide +kernel
theorem own_d4_60 : decode prog_32_method_2_code 60 = .ok (.iadd, 1) := by decide +kernel
theorem own_d4_61 : decode prog_32_method_2_code 61 = .ok (.putfield 19, 3) := by decide +kernel
theorem own_d4_64 : decode prog_32_method_2_code 64 = .ok (.aload_n 0, 1) := by decide +kernel
theorem own_d4_65 : decode prog_32_method_2_code 65 = .ok (.getfield 19, 3) := by decide +kernel
theorem own_d4_68 : decode prog_32_method_2_code 68 = .ok (.aload_n 0, 1) := by decide +kernel
theorem own_d4_69 : decode prog_32_method_2_code 69 = .ok (.getfield 15, 3) := by decide +kernel
theorem own_d4_72 : decode prog_32_method_2_code 72 = .ok (.arraylength, 1) := by decide +kernel
theorem own_d4_73 : decode prog_32_method_2_code 73 = .ok (.if_icmp .le 21, 3) := by decide +kernel
theorem own_d4_94 : decode prog_32_method_2_code 94 = .ok (.iconst 1, 1) := by decide +kernel
theorem own_d4_95 : decode prog_32_method_2_code 95 = .ok (.ireturn, 1) := by decide +kernel
theorem ef_next (m : MethodId) (r0 : Addr) : entryFrame m #[(.ref r0)] 1 = mkF m 0 #[.val (.ref r0)] [] := by first | (simp [entryFrame, mkF, argsToLocals, Value.category]; done) | rfl
def Q_next (Z : State) (r0 : Addr) (ar : Addr) (f : Nat → Int32) (n : Nat) (nx : Int32) (se : Int32) (sl : Int32) (h0 : Heap) (n0 : Nat) (v : Option Value) (h : Heap) (L : List Loc) : Prop := v = some (.int (1 : Int32)) ∧ Fr n0 L ∧ Keep h0 h [r0] ∧ Fld Z h r0 "com/example/kest/kest/codec/PointLog$Reader" "record" "[B" (.ref ar) ∧ Fld Z h r0 "com/example/kest/kest/codec/PointLog$Reader" "series" "I" (.int (nx + (1 : Int32))) ∧ Fld Z h r0 "com/example/kest/kest/codec/PointLog$Reader" "next" "I" (.int ((((nx + (1 : Int32)) + ((3 : Int32) + (((f n) &&& (255 : Int32)) * (6 : Int32)))) + (4 : Int32)) + (9 : Int32))) ∧ Fld Z h r0 "com/example/kest/kest/codec/PointLog$Reader" "seriesLength" "I" (.int ((3 : Int32) + (((f n) &&& (255 : Int32)) * (6 : Int32))))
set_option maxRecDepth 65536 in
set_option maxHeartbeats 40000000 in
theorem rm_next (l : Launch) (Z : State) (a0 : Array Value) (hw : ∀ d ∈ tables_1, d.before a0 Z = true) (ws : List Jvm.Cond) (r0 : Addr) (ar : Addr) (f : Nat → Int32) (n : Nat) (nx : Int32) (se : Int32) (sl : Int32) (h0 : Heap) (n0 : Nat) (Z0 : n0 ≤ h0.size) (E_r0 : Exa Z h0 r0 "com/example/kest/kest/codec/PointLog$Reader") (g_r0 : n0 ≤ r0) (Y0 : Byt Z h0 ar f) (hn : nx.toInt = (n : Int)) (hn2 : n < 72) (ner : ar ≠ r0) (hx1 : ¬ (nx = (72 : Int32))) (hx2 : ¬ ((72 : Int32) < ((((nx + (1 : Int32)) + ((3 : Int32) + (((f n) &&& (255 : Int32)) * (6 : Int32)))) + (4 : Int32)) + (9 : Int32)))) (F_record : Fld Z h0 r0 "com/example/kest/kest/codec/PointLog$Reader" "record" "[B" (.ref ar)) (F_series : Fld Z h0 r0 "com/example/kest/kest/codec/PointLog$Reader" "series" "I" (.int se)) (F_next : Fld Z h0 r0 "com/example/kest/kest/codec/PointLog$Reader" "next" "I" (.int nx)) (F_seriesLength : Fld Z h0 r0 "com/example/kest/kest/codec/PointLog$Reader" "seriesLength" "I" (.int sl)) :
    MetFree l (⟨"com/example/kest/kest/codec/PointLog$Reader", "next", "()Z"⟩ : MethodName) (head1 (Jvm.Cond.code (⟨"com/example/kest/kest/codec/PointLog$Reader", "next", "()Z"⟩ : MethodName) prog_32_method_2_code 1 (some .boolean) :: ws) ({ frames := 0, cells := 0, slots := 0, locals := 0 } : Room)) (fun a U => a = #[(.ref r0)] ∧ Z.Warmed39 U.vm ∧ U.heap = h0) (fun _ _ _ _ _ => True) (fun _ U o U' => ∃ v L, o = .returned v ∧ Q_next Z r0 ar f n nx se sl h0 n0 v U'.heap L ∧ FrameEnd U o U' L ({ frames := 0, cells := 0, slots := 0, locals := 0 } : Room).cells ({ frames := 0, cells := 0, slots := 0, locals := 0 } : Room).slots) := by
  refine MetFree.of_bodySF (plainFor_of_name own_pn1) hisR ?_
  intro p e s m args below meth c s₁ Bd hml0 hP hK
  obtain ⟨rfl, hZ, hh⟩ := hP
  have hx := Bd.exec
  have hby := Bd.bytes
  have hml : c.maxLocals = 1 := hml0
  have hown : s.vm.findClass "com/example/kest/kest/codec/PointLog$Reader" = some m.cls := findClass_of_methodNamed Bd.named
  have hnm := (name_of_methodNamed Bd.named Bd.method).1
  have X0 : Stand p l e ({ frames := 0, cells := 0, slots := 0, locals := 0 } : Room) s m #[(.ref r0)] below meth c s₁ [] 0 0 := Stand.of_body Bd
  have e0 : s₁.heap = h0 := by rw [← hh, Bd.state]; rfl
  have N0 := Fr.nil n0
  have pre0 : ∀ t, Steps p.tables e below (s₁.setTop (mkF m 0 #[.val (.ref r0)] [])) t → Steps p.tables e below (s₁.setTop (entryFrame m #[(.ref r0)] 1)) t := fun t k => castTop (ef_next m r0) k
  have K0 : Keep h0 h0 [r0] := Keep.refl h0 _
  obtain ⟨T1, X1, e1, st1⟩ := getF X0 hx hZ hown (host := "") (Or.inl (hw _ (List.mem_of_getElem? (i := 23) rfl))) Via.refl e0 F_next (g := (mkF m 1 #[.val (.ref r0)] [(.ref r0)])) rfl rfl (hb hby own_d4_1)
  obtain ⟨T2, X2, e2, st2⟩ := getF X1 hx hZ hown (host := "") (Or.inl (hw _ (List.mem_of_getElem? (i := 16) rfl))) Via.refl e1 F_record (g := (mkF m 5 #[.val (.ref r0)] [(.ref r0), (.int nx)])) rfl rfl (hb hby own_d4_5)
  obtain ⟨cl3, Ar3, S3, H3⟩ := id Y0
  obtain ⟨T4, X4, e4, st4⟩ := getF X2 hx hZ hown (host := "") (Or.inl (hw _ (List.mem_of_getElem? (i := 16) rfl))) Via.refl e2 F_record (g := (mkF m 17 #[.val (.ref r0)] [(.ref r0), (.int (3 : Int32)), (.ref r0)])) rfl rfl (hb hby own_d4_17)
  obtain ⟨T5, X5, e5, st5⟩ := getF X4 hx hZ hown (host := "") (Or.inl (hw _ (List.mem_of_getElem? (i := 23) rfl))) Via.refl e4 F_next (g := (mkF m 21 #[.val (.ref r0)] [(.ref r0), (.ref ar), (.int (3 : Int32)), (.ref r0)])) rfl rfl (hb hby own_d4_21)
  obtain ⟨cl6, Ar6, S6, H6⟩ := id Y0
  have hin7 : ¬ (nx < 0 ∨ cl6.slots.size ≤ (nx).toNatClampNeg) := own_in S6 n hn hn2
  have hat7 : cl6.slots[(nx).toNatClampNeg]? = some (.int (f n)) := by rw [own_nc n hn]; exact H6 _ hn2
  obtain ⟨T8, h8, X8, e8, W8, st8⟩ := putF X5 hx hZ hown (host := "") (Or.inl (hw _ (List.mem_of_getElem? (i := 25) rfl))) Via.refl e5 F_seriesLength E_r0 (Or.inl (hw _ (List.mem_of_getElem? (i := 26) rfl))) (hw _ (List.mem_of_getElem? (i := 6) rfl)) (ty := .int) (by decide) rfl rfl (g := (mkF m 33 #[.val (.ref r0)] [(.int ((3 : Int32) + (((f n) &&& (255 : Int32)) * (6 : Int32)))), (.ref r0)])) rfl rfl (hb hby own_d4_33)
  have Fw8 := F_seriesLength.same W8
  have f9_1 := E_r0.wr W8
  have f9_2 := Y0.other W8 ner
  have f9_3 := F_record.other W8 (Or.inr (slot_ne (Or.inr (hw _ (List.mem_of_getElem? (i := 17) rfl))) (Or.inl (hw _ (List.mem_of_getElem? (i := 26) rfl))) (by decide) (t := (.array .byte)) (t' := .int) (by decide) (by decide)))
  have f9_4 := F_series.other W8 (Or.inr (slot_ne (Or.inl (hw _ (List.mem_of_getElem? (i := 15) rfl))) (Or.inl (hw _ (List.mem_of_getElem? (i := 26) rfl))) (by decide) (t := .int) (t' := .int) (by decide) (by decide)))
  have f9_5 := F_next.other W8 (Or.inr (slot_ne (Or.inl (hw _ (List.mem_of_getElem? (i := 24) rfl))) (Or.inl (hw _ (List.mem_of_getElem? (i := 26) rfl))) (by decide) (t := .int) (t' := .int) (by decide) (by decide)))
  have N8 := Fr.snoc X8 N0 g_r0
  have Z8 : n0 ≤ h8.size := Nat.le_trans Z0 (Keep.of_wr W8).1
  have K8 := K0.wr W8 (Or.inl (by simp))
  obtain ⟨T10, X10, e10, st10⟩ := getF X8 hx hZ hown (host := "") (Or.inl (hw _ (List.mem_of_getElem? (i := 23) rfl))) Via.refl e8 f9_5 (g := (mkF m 38 #[.val (.ref r0)] [(.ref r0), (.ref r0)])) rfl rfl (hb hby own_d4_38)
  obtain ⟨T11, h11, X11, e11, W11, st11⟩ := putF X10 hx hZ hown (host := "") (Or.inl (hw _ (List.mem_of_getElem? (i := 14) rfl))) Via.refl e10 f9_4 f9_1 (Or.inl (hw _ (List.mem_of_getElem? (i := 15) rfl))) (hw _ (List.mem_of_getElem? (i := 6) rfl)) (ty := .int) (by decide) rfl rfl (g := (mkF m 43 #[.val (.ref r0)] [(.int (nx + (1 : Int32))), (.ref r0)])) rfl rfl (hb hby own_d4_43)
  have Fw11 := f9_4.same W11
  have f12_1 := f9_1.wr W11
  have f12_2 := f9_2.other W11 ner
  have f12_3 := f9_3.other W11 (Or.inr (slot_ne (Or.inr (hw _ (List.mem_of_getElem? (i := 17) rfl))) (Or.inl (hw _ (List.mem_of_getElem? (i := 15) rfl))) (by decide) (t := (.array .byte)) (t' := .int) (by decide) (by decide)))
  have f12_5 := f9_5.other W11 (Or.inr (slot_ne (Or.inl (hw _ (List.mem_of_getElem? (i := 24) rfl))) (Or.inl (hw _ (List.mem_of_getElem? (i := 15) rfl))) (by decide) (t := .int) (t' := .int) (by decide) (by decide)))
  have f12_6 := Fw8.other W11 (Or.inr (slot_ne (Or.inl (hw _ (List.mem_of_getElem? (i := 26) rfl))) (Or.inl (hw _ (List.mem_of_getElem? (i := 15) rfl))) (by decide) (t := .int) (t' := .int) (by decide) (by decide)))
  have N11 := Fr.snoc X11 N8 g_r0
  have Z11 : n0 ≤ h11.size := Nat.le_trans Z8 (Keep.of_wr W11).1
  have K11 := K8.wr W11 (Or.inl (by simp))
  obtain ⟨T13, X13, e13, st13⟩ := getF X11 hx hZ hown (host := "") (Or.inl (hw _ (List.mem_of_getElem? (i := 14) rfl))) Via.refl e11 Fw11 (g := (mkF m 48 #[.val (.ref r0)] [(.ref r0), (.ref r0)])) rfl rfl (hb hby own_d4_48)
  obtain ⟨T14, X14, e14, st14⟩ := getF X13 hx hZ hown (host := "") (Or.inl (hw _ (List.mem_of_getElem? (i := 25) rfl))) Via.refl e13 f12_6 (g := (mkF m 52 #[.val (.ref r0)] [(.ref r0), (.int (nx + (1 : Int32))), (.ref r0)])) rfl rfl (hb hby own_d4_52)
  obtain ⟨T15, h15, X15, e15, W15, st15⟩ := putF X14 hx hZ hown (host := "") (Or.inl (hw _ (List.mem_of_getElem? (i := 23) rfl))) Via.refl e14 f12_5 f12_1 (Or.inl (hw _ (List.mem_of_getElem? (i := 24) rfl))) (hw _ (List.mem_of_getElem? (i := 6) rfl)) (ty := .int) (by decide) rfl rfl (g := (mkF m 61 #[.val (.ref r0)] [(.int ((((nx + (1 : Int32)) + ((3 : Int32) + (((f n) &&& (255 : Int32)) * (6 : Int32)))) + (4 : Int32)) + (9 : Int32))), (.ref r0)])) rfl rfl (hb hby own_d4_61)
  have Fw15 := f12_5.same W15
  have f16_1 := f12_1.wr W15
  have f16_2 := f12_2.other W15 ner
  have f16_3 := f12_3.other W15 (Or.inr (slot_ne (Or.inr (hw _ (List.mem_of_getElem? (i := 17) rfl))) (Or.inl (hw _ (List.mem_of_getElem? (i := 24) rfl))) (by decide) (t := (.array .byte)) (t' := .int) (by decide) (by decide)))
  have f16_4 := Fw11.other W15 (Or.inr (slot_ne (Or.inl (hw _ (List.mem_of_getElem? (i := 15) rfl))) (Or.inl (hw _ (List.mem_of_getElem? (i := 24) rfl))) (by decide) (t := .int) (t' := .int) (by decide) (by decide)))
  have f16_6 := f12_6.other W15 (Or.inr (slot_ne (Or.inl (hw _ (List.mem_of_getElem? (i := 26) rfl))) (Or.inl (hw _ (List.mem_of_getElem? (i := 24) rfl))) (by decide) (t := .int) (t' := .int) (by decide) (by decide)))
  have N15 := Fr.snoc X15 N11 g_r0
  have Z15 : n0 ≤ h15.size := Nat.le_trans Z11 (Keep.of_wr W15).1
  have K15 := K11.wr W15 (Or.inl (by simp))
  obtain ⟨T17, X17, e17, st17⟩ := getF X15 hx hZ hown (host := "") (Or.inl (hw _ (List.mem_of_getElem? (i := 23) rfl))) Via.refl e15 Fw15 (g := (mkF m 65 #[.val (.ref r0)] [(.ref r0)])) rfl rfl (hb hby own_d4_65)
  obtain ⟨T18, X18, e18, st18⟩ := getF X17 hx hZ hown (host := "") (Or.inl (hw _ (List.mem_of_getElem? (i := 16) rfl))) Via.refl e17 f16_3 (g := (mkF m 69 #[.val (.ref r0)] [(.ref r0), (.int ((((nx + (1 : Int32)) + ((3 : Int32) + (((f n) &&& (255 : Int32)) * (6 : Int32)))) + (4 : Int32)) + (9 : Int32)))])) rfl rfl (hb hby own_d4_69)
  obtain ⟨cl19, Ar19, S19, H19⟩ := id f16_2
  obtain ⟨fs, hr, hrun, hended, hW, hsame⟩ := X18.leave (v := some (.int (1 : Int32))) (fun h => by rw [Bd.returns] at h; cases h)
  refine ⟨_, _, pre0 _ ?_, hrun, hended, _, _, rfl, ?_, ⟨_, rfl⟩, hW, hsame.mono (by decide) (by decide)⟩
  · show Steps p.tables e below (s₁.setTop (mkF m 0 #[.val (.ref r0)] [])) _
    refine XS.aloadN X0.here hx rfl (hb hby own_d4_0) rfl rfl ?_
    show Steps p.tables e below (s₁.setTop (mkF m 1 #[.val (.ref r0)] [(.ref r0)])) _
    refine st1 _ ?_
    show Steps p.tables e below (T1.setTop (mkF m 4 #[.val (.ref r0)] [(.int nx)])) _
    refine XS.aloadN X1.here hx rfl (hb hby own_d4_4) rfl rfl ?_
    show Steps p.tables e below (T1.setTop (mkF m 5 #[.val (.ref r0)] [(.ref r0), (.int nx)])) _
    refine st2 _ ?_
    show Steps p.tables e below (T2.setTop (mkF m 8 #[.val (.ref r0)] [(.ref ar), (.int nx)])) _
    refine X2.arraylength hx (by rw [e2]; exact Ar3.1) (State.isArrayOf_alike hZ.alike Ar3.2.1) (g := (mkF m 8 #[.val (.ref r0)] [(.ref ar), (.int nx)])) rfl rfl (hb hby own_d4_8) _ ?_
    rw [show cl3.slots.size.toInt32 = (72 : Int32) by rw [S3]; rfl]
    show Steps p.tables e below (T2.setTop (mkF m 9 #[.val (.ref r0)] [(.int (72 : Int32)), (.int nx)])) _
    refine XS.icmpYes X2.here hx rfl (pc0 := 9) (pc' := 14) rfl (hb hby own_d4_9) rfl (feq hx1).2 (by decide) (by decide) ?_
    show Steps p.tables e below (T2.setTop (mkF m 14 #[.val (.ref r0)] [])) _
    refine XS.aloadN X2.here hx rfl (hb hby own_d4_14) rfl rfl ?_
    show Steps p.tables e below (T2.setTop (mkF m 15 #[.val (.ref r0)] [(.ref r0)])) _
    refine XS.iconst X2.here hx rfl (hb hby own_d4_15) ?_
    show Steps p.tables e below (T2.setTop (mkF m 16 #[.val (.ref r0)] [(.int (3 : Int32)), (.ref r0)])) _
    refine XS.aloadN X2.here hx rfl (hb hby own_d4_16) rfl rfl ?_
    show Steps p.tables e below (T2.setTop (mkF m 17 #[.val (.ref r0)] [(.ref r0), (.int (3 : Int32)), (.ref r0)])) _
    refine st4 _ ?_
    show Steps p.tables e below (T4.setTop (mkF m 20 #[.val (.ref r0)] [(.ref ar), (.int (3 : Int32)), (.ref r0)])) _
    refine XS.aloadN X4.here hx rfl (hb hby own_d4_20) rfl rfl ?_
    show Steps p.tables e below (T4.setTop (mkF m 21 #[.val (.ref r0)] [(.ref r0), (.ref ar), (.int (3 : Int32)), (.ref r0)])) _
    refine st5 _ ?_
    show Steps p.tables e below (T5.setTop (mkF m 24 #[.val (.ref r0)] [(.int nx), (.ref ar), (.int (3 : Int32)), (.ref r0)])) _
    refine X5.baloadBytes hx (j := nx) (v := (.int (f n))) (by rw [e5]; exact Ar6.1) (State.isArrayOf_alike hZ.alike Ar6.2.1) Ar6.2.2 hin7 hat7 (g := (mkF m 24 #[.val (.ref r0)] [(.int nx), (.ref ar), (.int (3 : Int32)), (.ref r0)])) rfl rfl (hb hby own_d4_24) _ ?_
    show Steps p.tables e below (T5.setTop (mkF m 25 #[.val (.ref r0)] [(.int (f n)), (.int (3 : Int32)), (.ref r0)])) _
    refine XS.sipush X5.here hx rfl (hb hby own_d4_25) ?_
    show Steps p.tables e below (T5.setTop (mkF m 28 #[.val (.ref r0)] [(.int (255 : Int32)), (.int (f n)), (.int (3 : Int32)), (.ref r0)])) _
    refine XS.iand X5.here hx rfl (hb hby own_d4_28) rfl ?_
    show Steps p.tables e below (T5.setTop (mkF m 29 #[.val (.ref r0)] [(.int ((f n) &&& (255 : Int32))), (.int (3 : Int32)), (.ref r0)])) _
    refine XS.bipush X5.here hx rfl (hb hby own_d4_29) ?_
    show Steps p.tables e below (T5.setTop (mkF m 31 #[.val (.ref r0)] [(.int (6 : Int32)), (.int ((f n) &&& (255 : Int32))), (.int (3 : Int32)), (.ref r0)])) _
    refine XS.imul X5.here hx rfl (hb hby own_d4_31) rfl ?_
    show Steps p.tables e below (T5.setTop (mkF m 32 #[.val (.ref r0)] [(.int (((f n) &&& (255 : Int32)) * (6 : Int32))), (.int (3 : Int32)), (.ref r0)])) _
    refine XS.iadd X5.here hx rfl (hb hby own_d4_32) rfl ?_
    show Steps p.tables e below (T5.setTop (mkF m 33 #[.val (.ref r0)] [(.int ((3 : Int32) + (((f n) &&& (255 : Int32)) * (6 : Int32)))), (.ref r0)])) _
    refine st8 _ ?_
    show Steps p.tables e below (T8.setTop (mkF m 36 #[.val (.ref r0)] [])) _
    refine XS.aloadN X8.here hx rfl (hb hby own_d4_36) rfl rfl ?_
    show Steps p.tables e below (T8.setTop (mkF m 37 #[.val (.ref r0)] [(.ref r0)])) _
    refine XS.aloadN X8.here hx rfl (hb hby own_d4_37) rfl rfl ?_
    show Steps p.tables e below (T8.setTop (mkF m 38 #[.val (.ref r0)] [(.ref r0), (.ref r0)])) _
    refine st10 _ ?_
    show Steps p.tables e below (T10.setTop (mkF m 41 #[.val (.ref r0)] [(.int nx), (.ref r0)])) _
    refine XS.iconst X10.here hx rfl (hb hby own_d4_41) ?_
    show Steps p.tables e below (T10.setTop (mkF m 42 #[.val (.ref r0)] [(.int (1 : Int32)), (.int nx), (.ref r0)])) _
    refine XS.iadd X10.here hx rfl (hb hby own_d4_42) rfl ?_
    show Steps p.tables e below (T10.setTop (mkF m 43 #[.val (.ref r0)] [(.int (nx + (1 : Int32))), (.ref r0)])) _
    refine st11 _ ?_
    show Steps p.tables e below (T11.setTop (mkF m 46 #[.val (.ref r0)] [])) _
    refine XS.aloadN X11.here hx rfl (hb hby own_d4_46) rfl rfl ?_
    show Steps p.tables e below (T11.setTop (mkF m 47 #[.val (.ref r0)] [(.ref r0)])) _
    refine XS.aloadN X11.here hx rfl (hb hby own_d4_47) rfl rfl ?_
    show Steps p.tables e below (T11.setTop (mkF m 48 #[.val (.ref r0)] [(.ref r0), (.ref r0)])) _
    refine st13 _ ?_
    show Steps p.tables e below (T13.setTop (mkF m 51 #[.val (.ref r0)] [(.int (nx + (1 : Int32))), (.ref r0)])) _
    refine XS.aloadN X13.here hx rfl (hb hby own_d4_51) rfl rfl ?_
    show Steps p.tables e below (T13.setTop (mkF m 52 #[.val (.ref r0)] [(.ref r0), (.int (nx + (1 : Int32))), (.ref r0)])) _
    refine st14 _ ?_
    show Steps p.tables e below (T14.setTop (mkF m 55 #[.val (.ref r0)] [(.int ((3 : Int32) + (((f n) &&& (255 : Int32)) * (6 : Int32)))), (.int (nx + (1 : Int32))), (.ref r0)])) _
    refine XS.iadd X14.here hx rfl (hb hby own_d4_55) rfl ?_
    show Steps p.tables e below (T14.setTop (mkF m 56 #[.val (.ref r0)] [(.int ((nx + (1 : Int32)) + ((3 : Int32) + (((f n) &&& (255 : Int32)) * (6 : Int32))))), (.ref r0)])) _
    refine XS.iconst X14.here hx rfl (hb hby own_d4_56) ?_
    show Steps p.tables e below (T14.setTop (mkF m 57 #[.val (.ref r0)] [(.int (4 : Int32)), (.int ((nx + (1 : Int32)) + ((3 : Int32) + (((f n) &&& (255 : Int32)) * (6 : Int32))))), (.ref r0)])) _
    refine XS.iadd X14.here hx rfl (hb hby own_d4_57) rfl ?_
    show Steps p.tables e below (T14.setTop (mkF m 58 #[.val (.ref r0)] [(.int (((nx + (1 : Int32)) + ((3 : Int32) + (((f n) &&& (255 : Int32)) * (6 : Int32)))) + (4 : Int32))), (.ref r0)])) _
    refine XS.bipush X14.here hx rfl (hb hby own_d4_58) ?_
    show Steps p.tables e below (T14.setTop (mkF m 60 #[.val (.ref r0)] [(.int (9 : Int32)), (.int (((nx + (1 : Int32)) + ((3 : Int32) + (((f n) &&& (255 : Int32)) * (6 : Int32)))) + (4 : Int32))), (.ref r0)])) _
    refine XS.iadd X14.here hx rfl (hb hby own_d4_60) rfl ?_
    show Steps p.tables e below (T14.setTop (mkF m 61 #[.val (.ref r0)] [(.int ((((nx + (1 : Int32)) + ((3 : Int32) + (((f n) &&& (255 : Int32)) * (6 : Int32)))) + (4 : Int32)) + (9 : Int32))), (.ref r0)])) _
    refine st15 _ ?_
    show Steps p.tables e below (T15.setTop (mkF m 64 #[.val (.ref r0)] [])) _
    refine XS.aloadN X15.here hx rfl (hb hby own_d4_64) rfl rfl ?_
    show Steps p.tables e below (T15.setTop (mkF m 65 #[.val (.ref r0)] [(.ref r0)])) _
    refine st17 _ ?_
    show Steps p.tables e below (T17.setTop (mkF m 68 #[.val (.ref r0)] [(.int ((((nx + (1 : Int32)) + ((3 : Int32) + (((f n) &&& (255 : Int32)) * (6 : Int32)))) + (4 : Int32)) + (9 : Int32)))])) _
    refine XS.aloadN X17.here hx rfl (hb hby own_d4_68) rfl rfl ?_
    show Steps p.tables e below (T17.setTop (mkF m 69 #[.val (.ref r0)] [(.ref r0), (.int ((((nx + (1 : Int32)) + ((3 : Int32) + (((f n) &&& (255 : Int32)) * (6 : Int32)))) + (4 : Int32)) + (9 : Int32)))])) _
    refine st18 _ ?_
    show Steps p.tables e below (T18.setTop (mkF m 72 #[.val (.ref r0)] [(.ref ar), (.int ((((nx + (1 : Int32)) + ((3 : Int32) + (((f n) &&& (255 : Int32)) * (6 : Int32)))) + (4 : Int32)) + (9 : Int32)))])) _
    refine X18.arraylength hx (by rw [e18]; exact Ar19.1) (State.isArrayOf_alike hZ.alike Ar19.2.1) (g := (mkF m 72 #[.val (.ref r0)] [(.ref ar), (.int ((((nx + (1 : Int32)) + ((3 : Int32) + (((f n) &&& (255 : Int32)) * (6 : Int32)))) + (4 : Int32)) + (9 : Int32)))])) rfl rfl (hb hby own_d4_72) _ ?_
    rw [show cl19.slots.size.toInt32 = (72 : Int32) by rw [S19]; rfl]
    show Steps p.tables e below (T18.setTop (mkF m 73 #[.val (.ref r0)] [(.int (72 : Int32)), (.int ((((nx + (1 : Int32)) + ((3 : Int32) + (((f n) &&& (255 : Int32)) * (6 : Int32)))) + (4 : Int32)) + (9 : Int32)))])) _
    refine XS.icmpYes X18.here hx rfl (pc0 := 73) (pc' := 94) rfl (hb hby own_d4_73) rfl (flt hx2).2.2.2 (by decide) (by decide) ?_
    show Steps p.tables e below (T18.setTop (mkF m 94 #[.val (.ref r0)] [])) _
    refine XS.iconst X18.here hx rfl (hb hby own_d4_94) ?_
    show Steps p.tables e below (T18.setTop (mkF m 95 #[.val (.ref r0)] [(.int (1 : Int32))])) _
    exact retN X18 hx (t := .boolean) Bd.returns (by simp) (hb hby own_d4_95) hr
  · show Q_next Z r0 ar f n nx se sl h0 n0 _ T18.heap _
    rw [e18]
    exact ⟨rfl, N15, K15, f16_3, f16_4, Fw15, f16_6⟩
def own_ts (b0 b1 b2 b3 : Int32) : Int64 := (((((((((0 : Int64) <<< ((8 : Int32) &&& 0x3f).toInt64) ||| ((b0 &&& (255 : Int32)).toInt64)) <<< ((8 : Int32) &&& 0x3f).toInt64) ||| ((b1 &&& (255 : Int32)).toInt64)) <<< ((8 : Int32) &&& 0x3f).toInt64) ||| ((b2 &&& (255 : Int32)).toInt64)) <<< ((8 : Int32) &&& 0x3f).toInt64) ||| ((b3 &&& (255 : Int32)).toInt64))
theorem own_p0 {j : Int32} {n : Nat} (e : j.toInt = n) (h : n < 1000) : (j + (0 : Int32)).toInt = (n : Nat) := by
  have h1 := c_iadd j 0
  have h2 := rng32 (j + 0)
  have e1 : (0 : Int32).toInt = 0 := by decide
  omega
theorem own_d5_0 : decode prog_32_method_6_code 0 = .ok (.lconst 0, 1) := by decide +kernel
theorem own_d5_1 : decode prog_32_method_6_code 1 = .ok (.lstore_n 1, 1) := by decide +kernel
theorem own_d5_2 : decode prog_32_method_6_code 2 = .ok (.aload_n 0, 1) := by decide +kernel
theorem own_d5_3 : decode prog_32_method_6_code 3 = .ok (.getfield 9, 3) := by decide +kernel
theorem own_d5_6 : decode prog_32_method_6_code 6 = .ok (.aload_n 0, 1) := by decide +kernel
theorem own_d5_7 : decode prog_32_method_6_code 7 = .ok (.getfield 26, 3) := by decide +kernel
theorem own_d5_10 : decode prog_32_method_6_code 10 = .ok (.iadd, 1) := by decide +kernel
theorem own_d5_11 : decode prog_32_method_6_code 11 = .ok (.istore_n 3, 1) := by decide +kernel
theorem own_d5_12 : decode prog_32_method_6_code 12 = .ok (.iconst 0, 1) := by decide +kernel
theorem own_d5_13 : decode prog_32_method_6_code 13 = .ok (.istore 4, 2) := by decide +kernel
theorem own_d5_15 : decode prog_32_method_6_code 15 = .ok (.iload 4, 2) := by decide +kernel
theorem own_d5_17 : decode prog_32_method_6_code 17 = .ok (.iconst 4, 1) := by decide +kernel
theorem own_d5_18 : decode prog_32_method_6_code 18 = .ok (.if_icmp .ge 29, 3) := by decide +kernel
theorem own_d5_21 : decode prog_32_method_6_code 21 = .ok (.lload_n 1, 1) := by decide +kernel
theorem own_d5_22 : decode prog_32_method_6_code 22 = .ok (.bipush 8, 2) := by decide +kernel
theorem own_d5_24 : decode prog_32_method_6_code 24 = .ok (.lshl, 1) := by decide +kernel
theorem own_d5_25 : decode prog_32_method_6_code 25 = .ok (.aload_n 0, 1) := by decide +kernel
theorem own_d5_26 : decode prog_32_method_6_code 26 = .ok (.getfield 15, 3) := by decide +kernel
theorem own_d5_29 : decode prog_32_method_6_code 29 = .ok (.iload_n 3, 1) := by decide +kernel
theorem own_d5_30 : decode prog_32_method_6_code 30 = .ok (.iload 4, 2) := by decide +kernel
theorem own_d5_32 : decode prog_32_method_6_code 32 = .ok (.iadd, 1) := by decide +kernel
theorem own_d5_33 : decode prog_32_method_6_code 33 = .ok (.baload, 1) := by decide +kernel
theorem own_d5_34 : decode prog_32_method_6_code 34 = .ok (.sipush 255, 3) := by decide +kernel
theorem own_d5_37 : decode prog_32_method_6_code 37 = .ok (.iand, 1) := by decide +kernel
theorem own_d5_38 : decode prog_32_method_6_code 38 = .ok (.i2l, 1) := by decide +kernel
theorem own_d5_39 : decode prog_32_method_6_code 39 = .ok (.lor, 1) := by decide +kernel
theorem own_d5_40 : decode prog_32_method_6_code 40 = .ok (.lstore_n 1, 1) := by decide +kernel
theorem own_d5_41 : decode prog_32_method_6_code 41 = .ok (.iinc 4 1, 3) := by decide +kernel
theorem own_d5_44 : decode prog_32_method_6_code 44 = .ok (.goto (-29), 3) := by decide +kernel
theorem own_d5_47 : decode prog_32_method_6_code 47 = .ok (.lload_n 1, 1) := by decide +kernel
theorem own_d5_48 : decode prog_32_method_6_code 48 = .ok (.lreturn, 1) := by decide +kernel
theorem ef_ts (m : MethodId) (r0 : Addr) : entryFrame m #[(.ref r0)] 5 = mkF m 0 #[.val (.ref r0), .unset, .unset, .unset, .unset] [] := by first | (simp [entryFrame, mkF, argsToLocals, Value.category]; done) | rfl
def Q_ts (Z : State) (r0 : Addr) (ar : Addr) (f : Nat → Int32) (n : Nat) (se : Int32) (sl : Int32) (h0 : Heap) (n0 : Nat) (v : Option Value) (h : Heap) (L : List Loc) : Prop := v = some (.long (own_ts (f n) (f (n + 1)) (f (n + 2)) (f (n + 3)))) ∧ Fr n0 L ∧ h = h0
set_option maxRecDepth 65536 in
set_option maxHeartbeats 40000000 in
theorem rm_ts (l : Launch) (Z : State) (a0 : Array Value) (hw : ∀ d ∈ tables_1, d.before a0 Z = true) (ws : List Jvm.Cond) (r0 : Addr) (ar : Addr) (f : Nat → Int32) (n : Nat) (se : Int32) (sl : Int32) (h0 : Heap) (n0 : Nat) (Z0 : n0 ≤ h0.size) (Y0 : Byt Z h0 ar f) (hn : (se + sl).toInt = (n : Int)) (hn2 : n + 3 < 72) (F_record : Fld Z h0 r0 "com/example/kest/kest/codec/PointLog$Reader" "record" "[B" (.ref ar)) (F_series : Fld Z h0 r0 "com/example/kest/kest/codec/PointLog$Reader" "series" "I" (.int se)) (F_seriesLength : Fld Z h0 r0 "com/example/kest/kest/codec/PointLog$Reader" "seriesLength" "I" (.int sl)) :
    MetFree l (⟨"com/example/kest/kest/codec/PointLog$Reader", "timestamp", "()J"⟩ : MethodName) (head1 (Jvm.Cond.code (⟨"com/example/kest/kest/codec/PointLog$Reader", "timestamp", "()J"⟩ : MethodName) prog_32_method_6_code 5 (some .long) :: ws) ({ frames := 0, cells := 0, slots := 0, locals := 0 } : Room)) (fun a U => a = #[(.ref r0)] ∧ Z.Warmed39 U.vm ∧ U.heap = h0) (fun _ _ _ _ _ => True) (fun _ U o U' => ∃ v L, o = .returned v ∧ Q_ts Z r0 ar f n se sl h0 n0 v U'.heap L ∧ FrameEnd U o U' L ({ frames := 0, cells := 0, slots := 0, locals := 0 } : Room).cells ({ frames := 0, cells := 0, slots := 0, locals := 0 } : Room).slots) := by
  refine MetFree.of_bodySF (plainFor_of_name own_pn1) hisR ?_
  intro p e s m args below meth c s₁ Bd hml0 hP hK
  obtain ⟨rfl, hZ, hh⟩ := hP
  have hx := Bd.exec
  have hby := Bd.bytes
  have hml : c.maxLocals = 5 := hml0
  have hown : s.vm.findClass "com/example/kest/kest/codec/PointLog$Reader" = some m.cls := findClass_of_methodNamed Bd.named
  have hnm := (name_of_methodNamed Bd.named Bd.method).1
  have X0 : Stand p l e ({ frames := 0, cells := 0, slots := 0, locals := 0 } : Room) s m #[(.ref r0)] below meth c s₁ [] 0 0 := Stand.of_body Bd
  have e0 : s₁.heap = h0 := by rw [← hh, Bd.state]; rfl
  have N0 := Fr.nil n0
  have pre0 : ∀ t, Steps p.tables e below (s₁.setTop (mkF m 0 #[.val (.ref r0), .unset, .unset, .unset, .unset] [])) t → Steps p.tables e below (s₁.setTop (entryFrame m #[(.ref r0)] 5)) t := fun t k => castTop (ef_ts m r0) k
  obtain ⟨T1, X1, e1, st1⟩ := getF X0 hx hZ hown (host := "") (Or.inl (hw _ (List.mem_of_getElem? (i := 14) rfl))) Via.refl e0 F_series (g := (mkF m 3 #[.val (.ref r0), .val (.long (0 : Int64)), .second, .unset, .unset] [(.ref r0)])) rfl rfl (hb hby own_d5_3)
  obtain ⟨T2, X2, e2, st2⟩ := getF X1 hx hZ hown (host := "") (Or.inl (hw _ (List.mem_of_getElem? (i := 25) rfl))) Via.refl e1 F_seriesLength (g := (mkF m 7 #[.val (.ref r0), .val (.long (0 : Int64)), .second, .unset, .unset] [(.ref r0), (.int se)])) rfl rfl (hb hby own_d5_7)
  obtain ⟨T3, X3, e3, st3⟩ := getF X2 hx hZ hown (host := "") (Or.inl (hw _ (List.mem_of_getElem? (i := 16) rfl))) Via.refl e2 F_record (g := (mkF m 26 #[.val (.ref r0), .val (.long (0 : Int64)), .second, .val (.int (se + sl)), .val (.int (0 : Int32))] [(.ref r0), (.long ((0 : Int64) <<< ((8 : Int32) &&& 0x3f).toInt64))])) rfl rfl (hb hby own_d5_26)
  obtain ⟨cl4, Ar4, S4, H4⟩ := id Y0
  have hin5 : ¬ (((se + sl) + (0 : Int32)) < 0 ∨ cl4.slots.size ≤ (((se + sl) + (0 : Int32))).toNatClampNeg) := own_in S4 n (own_p0 hn (by omega)) (by omega)
  have hat5 : cl4.slots[(((se + sl) + (0 : Int32))).toNatClampNeg]? = some (.int (f n)) := by rw [own_nc n (own_p0 hn (by omega))]; exact H4 _ (by omega)
  obtain ⟨T6, X6, e6, st6⟩ := getF X3 hx hZ hown (host := "") (Or.inl (hw _ (List.mem_of_getElem? (i := 16) rfl))) Via.refl e3 F_record (g := (mkF m 26 #[.val (.ref r0), .val (.long (((0 : Int64) <<< ((8 : Int32) &&& 0x3f).toInt64) ||| (((f n) &&& (255 : Int32)).toInt64))), .second, .val (.int (se + sl)), .val (.int (1 : Int32))] [(.ref r0), (.long ((((0 : Int64) <<< ((8 : Int32) &&& 0x3f).toInt64) ||| (((f n) &&& (255 : Int32)).toInt64)) <<< ((8 : Int32) &&& 0x3f).toInt64))])) rfl rfl (hb hby own_d5_26)
  obtain ⟨cl7, Ar7, S7, H7⟩ := id Y0
  have hin8 : ¬ (((se + sl) + (1 : Int32)) < 0 ∨ cl7.slots.size ≤ (((se + sl) + (1 : Int32))).toNatClampNeg) := own_in S7 (n + 1) (own_p1 hn (by omega)) (by omega)
  have hat8 : cl7.slots[(((se + sl) + (1 : Int32))).toNatClampNeg]? = some (.int (f (n + 1))) := by rw [own_nc (n + 1) (own_p1 hn (by omega))]; exact H7 _ (by omega)
  obtain ⟨T9, X9, e9, st9⟩ := getF X6 hx hZ hown (host := "") (Or.inl (hw _ (List.mem_of_getElem? (i := 16) rfl))) Via.refl e6 F_record (g := (mkF m 26 #[.val (.ref r0), .val (.long (((((0 : Int64) <<< ((8 : Int32) &&& 0x3f).toInt64) ||| (((f n) &&& (255 : Int32)).toInt64)) <<< ((8 : Int32) &&& 0x3f).toInt64) ||| (((f (n + 1)) &&& (255 : Int32)).toInt64))), .second, .val (.int (se + sl)), .val (.int (2 : Int32))] [(.ref r0), (.long ((((((0 : Int64) <<< ((8 : Int32) &&& 0x3f).toInt64) ||| (((f n) &&& (255 : Int32)).toInt64)) <<< ((8 : Int32) &&& 0x3f).toInt64) ||| (((f (n + 1)) &&& (255 : Int32)).toInt64)) <<< ((8 : Int32) &&& 0x3f).toInt64))])) rfl rfl (hb hby own_d5_26)
  obtain ⟨cl10, Ar10, S10, H10⟩ := id Y0
  have hin11 : ¬ (((se + sl) + (2 : Int32)) < 0 ∨ cl10.slots.size ≤ (((se + sl) + (2 : Int32))).toNatClampNeg) := own_in S10 (n + 2) (own_p2 hn (by omega)) (by omega)
  have hat11 : cl10.slots[(((se + sl) + (2 : Int32))).toNatClampNeg]? = some (.int (f (n + 2))) := by rw [own_nc (n + 2) (own_p2 hn (by omega))]; exact H10 _ (by omega)
  obtain ⟨T12, X12, e12, st12⟩ := getF X9 hx hZ hown (host := "") (Or.inl (hw _ (List.mem_of_getElem? (i := 16) rfl))) Via.refl e9 F_record (g := (mkF m 26 #[.val (.ref r0), .val (.long (((((((0 : Int64) <<< ((8 : Int32) &&& 0x3f).toInt64) ||| (((f n) &&& (255 : Int32)).toInt64)) <<< ((8 : Int32) &&& 0x3f).toInt64) ||| (((f (n + 1)) &&& (255 : Int32)).toInt64)) <<< ((8 : Int32) &&& 0x3f).toInt64) ||| (((f (n + 2)) &&& (255 : Int32)).toInt64))), .second, .val (.int (se + sl)), .val (.int (3 : Int32))] [(.ref r0), (.long ((((((((0 : Int64) <<< ((8 : Int32) &&& 0x3f).toInt64) ||| (((f n) &&& (255 : Int32)).toInt64)) <<< ((8 : Int32) &&& 0x3f).toInt64) ||| (((f (n + 1)) &&& (255 : Int32)).toInt64)) <<< ((8 : Int32) &&& 0x3f).toInt64) ||| (((f (n + 2)) &&& (255 : Int32)).toInt64)) <<< ((8 : Int32) &&& 0x3f).toInt64))])) rfl rfl (hb hby own_d5_26)
  obtain ⟨cl13, Ar13, S13, H13⟩ := id Y0
  have hin14 : ¬ (((se + sl) + (3 : Int32)) < 0 ∨ cl13.slots.size ≤ (((se + sl) + (3 : Int32))).toNatClampNeg) := own_in S13 (n + 3) (own_p3 hn (by omega)) (by omega)
  have hat14 : cl13.slots[(((se + sl) + (3 : Int32))).toNatClampNeg]? = some (.int (f (n + 3))) := by rw [own_nc (n + 3) (own_p3 hn (by omega))]; exact H13 _ (by omega)
  obtain ⟨fs, hr, hrun, hended, hW, hsame⟩ := X12.leave (v := some (.long (((((((((0 : Int64) <<< ((8 : Int32) &&& 0x3f).toInt64) ||| (((f n) &&& (255 : Int32)).toInt64)) <<< ((8 : Int32) &&& 0x3f).toInt64) ||| (((f (n + 1)) &&& (255 : Int32)).toInt64)) <<< ((8 : Int32) &&& 0x3f).toInt64) ||| (((f (n + 2)) &&& (255 : Int32)).toInt64)) <<< ((8 : Int32) &&& 0x3f).toInt64) ||| (((f (n + 3)) &&& (255 : Int32)).toInt64)))) (fun h => by rw [Bd.returns] at h; cases h)
  refine ⟨_, _, pre0 _ ?_, hrun, hended, _, _, rfl, ?_, ⟨_, rfl⟩, hW, hsame.mono (by decide) (by decide)⟩
  · show Steps p.tables e below (s₁.setTop (mkF m 0 #[.val (.ref r0), .unset, .unset, .unset, .unset] [])) _
    refine XS.lconst X0.here hx rfl (hb hby own_d5_0) ?_
    show Steps p.tables e below (s₁.setTop (mkF m 1 #[.val (.ref r0), .unset, .unset, .unset, .unset] [(.long (0 : Int64))])) _
    refine XS.lstoreN X0.here hx rfl (hb hby own_d5_1) rfl (l' := #[.val (.ref r0), .val (.long (0 : Int64)), .second, .unset, .unset]) rfl ?_
    show Steps p.tables e below (s₁.setTop (mkF m 2 #[.val (.ref r0), .val (.long (0 : Int64)), .second, .unset, .unset] [])) _
    refine XS.aloadN X0.here hx rfl (hb hby own_d5_2) rfl rfl ?_
    show Steps p.tables e below (s₁.setTop (mkF m 3 #[.val (.ref r0), .val (.long (0 : Int64)), .second, .unset, .unset] [(.ref r0)])) _
    refine st1 _ ?_
    show Steps p.tables e below (T1.setTop (mkF m 6 #[.val (.ref r0), .val (.long (0 : Int64)), .second, .unset, .unset] [(.int se)])) _
    refine XS.aloadN X1.here hx rfl (hb hby own_d5_6) rfl rfl ?_
    show Steps p.tables e below (T1.setTop (mkF m 7 #[.val (.ref r0), .val (.long (0 : Int64)), .second, .unset, .unset] [(.ref r0), (.int se)])) _
    refine st2 _ ?_
    show Steps p.tables e below (T2.setTop (mkF m 10 #[.val (.ref r0), .val (.long (0 : Int64)), .second, .unset, .unset] [(.int sl), (.int se)])) _
    refine XS.iadd X2.here hx rfl (hb hby own_d5_10) rfl ?_
    show Steps p.tables e below (T2.setTop (mkF m 11 #[.val (.ref r0), .val (.long (0 : Int64)), .second, .unset, .unset] [(.int (se + sl))])) _
    refine XS.istoreN X2.here hx rfl (hb hby own_d5_11) rfl (l' := #[.val (.ref r0), .val (.long (0 : Int64)), .second, .val (.int (se + sl)), .unset]) rfl ?_
    show Steps p.tables e below (T2.setTop (mkF m 12 #[.val (.ref r0), .val (.long (0 : Int64)), .second, .val (.int (se + sl)), .unset] [])) _
    refine XS.iconst X2.here hx rfl (hb hby own_d5_12) ?_
    show Steps p.tables e below (T2.setTop (mkF m 13 #[.val (.ref r0), .val (.long (0 : Int64)), .second, .val (.int (se + sl)), .unset] [(.int (0 : Int32))])) _
    refine XS.istore X2.here hx rfl (hb hby own_d5_13) rfl (l' := #[.val (.ref r0), .val (.long (0 : Int64)), .second, .val (.int (se + sl)), .val (.int (0 : Int32))]) rfl ?_
    show Steps p.tables e below (T2.setTop (mkF m 15 #[.val (.ref r0), .val (.long (0 : Int64)), .second, .val (.int (se + sl)), .val (.int (0 : Int32))] [])) _
    refine XS.iload X2.here hx rfl (hb hby own_d5_15) rfl ?_
    show Steps p.tables e below (T2.setTop (mkF m 17 #[.val (.ref r0), .val (.long (0 : Int64)), .second, .val (.int (se + sl)), .val (.int (0 : Int32))] [(.int (0 : Int32))])) _
    refine XS.iconst X2.here hx rfl (hb hby own_d5_17) ?_
    show Steps p.tables e below (T2.setTop (mkF m 18 #[.val (.ref r0), .val (.long (0 : Int64)), .second, .val (.int (se + sl)), .val (.int (0 : Int32))] [(.int (4 : Int32)), (.int (0 : Int32))])) _
    refine XS.icmpNo X2.here hx rfl (hb hby own_d5_18) rfl (tlt (by decide : (0 : Int32) < (4 : Int32))).2.1 ?_
    show Steps p.tables e below (T2.setTop (mkF m 21 #[.val (.ref r0), .val (.long (0 : Int64)), .second, .val (.int (se + sl)), .val (.int (0 : Int32))] [])) _
    refine XS.lloadN X2.here hx rfl (hb hby own_d5_21) rfl ?_
    show Steps p.tables e below (T2.setTop (mkF m 22 #[.val (.ref r0), .val (.long (0 : Int64)), .second, .val (.int (se + sl)), .val (.int (0 : Int32))] [(.long (0 : Int64))])) _
    refine XS.bipush X2.here hx rfl (hb hby own_d5_22) ?_
    show Steps p.tables e below (T2.setTop (mkF m 24 #[.val (.ref r0), .val (.long (0 : Int64)), .second, .val (.int (se + sl)), .val (.int (0 : Int32))] [(.int (8 : Int32)), (.long (0 : Int64))])) _
    refine XS.lshl X2.here hx rfl (hb hby own_d5_24) rfl ?_
    show Steps p.tables e below (T2.setTop (mkF m 25 #[.val (.ref r0), .val (.long (0 : Int64)), .second, .val (.int (se + sl)), .val (.int (0 : Int32))] [(.long ((0 : Int64) <<< ((8 : Int32) &&& 0x3f).toInt64))])) _
    refine XS.aloadN X2.here hx rfl (hb hby own_d5_25) rfl rfl ?_
    show Steps p.tables e below (T2.setTop (mkF m 26 #[.val (.ref r0), .val (.long (0 : Int64)), .second, .val (.int (se + sl)), .val (.int (0 : Int32))] [(.ref r0), (.long ((0 : Int64) <<< ((8 : Int32) &&& 0x3f).toInt64))])) _
    refine st3 _ ?_
    show Steps p.tables e below (T3.setTop (mkF m 29 #[.val (.ref r0), .val (.long (0 : Int64)), .second, .val (.int (se + sl)), .val (.int (0 : Int32))] [(.ref ar), (.long ((0 : Int64) <<< ((8 : Int32) &&& 0x3f).toInt64))])) _
    refine XS.iloadN X3.here hx rfl (hb hby own_d5_29) rfl ?_
    show Steps p.tables e below (T3.setTop (mkF m 30 #[.val (.ref r0), .val (.long (0 : Int64)), .second, .val (.int (se + sl)), .val (.int (0 : Int32))] [(.int (se + sl)), (.ref ar), (.long ((0 : Int64) <<< ((8 : Int32) &&& 0x3f).toInt64))])) _
    refine XS.iload X3.here hx rfl (hb hby own_d5_30) rfl ?_
    show Steps p.tables e below (T3.setTop (mkF m 32 #[.val (.ref r0), .val (.long (0 : Int64)), .second, .val (.int (se + sl)), .val (.int (0 : Int32))] [(.int (0 : Int32)), (.int (se + sl)), (.ref ar), (.long ((0 : Int64) <<< ((8 : Int32) &&& 0x3f).toInt64))])) _
    refine XS.iadd X3.here hx rfl (hb hby own_d5_32) rfl ?_
    show Steps p.tables e below (T3.setTop (mkF m 33 #[.val (.ref r0), .val (.long (0 : Int64)), .second, .val (.int (se + sl)), .val (.int (0 : Int32))] [(.int ((se + sl) + (0 : Int32))), (.ref ar), (.long ((0 : Int64) <<< ((8 : Int32) &&& 0x3f).toInt64))])) _
    refine X3.baloadBytes hx (j := ((se + sl) + (0 : Int32))) (v := (.int (f n))) (by rw [e3]; exact Ar4.1) (State.isArrayOf_alike hZ.alike Ar4.2.1) Ar4.2.2 hin5 hat5 (g := (mkF m 33 #[.val (.ref r0), .val (.long (0 : Int64)), .second, .val (.int (se + sl)), .val (.int (0 : Int32))] [(.int ((se + sl) + (0 : Int32))), (.ref ar), (.long ((0 : Int64) <<< ((8 : Int32) &&& 0x3f).toInt64))])) rfl rfl (hb hby own_d5_33) _ ?_
    show Steps p.tables e below (T3.setTop (mkF m 34 #[.val (.ref r0), .val (.long (0 : Int64)), .second, .val (.int (se + sl)), .val (.int (0 : Int32))] [(.int (f n)), (.long ((0 : Int64) <<< ((8 : Int32) &&& 0x3f).toInt64))])) _
    refine XS.sipush X3.here hx rfl (hb hby own_d5_34) ?_
    show Steps p.tables e below (T3.setTop (mkF m 37 #[.val (.ref r0), .val (.long (0 : Int64)), .second, .val (.int (se + sl)), .val (.int (0 : Int32))] [(.int (255 : Int32)), (.int (f n)), (.long ((0 : Int64) <<< ((8 : Int32) &&& 0x3f).toInt64))])) _
    refine XS.iand X3.here hx rfl (hb hby own_d5_37) rfl ?_
    show Steps p.tables e below (T3.setTop (mkF m 38 #[.val (.ref r0), .val (.long (0 : Int64)), .second, .val (.int (se + sl)), .val (.int (0 : Int32))] [(.int ((f n) &&& (255 : Int32))), (.long ((0 : Int64) <<< ((8 : Int32) &&& 0x3f).toInt64))])) _
    refine XS.i2l X3.here hx rfl (hb hby own_d5_38) rfl ?_
    show Steps p.tables e below (T3.setTop (mkF m 39 #[.val (.ref r0), .val (.long (0 : Int64)), .second, .val (.int (se + sl)), .val (.int (0 : Int32))] [(.long (((f n) &&& (255 : Int32)).toInt64)), (.long ((0 : Int64) <<< ((8 : Int32) &&& 0x3f).toInt64))])) _
    refine XS.lor X3.here hx rfl (hb hby own_d5_39) rfl ?_
    show Steps p.tables e below (T3.setTop (mkF m 40 #[.val (.ref r0), .val (.long (0 : Int64)), .second, .val (.int (se + sl)), .val (.int (0 : Int32))] [(.long (((0 : Int64) <<< ((8 : Int32) &&& 0x3f).toInt64) ||| (((f n) &&& (255 : Int32)).toInt64)))])) _
    refine XS.lstoreN X3.here hx rfl (hb hby own_d5_40) rfl (l' := #[.val (.ref r0), .val (.long (((0 : Int64) <<< ((8 : Int32) &&& 0x3f).toInt64) ||| (((f n) &&& (255 : Int32)).toInt64))), .second, .val (.int (se + sl)), .val (.int (0 : Int32))]) rfl ?_
    show Steps p.tables e below (T3.setTop (mkF m 41 #[.val (.ref r0), .val (.long (((0 : Int64) <<< ((8 : Int32) &&& 0x3f).toInt64) ||| (((f n) &&& (255 : Int32)).toInt64))), .second, .val (.int (se + sl)), .val (.int (0 : Int32))] [])) _
    refine XS.iinc X3.here hx rfl (hb hby own_d5_41) rfl (l' := #[.val (.ref r0), .val (.long (((0 : Int64) <<< ((8 : Int32) &&& 0x3f).toInt64) ||| (((f n) &&& (255 : Int32)).toInt64))), .second, .val (.int (se + sl)), .val (.int (1 : Int32))]) rfl ?_
    show Steps p.tables e below (T3.setTop (mkF m 44 #[.val (.ref r0), .val (.long (((0 : Int64) <<< ((8 : Int32) &&& 0x3f).toInt64) ||| (((f n) &&& (255 : Int32)).toInt64))), .second, .val (.int (se + sl)), .val (.int (1 : Int32))] [])) _
    refine XS.goto X3.here hx rfl (pc0 := 44) (pc' := 15) rfl (hb hby own_d5_44) (by decide) (by decide) ?_
    show Steps p.tables e below (T3.setTop (mkF m 15 #[.val (.ref r0), .val (.long (((0 : Int64) <<< ((8 : Int32) &&& 0x3f).toInt64) ||| (((f n) &&& (255 : Int32)).toInt64))), .second, .val (.int (se + sl)), .val (.int (1 : Int32))] [])) _
    refine XS.iload X3.here hx rfl (hb hby own_d5_15) rfl ?_
    show Steps p.tables e below (T3.setTop (mkF m 17 #[.val (.ref r0), .val (.long (((0 : Int64) <<< ((8 : Int32) &&& 0x3f).toInt64) ||| (((f n) &&& (255 : Int32)).toInt64))), .second, .val (.int (se + sl)), .val (.int (1 : Int32))] [(.int (1 : Int32))])) _
    refine XS.iconst X3.here hx rfl (hb hby own_d5_17) ?_
    show Steps p.tables e below (T3.setTop (mkF m 18 #[.val (.ref r0), .val (.long (((0 : Int64) <<< ((8 : Int32) &&& 0x3f).toInt64) ||| (((f n) &&& (255 : Int32)).toInt64))), .second, .val (.int (se + sl)), .val (.int (1 : Int32))] [(.int (4 : Int32)), (.int (1 : Int32))])) _
    refine XS.icmpNo X3.here hx rfl (hb hby own_d5_18) rfl (tlt (by decide : (1 : Int32) < (4 : Int32))).2.1 ?_
    show Steps p.tables e below (T3.setTop (mkF m 21 #[.val (.ref r0), .val (.long (((0 : Int64) <<< ((8 : Int32) &&& 0x3f).toInt64) ||| (((f n) &&& (255 : Int32)).toInt64))), .second, .val (.int (se + sl)), .val (.int (1 : Int32))] [])) _
    refine XS.lloadN X3.here hx rfl (hb hby own_d5_21) rfl ?_
    show Steps p.tables e below (T3.setTop (mkF m 22 #[.val (.ref r0), .val (.long (((0 : Int64) <<< ((8 : Int32) &&& 0x3f).toInt64) ||| (((f n) &&& (255 : Int32)).toInt64))), .second, .val (.int (se + sl)), .val (.int (1 : Int32))] [(.long (((0 : Int64) <<< ((8 : Int32) &&& 0x3f).toInt64) ||| (((f n) &&& (255 : Int32)).toInt64)))])) _
    refine XS.bipush X3.here hx rfl (hb hby own_d5_22) ?_
    show Steps p.tables e below (T3.setTop (mkF m 24 #[.val (.ref r0), .val (.long (((0 : Int64) <<< ((8 : Int32) &&& 0x3f).toInt64) ||| (((f n) &&& (255 : Int32)).toInt64))), .second, .val (.int (se + sl)), .val (.int (1 : Int32))] [(.int (8 : Int32)), (.long (((0 : Int64) <<< ((8 : Int32) &&& 0x3f).toInt64) ||| (((f n) &&& (255 : Int32)).toInt64)))])) _
    refine XS.lshl X3.here hx rfl (hb hby own_d5_24) rfl ?_
    show Steps p.tables e below (T3.setTop (mkF m 25 #[.val (.ref r0), .val (.long (((0 : Int64) <<< ((8 : Int32) &&& 0x3f).toInt64) ||| (((f n) &&& (255 : Int32)).toInt64))), .second, .val (.int (se + sl)), .val (.int (1 : Int32))] [(.long ((((0 : Int64) <<< ((8 : Int32) &&& 0x3f).toInt64) ||| (((f n) &&& (255 : Int32)).toInt64)) <<< ((8 : Int32) &&& 0x3f).toInt64))])) _
    refine XS.aloadN X3.here hx rfl (hb hby own_d5_25) rfl rfl ?_
    show Steps p.tables e below (T3.setTop (mkF m 26 #[.val (.ref r0), .val (.long (((0 : Int64) <<< ((8 : Int32) &&& 0x3f).toInt64) ||| (((f n) &&& (255 : Int32)).toInt64))), .second, .val (.int (se + sl)), .val (.int (1 : Int32))] [(.ref r0), (.long ((((0 : Int64) <<< ((8 : Int32) &&& 0x3f).toInt64) ||| (((f n) &&& (255 : Int32)).toInt64)) <<< ((8 : Int32) &&& 0x3f).toInt64))])) _
    refine st6 _ ?_
    show Steps p.tables e below (T6.setTop (mkF m 29 #[.val (.ref r0), .val (.long (((0 : Int64) <<< ((8 : Int32) &&& 0x3f).toInt64) ||| (((f n) &&& (255 : Int32)).toInt64))), .second, .val (.int (se + sl)), .val (.int (1 : Int32))] [(.ref ar), (.long ((((0 : Int64) <<< ((8 : Int32) &&& 0x3f).toInt64) ||| (((f n) &&& (255 : Int32)).toInt64)) <<< ((8 : Int32) &&& 0x3f).toInt64))])) _
    refine XS.iloadN X6.here hx rfl (hb hby own_d5_29) rfl ?_
    show Steps p.tables e below (T6.setTop (mkF m 30 #[.val (.ref r0), .val (.long (((0 : Int64) <<< ((8 : Int32) &&& 0x3f).toInt64) ||| (((f n) &&& (255 : Int32)).toInt64))), .second, .val (.int (se + sl)), .val (.int (1 : Int32))] [(.int (se + sl)), (.ref ar), (.long ((((0 : Int64) <<< ((8 : Int32) &&& 0x3f).toInt64) ||| (((f n) &&& (255 : Int32)).toInt64)) <<< ((8 : Int32) &&& 0x3f).toInt64))])) _
    refine XS.iload X6.here hx rfl (hb hby own_d5_30) rfl ?_
    show Steps p.tables e below (T6.setTop (mkF m 32 #[.val (.ref r0), .val (.long (((0 : Int64) <<< ((8 : Int32) &&& 0x3f).toInt64) ||| (((f n) &&& (255 : Int32)).toInt64))), .second, .val (.int (se + sl)), .val (.int (1 : Int32))] [(.int (1 : Int32)), (.int (se + sl)), (.ref ar), (.long ((((0 : Int64) <<< ((8 : Int32) &&& 0x3f).toInt64) ||| (((f n) &&& (255 : Int32)).toInt64)) <<< ((8 : Int32) &&& 0x3f).toInt64))])) _
    refine XS.iadd X6.here hx rfl (hb hby own_d5_32) rfl ?_
    show Steps p.tables e below (T6.setTop (mkF m 33 #[.val (.ref r0), .val (.long (((0 : Int64) <<< ((8 : Int32) &&& 0x3f).toInt64) ||| (((f n) &&& (255 : Int32)).toInt64))), .second, .val (.int (se + sl)), .val (.int (1 : Int32))] [(.int ((se + sl) + (1 : Int32))), (.ref ar), (.long ((((0 : Int64) <<< ((8 : Int32) &&& 0x3f).toInt64) ||| (((f n) &&& (255 : Int32)).toInt64)) <<< ((8 : Int32) &&& 0x3f).toInt64))])) _
    refine X6.baloadBytes hx (j := ((se + sl) + (1 : Int32))) (v := (.int (f (n + 1)))) (by rw [e6]; exact Ar7.1) (State.isArrayOf_alike hZ.alike Ar7.2.1) Ar7.2.2 hin8 hat8 (g := (mkF m 33 #[.val (.ref r0), .val (.long (((0 : Int64) <<< ((8 : Int32) &&& 0x3f).toInt64) ||| (((f n) &&& (255 : Int32)).toInt64))), .second, .val (.int (se + sl)), .val (.int (1 : Int32))] [(.int ((se + sl) + (1 : Int32))), (.ref ar), (.long ((((0 : Int64) <<< ((8 : Int32) &&& 0x3f).toInt64) ||| (((f n) &&& (255 : Int32)).toInt64)) <<< ((8 : Int32) &&& 0x3f).toInt64))])) rfl rfl (hb hby own_d5_33) _ ?_
    show Steps p.tables e below (T6.setTop (mkF m 34 #[.val (.ref r0), .val (.long (((0 : Int64) <<< ((8 : Int32) &&& 0x3f).toInt64) ||| (((f n) &&& (255 : Int32)).toInt64))), .second, .val (.int (se + sl)), .val (.int (1 : Int32))] [(.int (f (n + 1))), (.long ((((0 : Int64) <<< ((8 : Int32) &&& 0x3f).toInt64) ||| (((f n) &&& (255 : Int32)).toInt64)) <<< ((8 : Int32) &&& 0x3f).toInt64))])) _
    refine XS.sipush X6.here hx rfl (hb hby own_d5_34) ?_
    show Steps p.tables e below (T6.setTop (mkF m 37 #[.val (.ref r0), .val (.long (((0 : Int64) <<< ((8 : Int32) &&& 0x3f).toInt64) ||| (((f n) &&& (255 : Int32)).toInt64))), .second, .val (.int (se + sl)), .val (.int (1 : Int32))] [(.int (255 : Int32)), (.int (f (n + 1))), (.long ((((0 : Int64) <<< ((8 : Int32) &&& 0x3f).toInt64) ||| (((f n) &&& (255 : Int32)).toInt64)) <<< ((8 : Int32) &&& 0x3f).toInt64))])) _
    refine XS.iand X6.here hx rfl (hb hby own_d5_37) rfl ?_
    show Steps p.tables e below (T6.setTop (mkF m 38 #[.val (.ref r0), .val (.long (((0 : Int64) <<< ((8 : Int32) &&& 0x3f).toInt64) ||| (((f n) &&& (255 : Int32)).toInt64))), .second, .val (.int (se + sl)), .val (.int (1 : Int32))] [(.int ((f (n + 1)) &&& (255 : Int32))), (.long ((((0 : Int64) <<< ((8 : Int32) &&& 0x3f).toInt64) ||| (((f n) &&& (255 : Int32)).toInt64)) <<< ((8 : Int32) &&& 0x3f).toInt64))])) _
    refine XS.i2l X6.here hx rfl (hb hby own_d5_38) rfl ?_
    show Steps p.tables e below (T6.setTop (mkF m 39 #[.val (.ref r0), .val (.long (((0 : Int64) <<< ((8 : Int32) &&& 0x3f).toInt64) ||| (((f n) &&& (255 : Int32)).toInt64))), .second, .val (.int (se + sl)), .val (.int (1 : Int32))] [(.long (((f (n + 1)) &&& (255 : Int32)).toInt64)), (.long ((((0 : Int64) <<< ((8 : Int32) &&& 0x3f).toInt64) ||| (((f n) &&& (255 : Int32)).toInt64)) <<< ((8 : Int32) &&& 0x3f).toInt64))])) _
    refine XS.lor X6.here hx rfl (hb hby own_d5_39) rfl ?_
    show Steps p.tables e below (T6.setTop (mkF m 40 #[.val (.ref r0), .val (.long (((0 : Int64) <<< ((8 : Int32) &&& 0x3f).toInt64) ||| (((f n) &&& (255 : Int32)).toInt64))), .second, .val (.int (se + sl)), .val (.int (1 : Int32))] [(.long (((((0 : Int64) <<< ((8 : Int32) &&& 0x3f).toInt64) ||| (((f n) &&& (255 : Int32)).toInt64)) <<< ((8 : Int32) &&& 0x3f).toInt64) ||| (((f (n + 1)) &&& (255 : Int32)).toInt64)))])) _
    refine XS.lstoreN X6.here hx rfl (hb hby own_d5_40) rfl (l' := #[.val (.ref r0), .val (.long (((((0 : Int64) <<< ((8 : Int32) &&& 0x3f).toInt64) ||| (((f n) &&& (255 : Int32)).toInt64)) <<< ((8 : Int32) &&& 0x3f).toInt64) ||| (((f (n + 1)) &&& (255 : Int32)).toInt64))), .second, .val (.int (se + sl)), .val (.int (1 : Int32))]) rfl ?_
    show Steps p.tables e below (T6.setTop (mkF m 41 #[.val (.ref r0), .val (.long (((((0 : Int64) <<< ((8 : Int32) &&& 0x3f).toInt64) ||| (((f n) &&& (255 : Int32)).toInt64)) <<< ((8 : Int32) &&& 0x3f).toInt64) ||| (((f (n + 1)) &&& (255 : Int32)).toInt64))), .second, .val (.int (se + sl)), .val (.int (1 : Int32))] [])) _
    refine XS.iinc X6.here hx rfl (hb hby own_d5_41) rfl (l' := #[.val (.ref r0), .val (.long (((((0 : Int64) <<< ((8 : Int32) &&& 0x3f).toInt64) ||| (((f n) &&& (255 : Int32)).toInt64)) <<< ((8 : Int32) &&& 0x3f).toInt64) ||| (((f (n + 1)) &&& (255 : Int32)).toInt64))), .second, .val (.int (se + sl)), .val (.int (2 : Int32))]) rfl ?_
    show Steps p.tables e below (T6.setTop (mkF m 44 #[.val (.ref r0), .val (.long (((((0 : Int64) <<< ((8 : Int32) &&& 0x3f).toInt64) ||| (((f n) &&& (255 : Int32)).toInt64)) <<< ((8 : Int32) &&& 0x3f).toInt64) ||| (((f (n + 1)) &&& (255 : Int32)).toInt64))), .second, .val (.int (se + sl)), .val (.int (2 : Int32))] [])) _
    refine XS.goto X6.here hx rfl (pc0 := 44) (pc' := 15) rfl (hb hby own_d5_44) (by decide) (by decide) ?_
    show Steps p.tables e below (T6.setTop (mkF m 15 #[.val (.ref r0), .val (.long (((((0 : Int64) <<< ((8 : Int32) &&& 0x3f).toInt64) ||| (((f n) &&& (255 : Int32)).toInt64)) <<< ((8 : Int32) &&& 0x3f).toInt64) ||| (((f (n + 1)) &&& (255 : Int32)).toInt64))), .second, .val (.int (se + sl)), .val (.int (2 : Int32))] [])) _
    refine XS.iload X6.here hx rfl (hb hby own_d5_15) rfl ?_
    show Steps p.tables e below (T6.setTop (mkF m 17 #[.val (.ref r0), .val (.long (((((0 : Int64) <<< ((8 : Int32) &&& 0x3f).toInt64) ||| (((f n) &&& (255 : Int32)).toInt64)) <<< ((8 : Int32) &&& 0x3f).toInt64) ||| (((f (n + 1)) &&& (255 : Int32)).toInt64))), .second, .val (.int (se + sl)), .val (.int (2 : Int32))] [(.int (2 : Int32))])) _
    refine XS.iconst X6.here hx rfl (hb hby own_d5_17) ?_
    show Steps p.tables e below (T6.setTop (mkF m 18 #[.val (.ref r0), .val (.long (((((0 : Int64) <<< ((8 : Int32) &&& 0x3f).toInt64) ||| (((f n) &&& (255 : Int32)).toInt64)) <<< ((8 : Int32) &&& 0x3f).toInt64) ||| (((f (n + 1)) &&& (255 : Int32)).toInt64))), .second, .val (.int (se + sl)), .val (.int (2 : Int32))] [(.int (4 : Int32)), (.int (2 : Int32))])) _
    refine XS.icmpNo X6.here hx rfl (hb hby own_d5_18) rfl (tlt (by decide : (2 : Int32) < (4 : Int32))).2.1 ?_
    show Steps p.tables e below (T6.setTop (mkF m 21 #[.val (.ref r0), .val (.long (((((0 : Int64) <<< ((8 : Int32) &&& 0x3f).toInt64) ||| (((f n) &&& (255 : Int32)).toInt64)) <<< ((8 : Int32) &&& 0x3f).toInt64) ||| (((f (n + 1)) &&& (255 : Int32)).toInt64))), .second, .val (.int (se + sl)), .val (.int (2 : Int32))] [])) _
    refine XS.lloadN X6.here hx rfl (hb hby own_d5_21) rfl ?_
    show Steps p.tables e below (T6.setTop (mkF m 22 #[.val (.ref r0), .val (.long (((((0 : Int64) <<< ((8 : Int32) &&& 0x3f).toInt64) ||| (((f n) &&& (255 : Int32)).toInt64)) <<< ((8 : Int32) &&& 0x3f).toInt64) ||| (((f (n + 1)) &&& (255 : Int32)).toInt64))), .second, .val (.int (se + sl)), .val (.int (2 : Int32))] [(.long (((((0 : Int64) <<< ((8 : Int32) &&& 0x3f).toInt64) ||| (((f n) &&& (255 : Int32)).toInt64)) <<< ((8 : Int32) &&& 0x3f).toInt64) ||| (((f (n + 1)) &&& (255 : Int32)).toInt64)))])) _
    refine XS.bipush X6.here hx rfl (hb hby own_d5_22) ?_
    show Steps p.tables e below (T6.setTop (mkF m 24 #[.val (.ref r0), .val (.long (((((0 : Int64) <<< ((8 : Int32) &&& 0x3f).toInt64) ||| (((f n) &&& (255 : Int32)).toInt64)) <<< ((8 : Int32) &&& 0x3f).toInt64) ||| (((f (n + 1)) &&& (255 : Int32)).toInt64))), .second, .val (.int (se + sl)), .val (.int (2 : Int32))] [(.int (8 : Int32)), (.long (((((0 : Int64) <<< ((8 : Int32) &&& 0x3f).toInt64) ||| (((f n) &&& (255 : Int32)).toInt64)) <<< ((8 : Int32) &&& 0x3f).toInt64) ||| (((f (n + 1)) &&& (255 : Int32)).toInt64)))])) _
    refine XS.lshl X6.here hx rfl (hb hby own_d5_24) rfl ?_
    show Steps p.tables e below (T6.setTop (mkF m 25 #[.val (.ref r0), .val (.long (((((0 : Int64) <<< ((8 : Int32) &&& 0x3f).toInt64) ||| (((f n) &&& (255 : Int32)).toInt64)) <<< ((8 : Int32) &&& 0x3f).toInt64) ||| (((f (n + 1)) &&& (255 : Int32)).toInt64))), .second, .val (.int (se + sl)), .val (.int (2 : Int32))] [(.long ((((((0 : Int64) <<< ((8 : Int32) &&& 0x3f).toInt64) ||| (((f n) &&& (255 : Int32)).toInt64)) <<< ((8 : Int32) &&& 0x3f).toInt64) ||| (((f (n + 1)) &&& (255 : Int32)).toInt64)) <<< ((8 : Int32) &&& 0x3f).toInt64))])) _
    refine XS.aloadN X6.here hx rfl (hb hby own_d5_25) rfl rfl ?_
    show Steps p.tables e below (T6.setTop (mkF m 26 #[.val (.ref r0), .val (.long (((((0 : Int64) <<< ((8 : Int32) &&& 0x3f).toInt64) ||| (((f n) &&& (255 : Int32)).toInt64)) <<< ((8 : Int32) &&& 0x3f).toInt64) ||| (((f (n + 1)) &&& (255 : Int32)).toInt64))), .second, .val (.int (se + sl)), .val (.int (2 : Int32))] [(.ref r0), (.long ((((((0 : Int64) <<< ((8 : Int32) &&& 0x3f).toInt64) ||| (((f n) &&& (255 : Int32)).toInt64)) <<< ((8 : Int32) &&& 0x3f).toInt64) ||| (((f (n + 1)) &&& (255 : Int32)).toInt64)) <<< ((8 : Int32) &&& 0x3f).toInt64))])) _
    refine st9 _ ?_
    show Steps p.tables e below (T9.setTop (mkF m 29 #[.val (.ref r0), .val (.long (((((0 : Int64) <<< ((8 : Int32) &&& 0x3f).toInt64) ||| (((f n) &&& (255 : Int32)).toInt64)) <<< ((8 : Int32) &&& 0x3f).toInt64) ||| (((f (n + 1)) &&& (255 : Int32)).toInt64))), .second, .val (.int (se + sl)), .val (.int (2 : Int32))] [(.ref ar), (.long ((((((0 : Int64) <<< ((8 : Int32) &&& 0x3f).toInt64) ||| (((f n) &&& (255 : Int32)).toInt64)) <<< ((8 : Int32) &&& 0x3f).toInt64) ||| (((f (n + 1)) &&& (255 : Int32)).toInt64)) <<< ((8 : Int32) &&& 0x3f).toInt64))])) _
    refine XS.iloadN X9.here hx rfl (hb hby own_d5_29) rfl ?_
    show Steps p.tables e below (T9.setTop (mkF m 30 #[.val (.ref r0), .val (.long (((((0 : Int64) <<< ((8 : Int32) &&& 0x3f).toInt64) ||| (((f n) &&& (255 : Int32)).toInt64)) <<< ((8 : Int32) &&& 0x3f).toInt64) ||| (((f (n + 1)) &&& (255 : Int32)).toInt64))), .second, .val (.int (se + sl)), .val (.int (2 : Int32))] [(.int (se + sl)), (.ref ar), (.long ((((((0 : Int64) <<< ((8 : Int32) &&& 0x3f).toInt64) ||| (((f n) &&& (255 : Int32)).toInt64)) <<< ((8 : Int32) &&& 0x3f).toInt64) ||| (((f (n + 1)) &&& (255 : Int32)).toInt64)) <<< ((8 : Int32) &&& 0x3f).toInt64))])) _
    refine XS.iload X9.here hx rfl (hb hby own_d5_30) rfl ?_
    show Steps p.tables e below (T9.setTop (mkF m 32 #[.val (.ref r0), .val (.long (((((0 : Int64) <<< ((8 : Int32) &&& 0x3f).toInt64) ||| (((f n) &&& (255 : Int32)).toInt64)) <<< ((8 : Int32) &&& 0x3f).toInt64) ||| (((f (n + 1)) &&& (255 : Int32)).toInt64))), .second, .val (.int (se + sl)), .val (.int (2 : Int32))] [(.int (2 : Int32)), (.int (se + sl)), (.ref ar), (.long ((((((0 : Int64) <<< ((8 : Int32) &&& 0x3f).toInt64) ||| (((f n) &&& (255 : Int32)).toInt64)) <<< ((8 : Int32) &&& 0x3f).toInt64) ||| (((f (n + 1)) &&& (255 : Int32)).toInt64)) <<< ((8 : Int32) &&& 0x3f).toInt64))])) _
    refine XS.iadd X9.here hx rfl (hb hby own_d5_32) rfl ?_
    show Steps p.tables e below (T9.setTop (mkF m 33 #[.val (.ref r0), .val (.long (((((0 : Int64) <<< ((8 : Int32) &&& 0x3f).toInt64) ||| (((f n) &&& (255 : Int32)).toInt64)) <<< ((8 : Int32) &&& 0x3f).toInt64) ||| (((f (n + 1)) &&& (255 : Int32)).toInt64))), .second, .val (.int (se + sl)), .val (.int (2 : Int32))] [(.int ((se + sl) + (2 : Int32))), (.ref ar), (.long ((((((0 : Int64) <<< ((8 : Int32) &&& 0x3f).toInt64) ||| (((f n) &&& (255 : Int32)).toInt64)) <<< ((8 : Int32) &&& 0x3f).toInt64) ||| (((f (n + 1)) &&& (255 : Int32)).toInt64)) <<< ((8 : Int32) &&& 0x3f).toInt64))])) _
    refine X9.baloadBytes hx (j := ((se + sl) + (2 : Int32))) (v := (.int (f (n + 2)))) (by rw [e9]; exact Ar10.1) (State.isArrayOf_alike hZ.alike Ar10.2.1) Ar10.2.2 hin11 hat11 (g := (mkF m 33 #[.val (.ref r0), .val (.long (((((0 : Int64) <<< ((8 : Int32) &&& 0x3f).toInt64) ||| (((f n) &&& (255 : Int32)).toInt64)) <<< ((8 : Int32) &&& 0x3f).toInt64) ||| (((f (n + 1)) &&& (255 : Int32)).toInt64))), .second, .val (.int (se + sl)), .val (.int (2 : Int32))] [(.int ((se + sl) + (2 : Int32))), (.ref ar), (.long ((((((0 : Int64) <<< ((8 : Int32) &&& 0x3f).toInt64) ||| (((f n) &&& (255 : Int32)).toInt64)) <<< ((8 : Int32) &&& 0x3f).toInt64) ||| (((f (n + 1)) &&& (255 : Int32)).toInt64)) <<< ((8 : Int32) &&& 0x3f).toInt64))])) rfl rfl (hb hby own_d5_33) _ ?_
    show Steps p.tables e below (T9.setTop (mkF m 34 #[.val (.ref r0), .val (.long (((((0 : Int64) <<< ((8 : Int32) &&& 0x3f).toInt64) ||| (((f n) &&& (255 : Int32)).toInt64)) <<< ((8 : Int32) &&& 0x3f).toInt64) ||| (((f (n + 1)) &&& (255 : Int32)).toInt64))), .second, .val (.int (se + sl)), .val (.int (2 : Int32))] [(.int (f (n + 2))), (.long ((((((0 : Int64) <<< ((8 : Int32) &&& 0x3f).toInt64) ||| (((f n) &&& (255 : Int32)).toInt64)) <<< ((8 : Int32) &&& 0x3f).toInt64) ||| (((f (n + 1)) &&& (255 : Int32)).toInt64)) <<< ((8 : Int32) &&& 0x3f).toInt64))])) _
    refine XS.sipush X9.here hx rfl (hb hby own_d5_34) ?_
    show Steps p.tables e below (T9.setTop (mkF m 37 #[.val (.ref r0), .val (.long (((((0 : Int64) <<< ((8 : Int32) &&& 0x3f).toInt64) ||| (((f n) &&& (255 : Int32)).toInt64)) <<< ((8 : Int32) &&& 0x3f).toInt64) ||| (((f (n + 1)) &&& (255 : Int32)).toInt64))), .second, .val (.int (se + sl)), .val (.int (2 : Int32))] [(.int (255 : Int32)), (.int (f (n + 2))), (.long ((((((0 : Int64) <<< ((8 : Int32) &&& 0x3f).toInt64) ||| (((f n) &&& (255 : Int32)).toInt64)) <<< ((8 : Int32) &&& 0x3f).toInt64) ||| (((f (n + 1)) &&& (255 : Int32)).toInt64)) <<< ((8 : Int32) &&& 0x3f).toInt64))])) _
    refine XS.iand X9.here hx rfl (hb hby own_d5_37) rfl ?_
    show Steps p.tables e below (T9.setTop (mkF m 38 #[.val (.ref r0), .val (.long (((((0 : Int64) <<< ((8 : Int32) &&& 0x3f).toInt64) ||| (((f n) &&& (255 : Int32)).toInt64)) <<< ((8 : Int32) &&& 0x3f).toInt64) ||| (((f (n + 1)) &&& (255 : Int32)).toInt64))), .second, .val (.int (se + sl)), .val (.int (2 : Int32))] [(.int ((f (n + 2)) &&& (255 : Int32))), (.long ((((((0 : Int64) <<< ((8 : Int32) &&& 0x3f).toInt64) ||| (((f n) &&& (255 : Int32)).toInt64)) <<< ((8 : Int32) &&& 0x3f).toInt64) ||| (((f (n + 1)) &&& (255 : Int32)).toInt64)) <<< ((8 : Int32) &&& 0x3f).toInt64))])) _
    refine XS.i2l X9.here hx rfl (hb hby own_d5_38) rfl ?_
    show Steps p.tables e below (T9.setTop (mkF m 39 #[.val (.ref r0), .val (.long (((((0 : Int64) <<< ((8 : Int32) &&& 0x3f).toInt64) ||| (((f n) &&& (255 : Int32)).toInt64)) <<< ((8 : Int32) &&& 0x3f).toInt64) ||| (((f (n + 1)) &&& (255 : Int32)).toInt64))), .second, .val (.int (se + sl)), .val (.int (2 : Int32))] [(.long (((f (n + 2)) &&& (255 : Int32)).toInt64)), (.long ((((((0 : Int64) <<< ((8 : Int32) &&& 0x3f).toInt64) ||| (((f n) &&& (255 : Int32)).toInt64)) <<< ((8 : Int32) &&& 0x3f).toInt64) ||| (((f (n + 1)) &&& (255 : Int32)).toInt64)) <<< ((8 : Int32) &&& 0x3f).toInt64))])) _
    refine XS.lor X9.here hx rfl (hb hby own_d5_39) rfl ?_
    show Steps p.tables e below (T9.setTop (mkF m 40 #[.val (.ref r0), .val (.long (((((0 : Int64) <<< ((8 : Int32) &&& 0x3f).toInt64) ||| (((f n) &&& (255 : Int32)).toInt64)) <<< ((8 : Int32) &&& 0x3f).toInt64) ||| (((f (n + 1)) &&& (255 : Int32)).toInt64))), .second, .val (.int (se + sl)), .val (.int (2 : Int32))] [(.long (((((((0 : Int64) <<< ((8 : Int32) &&& 0x3f).toInt64) ||| (((f n) &&& (255 : Int32)).toInt64)) <<< ((8 : Int32) &&& 0x3f).toInt64) ||| (((f (n + 1)) &&& (255 : Int32)).toInt64)) <<< ((8 : Int32) &&& 0x3f).toInt64) ||| (((f (n + 2)) &&& (255 : Int32)).toInt64)))])) _
    refine XS.lstoreN X9.here hx rfl (hb hby own_d5_40) rfl (l' := #[.val (.ref r0), .val (.long (((((((0 : Int64) <<< ((8 : Int32) &&& 0x3f).toInt64) ||| (((f n) &&& (255 : Int32)).toInt64)) <<< ((8 : Int32) &&& 0x3f).toInt64) ||| (((f (n + 1)) &&& (255 : Int32)).toInt64)) <<< ((8 : Int32) &&& 0x3f).toInt64) ||| (((f (n + 2)) &&& (255 : Int32)).toInt64))), .second, .val (.int (se + sl)), .val (.int (2 : Int32))]) rfl ?_
    show Steps p.tables e below (T9.setTop (mkF m 41 #[.val (.ref r0), .val (.long (((((((0 : Int64) <<< ((8 : Int32) &&& 0x3f).toInt64) ||| (((f n) &&& (255 : Int32)).toInt64)) <<< ((8 : Int32) &&& 0x3f).toInt64) ||| (((f (n + 1)) &&& (255 : Int32)).toInt64)) <<< ((8 : Int32) &&& 0x3f).toInt64) ||| (((f (n + 2)) &&& (255 : Int32)).toInt64))), .second, .val (.int (se + sl)), .val (.int (2 : Int32))] [])) _
    refine XS.iinc X9.here hx rfl (hb hby own_d5_41) rfl (l' := #[.val (.ref r0), .val (.long (((((((0 : Int64) <<< ((8 : Int32) &&& 0x3f).toInt64) ||| (((f n) &&& (255 : Int32)).toInt64)) <<< ((8 : Int32) &&& 0x3f).toInt64) ||| (((f (n + 1)) &&& (255 : Int32)).toInt64)) <<< ((8 : Int32) &&& 0x3f).toInt64) ||| (((f (n + 2)) &&& (255 : Int32)).toInt64))), .second, .val (.int (se + sl)), .val (.int (3 : Int32))]) rfl ?_
    show Steps p.tables e below (T9.setTop (mkF m 44 #[.val (.ref r0), .val (.long (((((((0 : Int64) <<< ((8 : Int32) &&& 0x3f).toInt64) ||| (((f n) &&& (255 : Int32)).toInt64)) <<< ((8 : Int32) &&& 0x3f).toInt64) ||| (((f (n + 1)) &&& (255 : Int32)).toInt64)) <<< ((8 : Int32) &&& 0x3f).toInt64) ||| (((f (n + 2)) &&& (255 : Int32)).toInt64))), .second, .val (.int (se + sl)), .val (.int (3 : Int32))] [])) _
    refine XS.goto X9.here hx rfl (pc0 := 44) (pc' := 15) rfl (hb hby own_d5_44) (by decide) (by decide) ?_
    show Steps p.tables e below (T9.setTop (mkF m 15 #[.val (.ref r0), .val (.long (((((((0 : Int64) <<< ((8 : Int32) &&& 0x3f).toInt64) ||| (((f n) &&& (255 : Int32)).toInt64)) <<< ((8 : Int32) &&& 0x3f).toInt64) ||| (((f (n + 1)) &&& (255 : Int32)).toInt64)) <<< ((8 : Int32) &&& 0x3f).toInt64) ||| (((f (n + 2)) &&& (255 : Int32)).toInt64))), .second, .val (.int (se + sl)), .val (.int (3 : Int32))] [])) _
    refine XS.iload X9.here hx rfl (hb hby own_d5_15) rfl ?_
    show Steps p.tables e below (T9.setTop (mkF m 17 #[.val (.ref r0), .val (.long (((((((0 : Int64) <<< ((8 : Int32) &&& 0x3f).toInt64) ||| (((f n) &&& (255 : Int32)).toInt64)) <<< ((8 : Int32) &&& 0x3f).toInt64) ||| (((f (n + 1)) &&& (255 : Int32)).toInt64)) <<< ((8 : Int32) &&& 0x3f).toInt64) ||| (((f (n + 2)) &&& (255 : Int32)).toInt64))), .second, .val (.int (se + sl)), .val (.int (3 : Int32))] [(.int (3 : Int32))])) _
    refine XS.iconst X9.here hx rfl (hb hby own_d5_17) ?_
    show Steps p.tables e below (T9.setTop (mkF m 18 #[.val (.ref r0), .val (.long (((((((0 : Int64) <<< ((8 : Int32) &&& 0x3f).toInt64) ||| (((f n) &&& (255 : Int32)).toInt64)) <<< ((8 : Int32) &&& 0x3f).toInt64) ||| (((f (n + 1)) &&& (255 : Int32)).toInt64)) <<< ((8 : Int32) &&& 0x3f).toInt64) ||| (((f (n + 2)) &&& (255 : Int32)).toInt64))), .second, .val (.int (se + sl)), .val (.int (3 : Int32))] [(.int (4 : Int32)), (.int (3 : Int32))])) _
    refine XS.icmpNo X9.here hx rfl (hb hby own_d5_18) rfl (tlt (by decide : (3 : Int32) < (4 : Int32))).2.1 ?_
    show Steps p.tables e below (T9.setTop (mkF m 21 #[.val (.ref r0), .val (.long (((((((0 : Int64) <<< ((8 : Int32) &&& 0x3f).toInt64) ||| (((f n) &&& (255 : Int32)).toInt64)) <<< ((8 : Int32) &&& 0x3f).toInt64) ||| (((f (n + 1)) &&& (255 : Int32)).toInt64)) <<< ((8 : Int32) &&& 0x3f).toInt64) ||| (((f (n + 2)) &&& (255 : Int32)).toInt64))), .second, .val (.int (se + sl)), .val (.int (3 : Int32))] [])) _
    refine XS.lloadN X9.here hx rfl (hb hby own_d5_21) rfl ?_
    show Steps p.tables e below (T9.setTop (mkF m 22 #[.val (.ref r0), .val (.long (((((((0 : Int64) <<< ((8 : Int32) &&& 0x3f).toInt64) ||| (((f n) &&& (255 : Int32)).toInt64)) <<< ((8 : Int32) &&& 0x3f).toInt64) ||| (((f (n + 1)) &&& (255 : Int32)).toInt64)) <<< ((8 : Int32) &&& 0x3f).toInt64) ||| (((f (n + 2)) &&& (255 : Int32)).toInt64))), .second, .val (.int (se + sl)), .val (.int (3 : Int32))] [(.long (((((((0 : Int64) <<< ((8 : Int32) &&& 0x3f).toInt64) ||| (((f n) &&& (255 : Int32)).toInt64)) <<< ((8 : Int32) &&& 0x3f).toInt64) ||| (((f (n + 1)) &&& (255 : Int32)).toInt64)) <<< ((8 : Int32) &&& 0x3f).toInt64) ||| (((f (n + 2)) &&& (255 : Int32)).toInt64)))])) _
    refine XS.bipush X9.here hx rfl (hb hby own_d5_22) ?_
    show Steps p.tables e below (T9.setTop (mkF m 24 #[.val (.ref r0), .val (.long (((((((0 : Int64) <<< ((8 : Int32) &&& 0x3f).toInt64) ||| (((f n) &&& (255 : Int32)).toInt64)) <<< ((8 : Int32) &&& 0x3f).toInt64) ||| (((f (n + 1)) &&& (255 : Int32)).toInt64)) <<< ((8 : Int32) &&& 0x3f).toInt64) ||| (((f (n + 2)) &&& (255 : Int32)).toInt64))), .second, .val (.int (se + sl)), .val (.int (3 : Int32))] [(.int (8 : Int32)), (.long (((((((0 : Int64) <<< ((8 : Int32) &&& 0x3f).toInt64) ||| (((f n) &&& (255 : Int32)).toInt64)) <<< ((8 : Int32) &&& 0x3f).toInt64) ||| (((f (n + 1)) &&& (255 : Int32)).toInt64)) <<< ((8 : Int32) &&& 0x3f).toInt64) ||| (((f (n + 2)) &&& (255 : Int32)).toInt64)))])) _
    refine XS.lshl X9.here hx rfl (hb hby own_d5_24) rfl ?_
    show Steps p.tables e below (T9.setTop (mkF m 25 #[.val (.ref r0), .val (.long (((((((0 : Int64) <<< ((8 : Int32) &&& 0x3f).toInt64) ||| (((f n) &&& (255 : Int32)).toInt64)) <<< ((8 : Int32) &&& 0x3f).toInt64) ||| (((f (n + 1)) &&& (255 : Int32)).toInt64)) <<< ((8 : Int32) &&& 0x3f).toInt64) ||| (((f (n + 2)) &&& (255 : Int32)).toInt64))), .second, .val (.int (se + sl)), .val (.int (3 : Int32))] [(.long ((((((((0 : Int64) <<< ((8 : Int32) &&& 0x3f).toInt64) ||| (((f n) &&& (255 : Int32)).toInt64)) <<< ((8 : Int32) &&& 0x3f).toInt64) ||| (((f (n + 1)) &&& (255 : Int32)).toInt64)) <<< ((8 : Int32) &&& 0x3f).toInt64) ||| (((f (n + 2)) &&& (255 : Int32)).toInt64)) <<< ((8 : Int32) &&& 0x3f).toInt64))])) _
    refine XS.aloadN X9.here hx rfl (hb hby own_d5_25) rfl rfl ?_
    show Steps p.tables e below (T9.setTop (mkF m 26 #[.val (.ref r0), .val (.long (((((((0 : Int64) <<< ((8 : Int32) &&& 0x3f).toInt64) ||| (((f n) &&& (255 : Int32)).toInt64)) <<< ((8 : Int32) &&& 0x3f).toInt64) ||| (((f (n + 1)) &&& (255 : Int32)).toInt64)) <<< ((8 : Int32) &&& 0x3f).toInt64) ||| (((f (n + 2)) &&& (255 : Int32)).toInt64))), .second, .val (.int (se + sl)), .val (.int (3 : Int32))] [(.ref r0), (.long ((((((((0 : Int64) <<< ((8 : Int32) &&& 0x3f).toInt64) ||| (((f n) &&& (255 : Int32)).toInt64)) <<< ((8 : Int32) &&& 0x3f).toInt64) ||| (((f (n + 1)) &&& (255 : Int32)).toInt64)) <<< ((8 : Int32) &&& 0x3f).toInt64) ||| (((f (n + 2)) &&& (255 : Int32)).toInt64)) <<< ((8 : Int32) &&& 0x3f).toInt64))])) _
    refine st12 _ ?_
    show Steps p.tables e below (T12.setTop (mkF m 29 #[.val (.ref r0), .val (.long (((((((0 : Int64) <<< ((8 : Int32) &&& 0x3f).toInt64) ||| (((f n) &&& (255 : Int32)).toInt64)) <<< ((8 : Int32) &&& 0x3f).toInt64) ||| (((f (n + 1)) &&& (255 : Int32)).toInt64)) <<< ((8 : Int32) &&& 0x3f).toInt64) ||| (((f (n + 2)) &&& (255 : Int32)).toInt64))), .second, .val (.int (se + sl)), .val (.int (3 : Int32))] [(.ref ar), (.long ((((((((0 : Int64) <<< ((8 : Int32) &&& 0x3f).toInt64) ||| (((f n) &&& (255 : Int32)).toInt64)) <<< ((8 : Int32) &&& 0x3f).toInt64) ||| (((f (n + 1)) &&& (255 : Int32)).toInt64)) <<< ((8 : Int32) &&& 0x3f).toInt64) ||| (((f (n + 2)) &&& (255 : Int32)).toInt64)) <<< ((8 : Int32) &&& 0x3f).toInt64))])) _
    refine XS.iloadN X12.here hx rfl (hb hby own_d5_29) rfl ?_
    show Steps p.tables e below (T12.setTop (mkF m 30 #[.val (.ref r0), .val (.long (((((((0 : Int64) <<< ((8 : Int32) &&& 0x3f).toInt64) ||| (((f n) &&& (255 : Int32)).toInt64)) <<< ((8 : Int32) &&& 0x3f).toInt64) ||| (((f (n + 1)) &&& (255 : Int32)).toInt64)) <<< ((8 : Int32) &&& 0x3f).toInt64) ||| (((f (n + 2)) &&& (255 : Int32)).toInt64))), .second, .val (.int (se + sl)), .val (.int (3 : Int32))] [(.int (se + sl)), (.ref ar), (.long ((((((((0 : Int64) <<< ((8 : Int32) &&& 0x3f).toInt64) ||| (((f n) &&& (255 : Int32)).toInt64)) <<< ((8 : Int32) &&& 0x3f).toInt64) ||| (((f (n + 1)) &&& (255 : Int32)).toInt64)) <<< ((8 : Int32) &&& 0x3f).toInt64) ||| (((f (n + 2)) &&& (255 : Int32)).toInt64)) <<< ((8 : Int32) &&& 0x3f).toInt64))])) _
    refine XS.iload X12.here hx rfl (hb hby own_d5_30) rfl ?_
    show Steps p.tables e below (T12.setTop (mkF m 32 #[.val (.ref r0), .val (.long (((((((0 : Int64) <<< ((8 : Int32) &&& 0x3f).toInt64) ||| (((f n) &&& (255 : Int32)).toInt64)) <<< ((8 : Int32) &&& 0x3f).toInt64) ||| (((f (n + 1)) &&& (255 : Int32)).toInt64)) <<< ((8 : Int32) &&& 0x3f).toInt64) ||| (((f (n + 2)) &&& (255 : Int32)).toInt64))), .second, .val (.int (se + sl)), .val (.int (3 : Int32))] [(.int (3 : Int32)), (.int (se + sl)), (.ref ar), (.long ((((((((0 : Int64) <<< ((8 : Int32) &&& 0x3f).toInt64) ||| (((f n) &&& (255 : Int32)).toInt64)) <<< ((8 : Int32) &&& 0x3f).toInt64) ||| (((f (n + 1)) &&& (255 : Int32)).toInt64)) <<< ((8 : Int32) &&& 0x3f).toInt64) ||| (((f (n + 2)) &&& (255 : Int32)).toInt64)) <<< ((8 : Int32) &&& 0x3f).toInt64))])) _
    refine XS.iadd X12.here hx rfl (hb hby own_d5_32) rfl ?_
    show Steps p.tables e below (T12.setTop (mkF m 33 #[.val (.ref r0), .val (.long (((((((0 : Int64) <<< ((8 : Int32) &&& 0x3f).toInt64) ||| (((f n) &&& (255 : Int32)).toInt64)) <<< ((8 : Int32) &&& 0x3f).toInt64) ||| (((f (n + 1)) &&& (255 : Int32)).toInt64)) <<< ((8 : Int32) &&& 0x3f).toInt64) ||| (((f (n + 2)) &&& (255 : Int32)).toInt64))), .second, .val (.int (se + sl)), .val (.int (3 : Int32))] [(.int ((se + sl) + (3 : Int32))), (.ref ar), (.long ((((((((0 : Int64) <<< ((8 : Int32) &&& 0x3f).toInt64) ||| (((f n) &&& (255 : Int32)).toInt64)) <<< ((8 : Int32) &&& 0x3f).toInt64) ||| (((f (n + 1)) &&& (255 : Int32)).toInt64)) <<< ((8 : Int32) &&& 0x3f).toInt64) ||| (((f (n + 2)) &&& (255 : Int32)).toInt64)) <<< ((8 : Int32) &&& 0x3f).toInt64))])) _
    refine X12.baloadBytes hx (j := ((se + sl) + (3 : Int32))) (v := (.int (f (n + 3)))) (by rw [e12]; exact Ar13.1) (State.isArrayOf_alike hZ.alike Ar13.2.1) Ar13.2.2 hin14 hat14 (g := (mkF m 33 #[.val (.ref r0), .val (.long (((((((0 : Int64) <<< ((8 : Int32) &&& 0x3f).toInt64) ||| (((f n) &&& (255 : Int32)).toInt64)) <<< ((8 : Int32) &&& 0x3f).toInt64) ||| (((f (n + 1)) &&& (255 : Int32)).toInt64)) <<< ((8 : Int32) &&& 0x3f).toInt64) ||| (((f (n + 2)) &&& (255 : Int32)).toInt64))), .second, .val (.int (se + sl)), .val (.int (3 : Int32))] [(.int ((se + sl) + (3 : Int32))), (.ref ar), (.long ((((((((0 : Int64) <<< ((8 : Int32) &&& 0x3f).toInt64) ||| (((f n) &&& (255 : Int32)).toInt64)) <<< ((8 : Int32) &&& 0x3f).toInt64) ||| (((f (n + 1)) &&& (255 : Int32)).toInt64)) <<< ((8 : Int32) &&& 0x3f).toInt64) ||| (((f (n + 2)) &&& (255 : Int32)).toInt64)) <<< ((8 : Int32) &&& 0x3f).toInt64))])) rfl rfl (hb hby own_d5_33) _ ?_
    show Steps p.tables e below (T12.setTop (mkF m 34 #[.val (.ref r0), .val (.long (((((((0 : Int64) <<< ((8 : Int32) &&& 0x3f).toInt64) ||| (((f n) &&& (255 : Int32)).toInt64)) <<< ((8 : Int32) &&& 0x3f).toInt64) ||| (((f (n + 1)) &&& (255 : Int32)).toInt64)) <<< ((8 : Int32) &&& 0x3f).toInt64) ||| (((f (n + 2)) &&& (255 : Int32)).toInt64))), .second, .val (.int (se + sl)), .val (.int (3 : Int32))] [(.int (f (n + 3))), (.long ((((((((0 : Int64) <<< ((8 : Int32) &&& 0x3f).toInt64) ||| (((f n) &&& (255 : Int32)).toInt64)) <<< ((8 : Int32) &&& 0x3f).toInt64) ||| (((f (n + 1)) &&& (255 : Int32)).toInt64)) <<< ((8 : Int32) &&& 0x3f).toInt64) ||| (((f (n + 2)) &&& (255 : Int32)).toInt64)) <<< ((8 : Int32) &&& 0x3f).toInt64))])) _
    refine XS.sipush X12.here hx rfl (hb hby own_d5_34) ?_
    show Steps p.tables e below (T12.setTop (mkF m 37 #[.val (.ref r0), .val (.long (((((((0 : Int64) <<< ((8 : Int32) &&& 0x3f).toInt64) ||| (((f n) &&& (255 : Int32)).toInt64)) <<< ((8 : Int32) &&& 0x3f).toInt64) ||| (((f (n + 1)) &&& (255 : Int32)).toInt64)) <<< ((8 : Int32) &&& 0x3f).toInt64) ||| (((f (n + 2)) &&& (255 : Int32)).toInt64))), .second, .val (.int (se + sl)), .val (.int (3 : Int32))] [(.int (255 : Int32)), (.int (f (n + 3))), (.long ((((((((0 : Int64) <<< ((8 : Int32) &&& 0x3f).toInt64) ||| (((f n) &&& (255 : Int32)).toInt64)) <<< ((8 : Int32) &&& 0x3f).toInt64) ||| (((f (n + 1)) &&& (255 : Int32)).toInt64)) <<< ((8 : Int32) &&& 0x3f).toInt64) ||| (((f (n + 2)) &&& (255 : Int32)).toInt64)) <<< ((8 : Int32) &&& 0x3f).toInt64))])) _
    refine XS.iand X12.here hx rfl (hb hby own_d5_37) rfl ?_
    show Steps p.tables e below (T12.setTop (mkF m 38 #[.val (.ref r0), .val (.long (((((((0 : Int64) <<< ((8 : Int32) &&& 0x3f).toInt64) ||| (((f n) &&& (255 : Int32)).toInt64)) <<< ((8 : Int32) &&& 0x3f).toInt64) ||| (((f (n + 1)) &&& (255 : Int32)).toInt64)) <<< ((8 : Int32) &&& 0x3f).toInt64) ||| (((f (n + 2)) &&& (255 : Int32)).toInt64))), .second, .val (.int (se + sl)), .val (.int (3 : Int32))] [(.int ((f (n + 3)) &&& (255 : Int32))), (.long ((((((((0 : Int64) <<< ((8 : Int32) &&& 0x3f).toInt64) ||| (((f n) &&& (255 : Int32)).toInt64)) <<< ((8 : Int32) &&& 0x3f).toInt64) ||| (((f (n + 1)) &&& (255 : Int32)).toInt64)) <<< ((8 : Int32) &&& 0x3f).toInt64) ||| (((f (n + 2)) &&& (255 : Int32)).toInt64)) <<< ((8 : Int32) &&& 0x3f).toInt64))])) _
    refine XS.i2l X12.here hx rfl (hb hby own_d5_38) rfl ?_
    show Steps p.tables e below (T12.setTop (mkF m 39 #[.val (.ref r0), .val (.long (((((((0 : Int64) <<< ((8 : Int32) &&& 0x3f).toInt64) ||| (((f n) &&& (255 : Int32)).toInt64)) <<< ((8 : Int32) &&& 0x3f).toInt64) ||| (((f (n + 1)) &&& (255 : Int32)).toInt64)) <<< ((8 : Int32) &&& 0x3f).toInt64) ||| (((f (n + 2)) &&& (255 : Int32)).toInt64))), .second, .val (.int (se + sl)), .val (.int (3 : Int32))] [(.long (((f (n + 3)) &&& (255 : Int32)).toInt64)), (.long ((((((((0 : Int64) <<< ((8 : Int32) &&& 0x3f).toInt64) ||| (((f n) &&& (255 : Int32)).toInt64)) <<< ((8 : Int32) &&& 0x3f).toInt64) ||| (((f (n + 1)) &&& (255 : Int32)).toInt64)) <<< ((8 : Int32) &&& 0x3f).toInt64) ||| (((f (n + 2)) &&& (255 : Int32)).toInt64)) <<< ((8 : Int32) &&& 0x3f).toInt64))])) _
    refine XS.lor X12.here hx rfl (hb hby own_d5_39) rfl ?_
    show Steps p.tables e below (T12.setTop (mkF m 40 #[.val (.ref r0), .val (.long (((((((0 : Int64) <<< ((8 : Int32) &&& 0x3f).toInt64) ||| (((f n) &&& (255 : Int32)).toInt64)) <<< ((8 : Int32) &&& 0x3f).toInt64) ||| (((f (n + 1)) &&& (255 : Int32)).toInt64)) <<< ((8 : Int32) &&& 0x3f).toInt64) ||| (((f (n + 2)) &&& (255 : Int32)).toInt64))), .second, .val (.int (se + sl)), .val (.int (3 : Int32))] [(.long (((((((((0 : Int64) <<< ((8 : Int32) &&& 0x3f).toInt64) ||| (((f n) &&& (255 : Int32)).toInt64)) <<< ((8 : Int32) &&& 0x3f).toInt64) ||| (((f (n + 1)) &&& (255 : Int32)).toInt64)) <<< ((8 : Int32) &&& 0x3f).toInt64) ||| (((f (n + 2)) &&& (255 : Int32)).toInt64)) <<< ((8 : Int32) &&& 0x3f).toInt64) ||| (((f (n + 3)) &&& (255 : Int32)).toInt64)))])) _
    refine XS.lstoreN X12.here hx rfl (hb hby own_d5_40) rfl (l' := #[.val (.ref r0), .val (.long (((((((((0 : Int64) <<< ((8 : Int32) &&& 0x3f).toInt64) ||| (((f n) &&& (255 : Int32)).toInt64)) <<< ((8 : Int32) &&& 0x3f).toInt64) ||| (((f (n + 1)) &&& (255 : Int32)).toInt64)) <<< ((8 : Int32) &&& 0x3f).toInt64) ||| (((f (n + 2)) &&& (255 : Int32)).toInt64)) <<< ((8 : Int32) &&& 0x3f).toInt64) ||| (((f (n + 3)) &&& (255 : Int32)).toInt64))), .second, .val (.int (se + sl)), .val (.int (3 : Int32))]) rfl ?_
    show Steps p.tables e below (T12.setTop (mkF m 41 #[.val (.ref r0), .val (.long (((((((((0 : Int64) <<< ((8 : Int32) &&& 0x3f).toInt64) ||| (((f n) &&& (255 : Int32)).toInt64)) <<< ((8 : Int32) &&& 0x3f).toInt64) ||| (((f (n + 1)) &&& (255 : Int32)).toInt64)) <<< ((8 : Int32) &&& 0x3f).toInt64) ||| (((f (n + 2)) &&& (255 : Int32)).toInt64)) <<< ((8 : Int32) &&& 0x3f).toInt64) ||| (((f (n + 3)) &&& (255 : Int32)).toInt64))), .second, .val (.int (se + sl)), .val (.int (3 : Int32))] [])) _
    refine XS.iinc X12.here hx rfl (hb hby own_d5_41) rfl (l' := #[.val (.ref r0), .val (.long (((((((((0 : Int64) <<< ((8 : Int32) &&& 0x3f).toInt64) ||| (((f n) &&& (255 : Int32)).toInt64)) <<< ((8 : Int32) &&& 0x3f).toInt64) ||| (((f (n + 1)) &&& (255 : Int32)).toInt64)) <<< ((8 : Int32) &&& 0x3f).toInt64) ||| (((f (n + 2)) &&& (255 : Int32)).toInt64)) <<< ((8 : Int32) &&& 0x3f).toInt64) ||| (((f (n + 3)) &&& (255 : Int32)).toInt64))), .second, .val (.int (se + sl)), .val (.int (4 : Int32))]) rfl ?_
    show Steps p.tables e below (T12.setTop (mkF m 44 #[.val (.ref r0), .val (.long (((((((((0 : Int64) <<< ((8 : Int32) &&& 0x3f).toInt64) ||| (((f n) &&& (255 : Int32)).toInt64)) <<< ((8 : Int32) &&& 0x3f).toInt64) ||| (((f (n + 1)) &&& (255 : Int32)).toInt64)) <<< ((8 : Int32) &&& 0x3f).toInt64) ||| (((f (n + 2)) &&& (255 : Int32)).toInt64)) <<< ((8 : Int32) &&& 0x3f).toInt64) ||| (((f (n + 3)) &&& (255 : Int32)).toInt64))), .second, .val (.int (se + sl)), .val (.int (4 : Int32))] [])) _
    refine XS.goto X12.here hx rfl (pc0 := 44) (pc' := 15) rfl (hb hby own_d5_44) (by decide) (by decide) ?_
    show Steps p.tables e below (T12.setTop (mkF m 15 #[.val (.ref r0), .val (.long (((((((((0 : Int64) <<< ((8 : Int32) &&& 0x3f).toInt64) ||| (((f n) &&& (255 : Int32)).toInt64)) <<< ((8 : Int32) &&& 0x3f).toInt64) ||| (((f (n + 1)) &&& (255 : Int32)).toInt64)) <<< ((8 : Int32) &&& 0x3f).toInt64) ||| (((f (n + 2)) &&& (255 : Int32)).toInt64)) <<< ((8 : Int32) &&& 0x3f).toInt64) ||| (((f (n + 3)) &&& (255 : Int32)).toInt64))), .second, .val (.int (se + sl)), .val (.int (4 : Int32))] [])) _
    refine XS.iload X12.here hx rfl (hb hby own_d5_15) rfl ?_
    show Steps p.tables e below (T12.setTop (mkF m 17 #[.val (.ref r0), .val (.long (((((((((0 : Int64) <<< ((8 : Int32) &&& 0x3f).toInt64) ||| (((f n) &&& (255 : Int32)).toInt64)) <<< ((8 : Int32) &&& 0x3f).toInt64) ||| (((f (n + 1)) &&& (255 : Int32)).toInt64)) <<< ((8 : Int32) &&& 0x3f).toInt64) ||| (((f (n + 2)) &&& (255 : Int32)).toInt64)) <<< ((8 : Int32) &&& 0x3f).toInt64) ||| (((f (n + 3)) &&& (255 : Int32)).toInt64))), .second, .val (.int (se + sl)), .val (.int (4 : Int32))] [(.int (4 : Int32))])) _
    refine XS.iconst X12.here hx rfl (hb hby own_d5_17) ?_
    show Steps p.tables e below (T12.setTop (mkF m 18 #[.val (.ref r0), .val (.long (((((((((0 : Int64) <<< ((8 : Int32) &&& 0x3f).toInt64) ||| (((f n) &&& (255 : Int32)).toInt64)) <<< ((8 : Int32) &&& 0x3f).toInt64) ||| (((f (n + 1)) &&& (255 : Int32)).toInt64)) <<< ((8 : Int32) &&& 0x3f).toInt64) ||| (((f (n + 2)) &&& (255 : Int32)).toInt64)) <<< ((8 : Int32) &&& 0x3f).toInt64) ||| (((f (n + 3)) &&& (255 : Int32)).toInt64))), .second, .val (.int (se + sl)), .val (.int (4 : Int32))] [(.int (4 : Int32)), (.int (4 : Int32))])) _
    refine XS.icmpYes X12.here hx rfl (pc0 := 18) (pc' := 47) rfl (hb hby own_d5_18) rfl (flt (by decide : ¬ ((4 : Int32) < (4 : Int32)))).2.1 (by decide) (by decide) ?_
    show Steps p.tables e below (T12.setTop (mkF m 47 #[.val (.ref r0), .val (.long (((((((((0 : Int64) <<< ((8 : Int32) &&& 0x3f).toInt64) ||| (((f n) &&& (255 : Int32)).toInt64)) <<< ((8 : Int32) &&& 0x3f).toInt64) ||| (((f (n + 1)) &&& (255 : Int32)).toInt64)) <<< ((8 : Int32) &&& 0x3f).toInt64) ||| (((f (n + 2)) &&& (255 : Int32)).toInt64)) <<< ((8 : Int32) &&& 0x3f).toInt64) ||| (((f (n + 3)) &&& (255 : Int32)).toInt64))), .second, .val (.int (se + sl)), .val (.int (4 : Int32))] [])) _
    refine XS.lloadN X12.here hx rfl (hb hby own_d5_47) rfl ?_
    show Steps p.tables e below (T12.setTop (mkF m 48 #[.val (.ref r0), .val (.long (((((((((0 : Int64) <<< ((8 : Int32) &&& 0x3f).toInt64) ||| (((f n) &&& (255 : Int32)).toInt64)) <<< ((8 : Int32) &&& 0x3f).toInt64) ||| (((f (n + 1)) &&& (255 : Int32)).toInt64)) <<< ((8 : Int32) &&& 0x3f).toInt64) ||| (((f (n + 2)) &&& (255 : Int32)).toInt64)) <<< ((8 : Int32) &&& 0x3f).toInt64) ||| (((f (n + 3)) &&& (255 : Int32)).toInt64))), .second, .val (.int (se + sl)), .val (.int (4 : Int32))] [(.long (((((((((0 : Int64) <<< ((8 : Int32) &&& 0x3f).toInt64) ||| (((f n) &&& (255 : Int32)).toInt64)) <<< ((8 : Int32) &&& 0x3f).toInt64) ||| (((f (n + 1)) &&& (255 : Int32)).toInt64)) <<< ((8 : Int32) &&& 0x3f).toInt64) ||| (((f (n + 2)) &&& (255 : Int32)).toInt64)) <<< ((8 : Int32) &&& 0x3f).toInt64) ||| (((f (n + 3)) &&& (255 : Int32)).toInt64)))])) _
    exact X12.lreturnOut hx Bd.returns (hb hby own_d5_48) hr
  · show Q_ts Z r0 ar f n se sl h0 n0 _ T12.heap _
    rw [e12]
    exact ⟨rfl, N0, rfl⟩
theorem own_add {a b : Int32} {m n : Nat} (ha : a.toInt = m) (hb : b.toInt = n) (h : m + n < 1000) : (a + b).toInt = ((m + n : Nat) : Int) := by
  have h1 := c_iadd a b
  have h2 := rng32 (a + b)
  omega
theorem own_k0 : (0 : Int32).toInt = ((0 : Nat) : Int) := by decide
theorem own_k1 : (1 : Int32).toInt = ((1 : Nat) : Int) := by decide
theorem own_k4 : (4 : Int32).toInt = ((4 : Nat) : Int) := by decide
theorem own_k5 : (5 : Int32).toInt = ((5 : Nat) : Int) := by decide
theorem own_k9 : (9 : Int32).toInt = ((9 : Nat) : Int) := by decide
theorem own_k14 : (14 : Int32).toInt = ((14 : Nat) : Int) := by decide
theorem own_len (c : Int32) : ∃ n : Nat, n ≤ 3 ∧ (c &&& (3 : Int32)).toInt = (n : Int) ∧ ((3 : Int32) + ((6 : Int32) * (c &&& (3 : Int32)))).toInt = ((3 + 6 * n : Nat) : Int) := by
  have h1 : (c &&& (3 : Int32)).toInt = c.toInt % (2 ^ 2 : Nat) := c_mask c 3 2 (by decide) (by decide)
  have h2 := c_imul 6 (c &&& (3 : Int32))
  have e6 : (6 : Int32).toInt = 6 := by decide
  have e3 : (3 : Int32).toInt = 3 := by decide
  rw [e6] at h2
  have h3 := rng32 (6 * (c &&& (3 : Int32)))
  have h4 := c_iadd 3 (6 * (c &&& (3 : Int32)))
  have h5 := rng32 (3 + 6 * (c &&& (3 : Int32)))
  refine ⟨(c &&& (3 : Int32)).toInt.toNat, ?_, ?_, ?_⟩ <;> omega
theorem own_sl (c b : Int32) (n : Nat) (hn : n ≤ 3) (hc : c.toInt = (n : Int)) (hb : b = (nar .byte (c.toInt8.toInt32))) : ((3 : Int32) + ((b &&& (255 : Int32)) * (6 : Int32))).toInt = ((3 + 6 * n : Nat) : Int) := by
  have h2 := c_i2b c
  have h3 := c_i2b (c.toInt8.toInt32)
  have h4 : (b &&& (255 : Int32)).toInt = b.toInt % (2 ^ 8 : Nat) := c_mask _ 255 8 (by decide) (by decide)
  have h4' : (nar .byte (c.toInt8.toInt32)) = (c.toInt8.toInt32).toInt8.toInt32 := rfl
  rw [h4'] at hb
  rw [← hb] at h3
  have q1 : c.toInt8.toInt32.toInt = (n : Int) := by omega
  have q2 : b.toInt = (n : Int) := by omega
  have q3 : (b &&& (255 : Int32)).toInt = (n : Int) := by omega
  have h5 := c_imul (b &&& (255 : Int32)) 6
  have e6 : (6 : Int32).toInt = 6 := by decide
  have e3 : (3 : Int32).toInt = 3 := by decide
  rw [e6, q3] at h5
  have h6 := rng32 ((b &&& (255 : Int32)) * 6)
  have q4 : ((b &&& (255 : Int32)) * 6).toInt = 6 * (n : Int) := by omega
  have h7 := c_iadd 3 ((b &&& (255 : Int32)) * 6)
  rw [e3, q4] at h7
  have h8 := rng32 (3 + (b &&& (255 : Int32)) * 6)
  omega
theorem own_nlt {a : Int32} {n : Nat} (ha : a.toInt = n) (h : n ≤ 72) : ¬ ((72 : Int32) < a) := by
  have e : (72 : Int32).toInt = 72 := by decide
  rw [Int32.lt_iff_toInt_lt]; omega
theorem own_neq {a : Int32} {n : Nat} (ha : a.toInt = n) (h : n < 72) : ¬ (a = (72 : Int32)) := fun q => by
  have e : (72 : Int32).toInt = 72 := by decide
  rw [q] at ha; omega
theorem own_byte (x : Int32) : ((nar .byte (x.toInt8.toInt32)) &&& (255 : Int32)).toInt = x.toInt % 256 := by
  have h2 := c_i2b x
  have h3 := c_i2b (x.toInt8.toInt32)
  have h4' : (nar .byte (x.toInt8.toInt32)) = (x.toInt8.toInt32).toInt8.toInt32 := rfl
  have h4 : ((x.toInt8.toInt32).toInt8.toInt32 &&& (255 : Int32)).toInt = ((x.toInt8.toInt32).toInt8.toInt32).toInt % (2 ^ 8 : Nat) := c_mask _ 255 8 (by decide) (by decide)
  rw [h4', h4]
  omega
theorem own_step (a : Int64) (b : Int32) (A B : Int) (ha : a.toInt = A) (h0 : 0 ≤ A) (h1 : A < 281474976710656) (hb : (b &&& (255 : Int32)).toInt = B) : ((a <<< ((8 : Int32) &&& 0x3f).toInt64) ||| ((b &&& (255 : Int32)).toInt64)).toInt = A * 256 + B := by
  have h2 := c_lshl a 8 8 (by decide)
  have h3 := rng64 (a <<< ((8 : Int32) &&& 0x3f).toInt64)
  have h4 : (b &&& (255 : Int32)).toInt = b.toInt % (2 ^ 8 : Nat) := c_mask _ 255 8 (by decide) (by decide)
  have h5 := c_i2l (b &&& (255 : Int32))
  have h6 := c_orL (a <<< ((8 : Int32) &&& 0x3f).toInt64) ((b &&& (255 : Int32)).toInt64) 8 (by decide) 256 (by decide)
  have h7 := rng64 ((a <<< ((8 : Int32) &&& 0x3f).toInt64) ||| ((b &&& (255 : Int32)).toInt64))
  have h8 := h6 (by omega) (by omega) (by omega)
  omega
theorem own_ts_eq (t : Int64) : own_ts (nar .byte ((((t.toUInt64 >>> ((24 : Int32) &&& 0x3f).toInt64.toUInt64).toInt64).toInt32).toInt8.toInt32)) (nar .byte ((((t.toUInt64 >>> ((16 : Int32) &&& 0x3f).toInt64.toUInt64).toInt64).toInt32).toInt8.toInt32)) (nar .byte ((((t.toUInt64 >>> ((8 : Int32) &&& 0x3f).toInt64.toUInt64).toInt64).toInt32).toInt8.toInt32)) (nar .byte ((t.toInt32).toInt8.toInt32)) = (t &&& (4294967295 : Int64)) := by
  have a1 := c_lushr t 24 24 (by decide) (by decide)
  have a2 := c_lushr t 16 16 (by decide) (by decide)
  have a3 := c_lushr t 8 8 (by decide) (by decide)
  have b1 := c_l2i ((t.toUInt64 >>> ((24 : Int32) &&& 0x3f).toInt64.toUInt64).toInt64)
  have b2 := c_l2i ((t.toUInt64 >>> ((16 : Int32) &&& 0x3f).toInt64.toUInt64).toInt64)
  have b3 := c_l2i ((t.toUInt64 >>> ((8 : Int32) &&& 0x3f).toInt64.toUInt64).toInt64)
  have b4 := c_l2i t
  have m := c_maskL t 4294967295 32 (by decide) (by decide)
  have s0 := own_step 0 (nar .byte ((((t.toUInt64 >>> ((24 : Int32) &&& 0x3f).toInt64.toUInt64).toInt64).toInt32).toInt8.toInt32)) 0 _ (by decide) (by decide) (by decide) (own_byte _)
  have s1 := own_step _ (nar .byte ((((t.toUInt64 >>> ((16 : Int32) &&& 0x3f).toInt64.toUInt64).toInt64).toInt32).toInt8.toInt32)) _ _ s0 (by omega) (by omega) (own_byte _)
  have s2 := own_step _ (nar .byte ((((t.toUInt64 >>> ((8 : Int32) &&& 0x3f).toInt64.toUInt64).toInt64).toInt32).toInt8.toInt32)) _ _ s1 (by omega) (by omega) (own_byte _)
  have s3 := own_step _ (nar .byte ((t.toInt32).toInt8.toInt32)) _ _ s2 (by omega) (by omega) (own_byte _)
  rw [← Int64.toInt_inj, m]
  unfold own_ts
  rw [s3]
  omega
def own_F (kA kB : Nat) (p3 : Int32) (q0 q1 q2 : Int64) (i : Nat) : Int32 := (fun i => if i = (((14 + (3 + 6 * kA)) + 5) + (3 + 6 * kB)) then (nar .byte ((((q2.toUInt64 >>> ((40 : Int32) &&& 0x3f).toInt64.toUInt64).toInt64).toInt32).toInt8.toInt32)) else (fun i => if i = ((((14 + (3 + 6 * kA)) + 1) + (3 + 6 * kB)) + 3) then (nar .byte ((q1.toInt32).toInt8.toInt32)) else (fun i => if i = ((((14 + (3 + 6 * kA)) + 1) + (3 + 6 * kB)) + 2) then (nar .byte ((((q1.toUInt64 >>> ((8 : Int32) &&& 0x3f).toInt64.toUInt64).toInt64).toInt32).toInt8.toInt32)) else (fun i => if i = ((((14 + (3 + 6 * kA)) + 1) + (3 + 6 * kB)) + 1) then (nar .byte ((((q1.toUInt64 >>> ((16 : Int32) &&& 0x3f).toInt64.toUInt64).toInt64).toInt32).toInt8.toInt32)) else (fun i => if i = (((14 + (3 + 6 * kA)) + 1) + (3 + 6 * kB)) then (nar .byte ((((q1.toUInt64 >>> ((24 : Int32) &&& 0x3f).toInt64.toUInt64).toInt64).toInt32).toInt8.toInt32)) else (fun i => if i = ((14 + (3 + 6 * kA)) + (3 + 6 * kB)) then (nar .byte ((((q2.toUInt64 >>> ((32 : Int32) &&& 0x3f).toInt64.toUInt64).toInt64).toInt32).toInt8.toInt32)) else (fun i => if i = ((14 + (3 + 6 * kA)) + 1) then (nar .byte ((((q2.toUInt64 >>> ((24 : Int32) &&& 0x3f).toInt64.toUInt64).toInt64).toInt32).toInt8.toInt32)) else (fun i => if i = (14 + (3 + 6 * kA)) then (nar .byte ((((p3.toUInt32 >>> ((2 : Int32) &&& 31).toUInt32).toInt32) &&& (3 : Int32)).toInt8.toInt32)) else (fun i => if i = (5 + (3 + 6 * kA)) then (nar .byte ((((q2.toUInt64 >>> ((16 : Int32) &&& 0x3f).toInt64.toUInt64).toInt64).toInt32).toInt8.toInt32)) else (fun i => if i = ((1 + (3 + 6 * kA)) + 3) then (nar .byte ((q0.toInt32).toInt8.toInt32)) else (fun i => if i = ((1 + (3 + 6 * kA)) + 2) then (nar .byte ((((q0.toUInt64 >>> ((8 : Int32) &&& 0x3f).toInt64.toUInt64).toInt64).toInt32).toInt8.toInt32)) else (fun i => if i = ((1 + (3 + 6 * kA)) + 1) then (nar .byte ((((q0.toUInt64 >>> ((16 : Int32) &&& 0x3f).toInt64.toUInt64).toInt64).toInt32).toInt8.toInt32)) else (fun i => if i = (1 + (3 + 6 * kA)) then (nar .byte ((((q0.toUInt64 >>> ((24 : Int32) &&& 0x3f).toInt64.toUInt64).toInt64).toInt32).toInt8.toInt32)) else (fun i => if i = (3 + 6 * kA) then (nar .byte ((((q2.toUInt64 >>> ((8 : Int32) &&& 0x3f).toInt64.toUInt64).toInt64).toInt32).toInt8.toInt32)) else (fun i => if i = 1 then (nar .byte ((q2.toInt32).toInt8.toInt32)) else (fun i => if i = 0 then (nar .byte ((p3 &&& (3 : Int32)).toInt8.toInt32)) else (fun _ => 0) i) i) i) i) i) i) i) i) i) i) i) i) i) i) i) i) i
theorem own_F0 (kA kB : Nat) (hA : kA ≤ 3) (hB : kB ≤ 3) (p3 : Int32) (q0 q1 q2 : Int64) : own_F kA kB p3 q0 q1 q2 0 = (nar .byte ((p3 &&& (3 : Int32)).toInt8.toInt32)) := by
  unfold own_F
  dsimp only
  rw [if_neg (show ¬ (0 = (((14 + (3 + 6 * kA)) + 5) + (3 + 6 * kB))) by omega), if_neg (show ¬ (0 = ((((14 + (3 + 6 * kA)) + 1) + (3 + 6 * kB)) + 3)) by omega), if_neg (show ¬ (0 = ((((14 + (3 + 6 * kA)) + 1) + (3 + 6 * kB)) + 2)) by omega), if_neg (show ¬ (0 = ((((14 + (3 + 6 * kA)) + 1) + (3 + 6 * kB)) + 1)) by omega), if_neg (show ¬ (0 = (((14 + (3 + 6 * kA)) + 1) + (3 + 6 * kB))) by omega), if_neg (show ¬ (0 = ((14 + (3 + 6 * kA)) + (3 + 6 * kB))) by omega), if_neg (show ¬ (0 = ((14 + (3 + 6 * kA)) + 1)) by omega), if_neg (show ¬ (0 = (14 + (3 + 6 * kA))) by omega), if_neg (show ¬ (0 = (5 + (3 + 6 * kA))) by omega), if_neg (show ¬ (0 = ((1 + (3 + 6 * kA)) + 3)) by omega), if_neg (show ¬ (0 = ((1 + (3 + 6 * kA)) + 2)) by omega), if_neg (show ¬ (0 = ((1 + (3 + 6 * kA)) + 1)) by omega), if_neg (show ¬ (0 = (1 + (3 + 6 * kA))) by omega), if_neg (show ¬ (0 = (3 + 6 * kA)) by omega), if_neg (show ¬ (0 = 1) by omega), if_pos rfl]
theorem own_F1 (kA kB : Nat) (hA : kA ≤ 3) (hB : kB ≤ 3) (p3 : Int32) (q0 q1 q2 : Int64) : own_F kA kB p3 q0 q1 q2 (14 + (3 + 6 * kA)) = (nar .byte ((((p3.toUInt32 >>> ((2 : Int32) &&& 31).toUInt32).toInt32) &&& (3 : Int32)).toInt8.toInt32)) := by
  unfold own_F
  dsimp only
  rw [if_neg (show ¬ ((14 + (3 + 6 * kA)) = (((14 + (3 + 6 * kA)) + 5) + (3 + 6 * kB))) by omega), if_neg (show ¬ ((14 + (3 + 6 * kA)) = ((((14 + (3 + 6 * kA)) + 1) + (3 + 6 * kB)) + 3)) by omega), if_neg (show ¬ ((14 + (3 + 6 * kA)) = ((((14 + (3 + 6 * kA)) + 1) + (3 + 6 * kB)) + 2)) by omega), if_neg (show ¬ ((14 + (3 + 6 * kA)) = ((((14 + (3 + 6 * kA)) + 1) + (3 + 6 * kB)) + 1)) by omega), if_neg (show ¬ ((14 + (3 + 6 * kA)) = (((14 + (3 + 6 * kA)) + 1) + (3 + 6 * kB))) by omega), if_neg (show ¬ ((14 + (3 + 6 * kA)) = ((14 + (3 + 6 * kA)) + (3 + 6 * kB))) by omega), if_neg (show ¬ ((14 + (3 + 6 * kA)) = ((14 + (3 + 6 * kA)) + 1)) by omega), if_pos rfl]
theorem own_Fa0 (kA kB : Nat) (hA : kA ≤ 3) (hB : kB ≤ 3) (p3 : Int32) (q0 q1 q2 : Int64) : own_F kA kB p3 q0 q1 q2 (1 + (3 + 6 * kA)) = (nar .byte ((((q0.toUInt64 >>> ((24 : Int32) &&& 0x3f).toInt64.toUInt64).toInt64).toInt32).toInt8.toInt32)) := by
  unfold own_F
  dsimp only
  rw [if_neg (show ¬ ((1 + (3 + 6 * kA)) = (((14 + (3 + 6 * kA)) + 5) + (3 + 6 * kB))) by omega), if_neg (show ¬ ((1 + (3 + 6 * kA)) = ((((14 + (3 + 6 * kA)) + 1) + (3 + 6 * kB)) + 3)) by omega), if_neg (show ¬ ((1 + (3 + 6 * kA)) = ((((14 + (3 + 6 * kA)) + 1) + (3 + 6 * kB)) + 2)) by omega), if_neg (show ¬ ((1 + (3 + 6 * kA)) = ((((14 + (3 + 6 * kA)) + 1) + (3 + 6 * kB)) + 1)) by omega), if_neg (show ¬ ((1 + (3 + 6 * kA)) = (((14 + (3 + 6 * kA)) + 1) + (3 + 6 * kB))) by omega), if_neg (show ¬ ((1 + (3 + 6 * kA)) = ((14 + (3 + 6 * kA)) + (3 + 6 * kB))) by omega), if_neg (show ¬ ((1 + (3 + 6 * kA)) = ((14 + (3 + 6 * kA)) + 1)) by omega), if_neg (show ¬ ((1 + (3 + 6 * kA)) = (14 + (3 + 6 * kA))) by omega), if_neg (show ¬ ((1 + (3 + 6 * kA)) = (5 + (3 + 6 * kA))) by omega), if_neg (show ¬ ((1 + (3 + 6 * kA)) = ((1 + (3 + 6 * kA)) + 3)) by omega), if_neg (show ¬ ((1 + (3 + 6 * kA)) = ((1 + (3 + 6 * kA)) + 2)) by omega), if_neg (show ¬ ((1 + (3 + 6 * kA)) = ((1 + (3 + 6 * kA)) + 1)) by omega), if_pos rfl]
theorem own_Fa1 (kA kB : Nat) (hA : kA ≤ 3) (hB : kB ≤ 3) (p3 : Int32) (q0 q1 q2 : Int64) : own_F kA kB p3 q0 q1 q2 ((1 + (3 + 6 * kA)) + 1) = (nar .byte ((((q0.toUInt64 >>> ((16 : Int32) &&& 0x3f).toInt64.toUInt64).toInt64).toInt32).toInt8.toInt32)) := by
  unfold own_F
  dsimp only
  rw [if_neg (show ¬ (((1 + (3 + 6 * kA)) + 1) = (((14 + (3 + 6 * kA)) + 5) + (3 + 6 * kB))) by omega), if_neg (show ¬ (((1 + (3 + 6 * kA)) + 1) = ((((14 + (3 + 6 * kA)) + 1) + (3 + 6 * kB)) + 3)) by omega), if_neg (show ¬ (((1 + (3 + 6 * kA)) + 1) = ((((14 + (3 + 6 * kA)) + 1) + (3 + 6 * kB)) + 2)) by omega), if_neg (show ¬ (((1 + (3 + 6 * kA)) + 1) = ((((14 + (3 + 6 * kA)) + 1) + (3 + 6 * kB)) + 1)) by omega), if_neg (show ¬ (((1 + (3 + 6 * kA)) + 1) = (((14 + (3 + 6 * kA)) + 1) + (3 + 6 * kB))) by omega), if_neg (show ¬ (((1 + (3 + 6 * kA)) + 1) = ((14 + (3 + 6 * kA)) + (3 + 6 * kB))) by omega), if_neg (show ¬ (((1 + (3 + 6 * kA)) + 1) = ((14 + (3 + 6 * kA)) + 1)) by omega), if_neg (show ¬ (((1 + (3 + 6 * kA)) + 1) = (14 + (3 + 6 * kA))) by omega), if_neg (show ¬ (((1 + (3 + 6 * kA)) + 1) = (5 + (3 + 6 * kA))) by omega), if_neg (show ¬ (((1 + (3 + 6 * kA)) + 1) = ((1 + (3 + 6 * kA)) + 3)) by omega), if_neg (show ¬ (((1 + (3 + 6 * kA)) + 1) = ((1 + (3 + 6 * kA)) + 2)) by omega), if_pos rfl]
theorem own_Fa2 (kA kB : Nat) (hA : kA ≤ 3) (hB : kB ≤ 3) (p3 : Int32) (q0 q1 q2 : Int64) : own_F kA kB p3 q0 q1 q2 ((1 + (3 + 6 * kA)) + 2) = (nar .byte ((((q0.toUInt64 >>> ((8 : Int32) &&& 0x3f).toInt64.toUInt64).toInt64).toInt32).toInt8.toInt32)) := by
  unfold own_F
  dsimp only
  rw [if_neg (show ¬ (((1 + (3 + 6 * kA)) + 2) = (((14 + (3 + 6 * kA)) + 5) + (3 + 6 * kB))) by omega), if_neg (show ¬ (((1 + (3 + 6 * kA)) + 2) = ((((14 + (3 + 6 * kA)) + 1) + (3 + 6 * kB)) + 3)) by omega), if_neg (show ¬ (((1 + (3 + 6 * kA)) + 2) = ((((14 + (3 + 6 * kA)) + 1) + (3 + 6 * kB)) + 2)) by omega), if_neg (show ¬ (((1 + (3 + 6 * kA)) + 2) = ((((14 + (3 + 6 * kA)) + 1) + (3 + 6 * kB)) + 1)) by omega), if_neg (show ¬ (((1 + (3 + 6 * kA)) + 2) = (((14 + (3 + 6 * kA)) + 1) + (3 + 6 * kB))) by omega), if_neg (show ¬ (((1 + (3 + 6 * kA)) + 2) = ((14 + (3 + 6 * kA)) + (3 + 6 * kB))) by omega), if_neg (show ¬ (((1 + (3 + 6 * kA)) + 2) = ((14 + (3 + 6 * kA)) + 1)) by omega), if_neg (show ¬ (((1 + (3 + 6 * kA)) + 2) = (14 + (3 + 6 * kA))) by omega), if_neg (show ¬ (((1 + (3 + 6 * kA)) + 2) = (5 + (3 + 6 * kA))) by omega), if_neg (show ¬ (((1 + (3 + 6 * kA)) + 2) = ((1 + (3 + 6 * kA)) + 3)) by omega), if_pos rfl]
theorem own_Fa3 (kA kB : Nat) (hA : kA ≤ 3) (hB : kB ≤ 3) (p3 : Int32) (q0 q1 q2 : Int64) : own_F kA kB p3 q0 q1 q2 ((1 + (3 + 6 * kA)) + 3) = (nar .byte ((q0.toInt32).toInt8.toInt32)) := by
  unfold own_F
  dsimp only
  rw [if_neg (show ¬ (((1 + (3 + 6 * kA)) + 3) = (((14 + (3 + 6 * kA)) + 5) + (3 + 6 * kB))) by omega), if_neg (show ¬ (((1 + (3 + 6 * kA)) + 3) = ((((14 + (3 + 6 * kA)) + 1) + (3 + 6 * kB)) + 3)) by omega), if_neg (show ¬ (((1 + (3 + 6 * kA)) + 3) = ((((14 + (3 + 6 * kA)) + 1) + (3 + 6 * kB)) + 2)) by omega), if_neg (show ¬ (((1 + (3 + 6 * kA)) + 3) = ((((14 + (3 + 6 * kA)) + 1) + (3 + 6 * kB)) + 1)) by omega), if_neg (show ¬ (((1 + (3 + 6 * kA)) + 3) = (((14 + (3 + 6 * kA)) + 1) + (3 + 6 * kB))) by omega), if_neg (show ¬ (((1 + (3 + 6 * kA)) + 3) = ((14 + (3 + 6 * kA)) + (3 + 6 * kB))) by omega), if_neg (show ¬ (((1 + (3 + 6 * kA)) + 3) = ((14 + (3 + 6 * kA)) + 1)) by omega), if_neg (show ¬ (((1 + (3 + 6 * kA)) + 3) = (14 + (3 + 6 * kA))) by omega), if_neg (show ¬ (((1 + (3 + 6 * kA)) + 3) = (5 + (3 + 6 * kA))) by omega), if_pos rfl]
theorem own_Fb0 (kA kB : Nat) (hA : kA ≤ 3) (hB : kB ≤ 3) (p3 : Int32) (q0 q1 q2 : Int64) : own_F kA kB p3 q0 q1 q2 (((14 + (3 + 6 * kA)) + 1) + (3 + 6 * kB)) = (nar .byte ((((q1.toUInt64 >>> ((24 : Int32) &&& 0x3f).toInt64.toUInt64).toInt64).toInt32).toInt8.toInt32)) := by
  unfold own_F
  dsimp only
  rw [if_neg (show ¬ ((((14 + (3 + 6 * kA)) + 1) + (3 + 6 * kB)) = (((14 + (3 + 6 * kA)) + 5) + (3 + 6 * kB))) by omega), if_neg (show ¬ ((((14 + (3 + 6 * kA)) + 1) + (3 + 6 * kB)) = ((((14 + (3 + 6 * kA)) + 1) + (3 + 6 * kB)) + 3)) by omega), if_neg (show ¬ ((((14 + (3 + 6 * kA)) + 1) + (3 + 6 * kB)) = ((((14 + (3 + 6 * kA)) + 1) + (3 + 6 * kB)) + 2)) by omega), if_neg (show ¬ ((((14 + (3 + 6 * kA)) + 1) + (3 + 6 * kB)) = ((((14 + (3 + 6 * kA)) + 1) + (3 + 6 * kB)) + 1)) by omega), if_pos rfl]
theorem own_Fb1 (kA kB : Nat) (hA : kA ≤ 3) (hB : kB ≤ 3) (p3 : Int32) (q0 q1 q2 : Int64) : own_F kA kB p3 q0 q1 q2 ((((14 + (3 + 6 * kA)) + 1) + (3 + 6 * kB)) + 1) = (nar .byte ((((q1.toUInt64 >>> ((16 : Int32) &&& 0x3f).toInt64.toUInt64).toInt64).toInt32).toInt8.toInt32)) := by
  unfold own_F
  dsimp only
  rw [if_neg (show ¬ (((((14 + (3 + 6 * kA)) + 1) + (3 + 6 * kB)) + 1) = (((14 + (3 + 6 * kA)) + 5) + (3 + 6 * kB))) by omega), if_neg (show ¬ (((((14 + (3 + 6 * kA)) + 1) + (3 + 6 * kB)) + 1) = ((((14 + (3 + 6 * kA)) + 1) + (3 + 6 * kB)) + 3)) by omega), if_neg (show ¬ (((((14 + (3 + 6 * kA)) + 1) + (3 + 6 * kB)) + 1) = ((((14 + (3 + 6 * kA)) + 1) + (3 + 6 * kB)) + 2)) by omega), if_pos rfl]
theorem own_Fb2 (kA kB : Nat) (hA : kA ≤ 3) (hB : kB ≤ 3) (p3 : Int32) (q0 q1 q2 : Int64) : own_F kA kB p3 q0 q1 q2 ((((14 + (3 + 6 * kA)) + 1) + (3 + 6 * kB)) + 2) = (nar .byte ((((q1.toUInt64 >>> ((8 : Int32) &&& 0x3f).toInt64.toUInt64).toInt64).toInt32).toInt8.toInt32)) := by
  unfold own_F
  dsimp only
  rw [if_neg (show ¬ (((((14 + (3 + 6 * kA)) + 1) + (3 + 6 * kB)) + 2) = (((14 + (3 + 6 * kA)) + 5) + (3 + 6 * kB))) by omega), if_neg (show ¬ (((((14 + (3 + 6 * kA)) + 1) + (3 + 6 * kB)) + 2) = ((((14 + (3 + 6 * kA)) + 1) + (3 + 6 * kB)) + 3)) by omega), if_pos rfl]
theorem own_Fb3 (kA kB : Nat) (hA : kA ≤ 3) (hB : kB ≤ 3) (p3 : Int32) (q0 q1 q2 : Int64) : own_F kA kB p3 q0 q1 q2 ((((14 + (3 + 6 * kA)) + 1) + (3 + 6 * kB)) + 3) = (nar .byte ((q1.toInt32).toInt8.toInt32)) := by
  unfold own_F
  dsimp only
  rw [if_neg (show ¬ (((((14 + (3 + 6 * kA)) + 1) + (3 + 6 * kB)) + 3) = (((14 + (3 + 6 * kA)) + 5) + (3 + 6 * kB))) by omega), if_pos rfl]
theorem own_pd2 : parseMethodDescriptor "([BIJ)V" = some ⟨[(.array .byte), .int, .long], none⟩ := by decide +kernel
theorem own_pd3 : parseMethodDescriptor "([B)V" = some ⟨[(.array .byte)], none⟩ := by decide +kernel
theorem own_pd4 : parseMethodDescriptor "()Z" = some ⟨[], some .boolean⟩ := by decide +kernel
theorem own_pd5 : parseMethodDescriptor "()J" = some ⟨[], some .long⟩ := by decide +kernel
theorem ef_law (m : MethodId) (q0 : Int64) (q1 : Int64) (q2 : Int64) (p3 : Int32) : entryFrame m #[(.long q0), (.long q1), (.long q2), (.int p3)] maxLocals = mkF m 0 #[.val (.long q0), .second, .val (.long q1), .second, .val (.long q2), .second, .val (.int p3), .unset, .unset, .unset, .unset, .unset, .unset, .unset, .unset, .unset, .unset, .unset] [] := by first | (simp [entryFrame, mkF, argsToLocals, Value.category, maxLocals]; done) | rfl
def Q_law (Z : State) (q0 : Int64) (q1 : Int64) (q2 : Int64) (p3 : Int32) (h0 : Heap) (n0 : Nat) (v : Option Value) (h : Heap) (L : List Loc) : Prop := v = some (.int 1) ∧ Fr n0 L
set_option maxRecDepth 65536 in
set_option maxHeartbeats 40000000 in
theorem rm_law (l : Launch) (Z : State) (a0 : Array Value) (hw : ∀ d ∈ tables_1, d.before a0 Z = true) (ws : List Jvm.Cond) (q0 : Int64) (q1 : Int64) (q2 : Int64) (p3 : Int32) (h0 : Heap) (n0 : Nat) (Z0 : n0 ≤ h0.size) :
    MetFree l x (head1 (Jvm.Cond.code x code maxLocals ret :: ws) room_1) (fun a U => a = #[(.long q0), (.long q1), (.long q2), (.int p3)] ∧ Z.Warmed39 U.vm ∧ U.heap = h0) (fun _ _ _ _ _ => True) (fun _ U o U' => ∃ v L, o = .returned v ∧ Q_law Z q0 q1 q2 p3 h0 n0 v U'.heap L ∧ FrameEnd U o U' L 2 76) := by
  refine MetFree.of_bodySF (plainFor_of_name own_pn0) hisR ?_
  intro p e s m args below meth c s₁ Bd hml0 hP hK
  obtain ⟨rfl, hZ, hh⟩ := hP
  have hx := Bd.exec
  have hby := Bd.bytes
  have hml : c.maxLocals = 18 := hml0
  have hown : s.vm.findClass "com/example/kest/kest/codec/ReaderTimestampPinLaw" = some m.cls := findClass_of_methodNamed Bd.named
  have hnm := (name_of_methodNamed Bd.named Bd.method).1
  have X0 : Stand p l e room_1 s m #[(.long q0), (.long q1), (.long q2), (.int p3)] below meth c s₁ [] 0 0 := Stand.of_body Bd
  have e0 : s₁.heap = h0 := by rw [← hh, Bd.state]; rfl
  have N0 := Fr.nil n0
  have pre0 : ∀ t, Steps p.tables e below (s₁.setTop (mkF m 0 #[.val (.long q0), .second, .val (.long q1), .second, .val (.long q2), .second, .val (.int p3), .unset, .unset, .unset, .unset, .unset, .unset, .unset, .unset, .unset, .unset, .unset] [])) t → Steps p.tables e below (s₁.setTop (entryFrame m #[(.long q0), (.long q1), (.long q2), (.int p3)] maxLocals)) t := fun t k => castTop (ef_law m q0 q1 q2 p3) k
  obtain ⟨kA, hkA, hc1, hl1⟩ := own_len p3
  obtain ⟨kB, hkB, hc2, hl2⟩ := own_len ((p3.toUInt32 >>> ((2 : Int32) &&& 31).toUInt32).toInt32)
  have hp2 := own_add own_k14 hl1 (by omega)
  obtain ⟨T1, h1, k1, X1, e1, E1, A1, st1⟩ := newP X0 hx hZ (hw _ (List.mem_of_getElem? (i := 0) rfl)) e0 (g := (mkF m 34 #[.val (.long q0), .second, .val (.long q1), .second, .val (.long q2), .second, .val (.int p3), .val (.int (p3 &&& (3 : Int32))), .val (.int (((p3.toUInt32 >>> ((2 : Int32) &&& 31).toUInt32).toInt32) &&& (3 : Int32))), .val (.int ((3 : Int32) + ((6 : Int32) * (p3 &&& (3 : Int32))))), .val (.int ((3 : Int32) + ((6 : Int32) * (((p3.toUInt32 >>> ((2 : Int32) &&& 31).toUInt32).toInt32) &&& (3 : Int32))))), .unset, .unset, .unset, .unset, .unset, .unset, .unset] [(.int (72 : Int32))])) rfl (hb hby at_34) rfl (by decide) (cap := 72) (by decide) (by decide) (by decide) (by decide)
  obtain ⟨b1, g1⟩ : ∃ z, z = h0.size := ⟨_, rfl⟩
  rw [← g1] at A1 st1
  have g_b1 : n0 ≤ b1 := Nat.le_trans Z0 (Nat.le_of_eq g1.symm)
  have Z1 : n0 ≤ h1.size := Nat.le_trans Z0 E1.1
  have Y1 : Byt Z h1 b1 (fun _ => 0) := ⟨_, A1, sz_new _ _ _, fun i hi => by first | (simp [newA, newarray.typeOf, defaultValue, hi]; done) | (simp [newA, newarray.typeOf, defaultValue, hi]; exact hi)⟩
  obtain ⟨cl3, Ar3, S3, H3⟩ := id Y1
  obtain ⟨T4, h4, X4, e4, W4, st4⟩ := stB X1 hx hZ e1 Ar3 (j := (0 : Int32)) (own_in S3 0 own_k0 (by decide)) (g := (mkF m 44 #[.val (.long q0), .second, .val (.long q1), .second, .val (.long q2), .second, .val (.int p3), .val (.int (p3 &&& (3 : Int32))), .val (.int (((p3.toUInt32 >>> ((2 : Int32) &&& 31).toUInt32).toInt32) &&& (3 : Int32))), .val (.int ((3 : Int32) + ((6 : Int32) * (p3 &&& (3 : Int32))))), .val (.int ((3 : Int32) + ((6 : Int32) * (((p3.toUInt32 >>> ((2 : Int32) &&& 31).toUInt32).toInt32) &&& (3 : Int32))))), .val (.ref b1), .unset, .unset, .unset, .unset, .unset, .unset] [(.int ((p3 &&& (3 : Int32)).toInt8.toInt32)), (.int (0 : Int32)), (.ref b1)])) rfl rfl (hb hby at_44)
  have Y4 : Byt Z h4 b1 (fun i => if i = 0 then (nar .byte ((p3 &&& (3 : Int32)).toInt8.toInt32)) else (fun _ => 0) i) := Byt.put Ar3 S3 H3 W4 0 (own_nc 0 own_k0)
  have N4 := Fr.snoc X4 N0 g_b1
  have Z4 : n0 ≤ h4.size := Nat.le_trans Z1 (Keep.of_wr W4).1
  obtain ⟨cl6, Ar6, S6, H6⟩ := id Y4
  obtain ⟨T7, h7, X7, e7, W7, st7⟩ := stB X4 hx hZ e4 Ar6 (j := (1 : Int32)) (own_in S6 1 own_k1 (by decide)) (g := (mkF m 52 #[.val (.long q0), .second, .val (.long q1), .second, .val (.long q2), .second, .val (.int p3), .val (.int (p3 &&& (3 : Int32))), .val (.int (((p3.toUInt32 >>> ((2 : Int32) &&& 31).toUInt32).toInt32) &&& (3 : Int32))), .val (.int ((3 : Int32) + ((6 : Int32) * (p3 &&& (3 : Int32))))), .val (.int ((3 : Int32) + ((6 : Int32) * (((p3.toUInt32 >>> ((2 : Int32) &&& 31).toUInt32).toInt32) &&& (3 : Int32))))), .val (.ref b1), .unset, .unset, .unset, .unset, .unset, .unset] [(.int ((q2.toInt32).toInt8.toInt32)), (.int (1 : Int32)), (.ref b1)])) rfl rfl (hb hby at_52)
  have Y7 : Byt Z h7 b1 (fun i => if i = 1 then (nar .byte ((q2.toInt32).toInt8.toInt32)) else (fun i => if i = 0 then (nar .byte ((p3 &&& (3 : Int32)).toInt8.toInt32)) else (fun _ => 0) i) i) := Byt.put Ar6 S6 H6 W7 1 (own_nc 1 own_k1)
  have N7 := Fr.snoc X7 N4 g_b1
  have Z7 : n0 ≤ h7.size := Nat.le_trans Z4 (Keep.of_wr W7).1
  obtain ⟨cl9, Ar9, S9, H9⟩ := id Y7
  obtain ⟨T10, h10, X10, e10, W10, st10⟩ := stB X7 hx hZ e7 Ar9 (j := ((3 : Int32) + ((6 : Int32) * (p3 &&& (3 : Int32))))) (own_in S9 (3 + 6 * kA) hl1 (by omega)) (g := (mkF m 64 #[.val (.long q0), .second, .val (.long q1), .second, .val (.long q2), .second, .val (.int p3), .val (.int (p3 &&& (3 : Int32))), .val (.int (((p3.toUInt32 >>> ((2 : Int32) &&& 31).toUInt32).toInt32) &&& (3 : Int32))), .val (.int ((3 : Int32) + ((6 : Int32) * (p3 &&& (3 : Int32))))), .val (.int ((3 : Int32) + ((6 : Int32) * (((p3.toUInt32 >>> ((2 : Int32) &&& 31).toUInt32).toInt32) &&& (3 : Int32))))), .val (.ref b1), .unset, .unset, .unset, .unset, .unset, .unset] [(.int ((((q2.toUInt64 >>> ((8 : Int32) &&& 0x3f).toInt64.toUInt64).toInt64).toInt32).toInt8.toInt32)), (.int ((3 : Int32) + ((6 : Int32) * (p3 &&& (3 : Int32))))), (.ref b1)])) rfl rfl (hb hby at_64)
  have Y10 : Byt Z h10 b1 (fun i => if i = (3 + 6 * kA) then (nar .byte ((((q2.toUInt64 >>> ((8 : Int32) &&& 0x3f).toInt64.toUInt64).toInt64).toInt32).toInt8.toInt32)) else (fun i => if i = 1 then (nar .byte ((q2.toInt32).toInt8.toInt32)) else (fun i => if i = 0 then (nar .byte ((p3 &&& (3 : Int32)).toInt8.toInt32)) else (fun _ => 0) i) i) i) := Byt.put Ar9 S9 H9 W10 (3 + 6 * kA) (own_nc (3 + 6 * kA) hl1)
  have N10 := Fr.snoc X10 N7 g_b1
  have Z10 : n0 ≤ h10.size := Nat.le_trans Z7 (Keep.of_wr W10).1
  obtain ⟨_, _, ⟨T12, L12, k12, n12⟩, -, X12, ⟨Lc12, hQ12, l12, y12, z12⟩, st12⟩ := Jvm.LawKit.callS X10 hx (y := (⟨"com/example/kest/kest/codec/ReaderTimestampPinLaw", "put", "([BIJ)V"⟩ : MethodName)) hown (mvT hZ (hw _ (List.mem_of_getElem? (i := 1) rfl))) (mvT hZ (hw _ (List.mem_of_getElem? (i := 2) rfl))) (mvT hZ (hw _ (List.mem_of_getElem? (i := 3) rfl))) (mvT hZ (hw _ (List.mem_of_getElem? (i := 4) rfl))) (by decide) (backOf (W := 0) (rm_put l Z a0 hw [] b1 ((1 : Int32) + ((3 : Int32) + ((6 : Int32) * (p3 &&& (3 : Int32))))) q0 (fun i => if i = (3 + 6 * kA) then (nar .byte ((((q2.toUInt64 >>> ((8 : Int32) &&& 0x3f).toInt64.toUInt64).toInt64).toInt32).toInt8.toInt32)) else (fun i => if i = 1 then (nar .byte ((q2.toInt32).toInt8.toInt32)) else (fun i => if i = 0 then (nar .byte ((p3 &&& (3 : Int32)).toInt8.toInt32)) else (fun _ => 0) i) i) i) (1 + (3 + 6 * kA)) h10 n0 Z10 Y10 (own_add own_k1 hl1 (by omega)) (by omega) g_b1) hZ (hw _ (List.mem_of_getElem? (i := 4) rfl)) (hw _ (List.mem_of_getElem? (i := 3) rfl)) (by decide) (by decide)) (g := (mkF m 72 #[.val (.long q0), .second, .val (.long q1), .second, .val (.long q2), .second, .val (.int p3), .val (.int (p3 &&& (3 : Int32))), .val (.int (((p3.toUInt32 >>> ((2 : Int32) &&& 31).toUInt32).toInt32) &&& (3 : Int32))), .val (.int ((3 : Int32) + ((6 : Int32) * (p3 &&& (3 : Int32))))), .val (.int ((3 : Int32) + ((6 : Int32) * (((p3.toUInt32 >>> ((2 : Int32) &&& 31).toUInt32).toInt32) &&& (3 : Int32))))), .val (.ref b1), .unset, .unset, .unset, .unset, .unset, .unset] [(.long q0), (.int ((1 : Int32) + ((3 : Int32) + ((6 : Int32) * (p3 &&& (3 : Int32)))))), (.ref b1)])) rfl (by rw [hml]; rfl) (argsL := [(.ref b1), (.int ((1 : Int32) + ((3 : Int32) + ((6 : Int32) * (p3 &&& (3 : Int32)))))), (.long q0)]) (rest := []) (lenOf own_pd2 rfl) rfl (by show 2 * 0 + _ ≤ _; exact Nat.le_of_eq rfl) (hb hby at_72) (fun _ _ => ⟨rfl, e10, (by decide : 1 + 0 ≤ _), (by decide : 72 + 0 ≤ _)⟩)
  dsimp only [Pt.U, Pt.locs, Pt.cells, Pt.slots] at X12 l12 y12 z12 st12 hQ12
  subst l12 y12 z12
  obtain ⟨rfl, Nq12, Kq12, Yq12⟩ := hQ12
  have N12 := Fr.app N10 Nq12
  have Z12 : n0 ≤ T12.heap.size := Nat.le_trans Z10 Kq12.1
  obtain ⟨cl14, Ar14, S14, H14⟩ := id Yq12
  obtain ⟨T15, h15, X15, e15, W15, st15⟩ := stB X12 hx hZ rfl Ar14 (j := ((5 : Int32) + ((3 : Int32) + ((6 : Int32) * (p3 &&& (3 : Int32)))))) (own_in S14 (5 + (3 + 6 * kA)) (own_add own_k5 hl1 (by omega)) (by omega)) (g := (mkF m 88 #[.val (.long q0), .second, .val (.long q1), .second, .val (.long q2), .second, .val (.int p3), .val (.int (p3 &&& (3 : Int32))), .val (.int (((p3.toUInt32 >>> ((2 : Int32) &&& 31).toUInt32).toInt32) &&& (3 : Int32))), .val (.int ((3 : Int32) + ((6 : Int32) * (p3 &&& (3 : Int32))))), .val (.int ((3 : Int32) + ((6 : Int32) * (((p3.toUInt32 >>> ((2 : Int32) &&& 31).toUInt32).toInt32) &&& (3 : Int32))))), .val (.ref b1), .unset, .unset, .unset, .unset, .unset, .unset] [(.int ((((q2.toUInt64 >>> ((16 : Int32) &&& 0x3f).toInt64.toUInt64).toInt64).toInt32).toInt8.toInt32)), (.int ((5 : Int32) + ((3 : Int32) + ((6 : Int32) * (p3 &&& (3 : Int32)))))), (.ref b1)])) rfl rfl (hb hby at_88)
  have Y15 : Byt Z h15 b1 (fun i => if i = (5 + (3 + 6 * kA)) then (nar .byte ((((q2.toUInt64 >>> ((16 : Int32) &&& 0x3f).toInt64.toUInt64).toInt64).toInt32).toInt8.toInt32)) else (fun i => if i = ((1 + (3 + 6 * kA)) + 3) then (nar .byte ((q0.toInt32).toInt8.toInt32)) else (fun i => if i = ((1 + (3 + 6 * kA)) + 2) then (nar .byte ((((q0.toUInt64 >>> ((8 : Int32) &&& 0x3f).toInt64.toUInt64).toInt64).toInt32).toInt8.toInt32)) else (fun i => if i = ((1 + (3 + 6 * kA)) + 1) then (nar .byte ((((q0.toUInt64 >>> ((16 : Int32) &&& 0x3f).toInt64.toUInt64).toInt64).toInt32).toInt8.toInt32)) else (fun i => if i = (1 + (3 + 6 * kA)) then (nar .byte ((((q0.toUInt64 >>> ((24 : Int32) &&& 0x3f).toInt64.toUInt64).toInt64).toInt32).toInt8.toInt32)) else (fun i => if i = (3 + 6 * kA) then (nar .byte ((((q2.toUInt64 >>> ((8 : Int32) &&& 0x3f).toInt64.toUInt64).toInt64).toInt32).toInt8.toInt32)) else (fun i => if i = 1 then (nar .byte ((q2.toInt32).toInt8.toInt32)) else (fun i => if i = 0 then (nar .byte ((p3 &&& (3 : Int32)).toInt8.toInt32)) else (fun _ => 0) i) i) i) i) i) i) i) i) := Byt.put Ar14 S14 H14 W15 (5 + (3 + 6 * kA)) (own_nc (5 + (3 + 6 * kA)) (own_add own_k5 hl1 (by omega)))
  have N15 := Fr.snoc X15 N12 g_b1
  have Z15 : n0 ≤ h15.size := Nat.le_trans Z12 (Keep.of_wr W15).1
  obtain ⟨cl17, Ar17, S17, H17⟩ := id Y15
  obtain ⟨T18, h18, X18, e18, W18, st18⟩ := stB X15 hx hZ e15 Ar17 (j := ((14 : Int32) + ((3 : Int32) + ((6 : Int32) * (p3 &&& (3 : Int32)))))) (own_in S17 (14 + (3 + 6 * kA)) hp2 (by omega)) (g := (mkF m 103 #[.val (.long q0), .second, .val (.long q1), .second, .val (.long q2), .second, .val (.int p3), .val (.int (p3 &&& (3 : Int32))), .val (.int (((p3.toUInt32 >>> ((2 : Int32) &&& 31).toUInt32).toInt32) &&& (3 : Int32))), .val (.int ((3 : Int32) + ((6 : Int32) * (p3 &&& (3 : Int32))))), .val (.int ((3 : Int32) + ((6 : Int32) * (((p3.toUInt32 >>> ((2 : Int32) &&& 31).toUInt32).toInt32) &&& (3 : Int32))))), .val (.ref b1), .val (.int ((14 : Int32) + ((3 : Int32) + ((6 : Int32) * (p3 &&& (3 : Int32)))))), .unset, .unset, .unset, .unset, .unset] [(.int ((((p3.toUInt32 >>> ((2 : Int32) &&& 31).toUInt32).toInt32) &&& (3 : Int32)).toInt8.toInt32)), (.int ((14 : Int32) + ((3 : Int32) + ((6 : Int32) * (p3 &&& (3 : Int32)))))), (.ref b1)])) rfl rfl (hb hby at_103)
  have Y18 : Byt Z h18 b1 (fun i => if i = (14 + (3 + 6 * kA)) then (nar .byte ((((p3.toUInt32 >>> ((2 : Int32) &&& 31).toUInt32).toInt32) &&& (3 : Int32)).toInt8.toInt32)) else (fun i => if i = (5 + (3 + 6 * kA)) then (nar .byte ((((q2.toUInt64 >>> ((16 : Int32) &&& 0x3f).toInt64.toUInt64).toInt64).toInt32).toInt8.toInt32)) else (fun i => if i = ((1 + (3 + 6 * kA)) + 3) then (nar .byte ((q0.toInt32).toInt8.toInt32)) else (fun i => if i = ((1 + (3 + 6 * kA)) + 2) then (nar .byte ((((q0.toUInt64 >>> ((8 : Int32) &&& 0x3f).toInt64.toUInt64).toInt64).toInt32).toInt8.toInt32)) else (fun i => if i = ((1 + (3 + 6 * kA)) + 1) then (nar .byte ((((q0.toUInt64 >>> ((16 : Int32) &&& 0x3f).toInt64.toUInt64).toInt64).toInt32).toInt8.toInt32)) else (fun i => if i = (1 + (3 + 6 * kA)) then (nar .byte ((((q0.toUInt64 >>> ((24 : Int32) &&& 0x3f).toInt64.toUInt64).toInt64).toInt32).toInt8.toInt32)) else (fun i => if i = (3 + 6 * kA) then (nar .byte ((((q2.toUInt64 >>> ((8 : Int32) &&& 0x3f).toInt64.toUInt64).toInt64).toInt32).toInt8.toInt32)) else (fun i => if i = 1 then (nar .byte ((q2.toInt32).toInt8.toInt32)) else (fun i => if i = 0 then (nar .byte ((p3 &&& (3 : Int32)).toInt8.toInt32)) else (fun _ => 0) i) i) i) i) i) i) i) i) i) := Byt.put Ar17 S17 H17 W18 (14 + (3 + 6 * kA)) (own_nc (14 + (3 + 6 * kA)) hp2)
  have N18 := Fr.snoc X18 N15 g_b1
  have Z18 : n0 ≤ h18.size := Nat.le_trans Z15 (Keep.of_wr W18).1
  obtain ⟨cl20, Ar20, S20, H20⟩ := id Y18
  obtain ⟨T21, h21, X21, e21, W21, st21⟩ := stB X18 hx hZ e18 Ar20 (j := (((14 : Int32) + ((3 : Int32) + ((6 : Int32) * (p3 &&& (3 : Int32))))) + (1 : Int32))) (own_in S20 ((14 + (3 + 6 * kA)) + 1) (own_add hp2 own_k1 (by omega)) (by omega)) (g := (mkF m 117 #[.val (.long q0), .second, .val (.long q1), .second, .val (.long q2), .second, .val (.int p3), .val (.int (p3 &&& (3 : Int32))), .val (.int (((p3.toUInt32 >>> ((2 : Int32) &&& 31).toUInt32).toInt32) &&& (3 : Int32))), .val (.int ((3 : Int32) + ((6 : Int32) * (p3 &&& (3 : Int32))))), .val (.int ((3 : Int32) + ((6 : Int32) * (((p3.toUInt32 >>> ((2 : Int32) &&& 31).toUInt32).toInt32) &&& (3 : Int32))))), .val (.ref b1), .val (.int ((14 : Int32) + ((3 : Int32) + ((6 : Int32) * (p3 &&& (3 : Int32)))))), .unset, .unset, .unset, .unset, .unset] [(.int ((((q2.toUInt64 >>> ((24 : Int32) &&& 0x3f).toInt64.toUInt64).toInt64).toInt32).toInt8.toInt32)), (.int (((14 : Int32) + ((3 : Int32) + ((6 : Int32) * (p3 &&& (3 : Int32))))) + (1 : Int32))), (.ref b1)])) rfl rfl (hb hby at_117)
  have Y21 : Byt Z h21 b1 (fun i => if i = ((14 + (3 + 6 * kA)) + 1) then (nar .byte ((((q2.toUInt64 >>> ((24 : Int32) &&& 0x3f).toInt64.toUInt64).toInt64).toInt32).toInt8.toInt32)) else (fun i => if i = (14 + (3 + 6 * kA)) then (nar .byte ((((p3.toUInt32 >>> ((2 : Int32) &&& 31).toUInt32).toInt32) &&& (3 : Int32)).toInt8.toInt32)) else (fun i => if i = (5 + (3 + 6 * kA)) then (nar .byte ((((q2.toUInt64 >>> ((16 : Int32) &&& 0x3f).toInt64.toUInt64).toInt64).toInt32).toInt8.toInt32)) else (fun i => if i = ((1 + (3 + 6 * kA)) + 3) then (nar .byte ((q0.toInt32).toInt8.toInt32)) else (fun i => if i = ((1 + (3 + 6 * kA)) + 2) then (nar .byte ((((q0.toUInt64 >>> ((8 : Int32) &&& 0x3f).toInt64.toUInt64).toInt64).toInt32).toInt8.toInt32)) else (fun i => if i = ((1 + (3 + 6 * kA)) + 1) then (nar .byte ((((q0.toUInt64 >>> ((16 : Int32) &&& 0x3f).toInt64.toUInt64).toInt64).toInt32).toInt8.toInt32)) else (fun i => if i = (1 + (3 + 6 * kA)) then (nar .byte ((((q0.toUInt64 >>> ((24 : Int32) &&& 0x3f).toInt64.toUInt64).toInt64).toInt32).toInt8.toInt32)) else (fun i => if i = (3 + 6 * kA) then (nar .byte ((((q2.toUInt64 >>> ((8 : Int32) &&& 0x3f).toInt64.toUInt64).toInt64).toInt32).toInt8.toInt32)) else (fun i => if i = 1 then (nar .byte ((q2.toInt32).toInt8.toInt32)) else (fun i => if i = 0 then (nar .byte ((p3 &&& (3 : Int32)).toInt8.toInt32)) else (fun _ => 0) i) i) i) i) i) i) i) i) i) i) := Byt.put Ar20 S20 H20 W21 ((14 + (3 + 6 * kA)) + 1) (own_nc ((14 + (3 + 6 * kA)) + 1) (own_add hp2 own_k1 (by omega)))
  have N21 := Fr.snoc X21 N18 g_b1
  have Z21 : n0 ≤ h21.size := Nat.le_trans Z18 (Keep.of_wr W21).1
  obtain ⟨cl23, Ar23, S23, H23⟩ := id Y21
  obtain ⟨T24, h24, X24, e24, W24, st24⟩ := stB X21 hx hZ e21 Ar23 (j := (((14 : Int32) + ((3 : Int32) + ((6 : Int32) * (p3 &&& (3 : Int32))))) + ((3 : Int32) + ((6 : Int32) * (((p3.toUInt32 >>> ((2 : Int32) &&& 31).toUInt32).toInt32) &&& (3 : Int32)))))) (own_in S23 ((14 + (3 + 6 * kA)) + (3 + 6 * kB)) (own_add hp2 hl2 (by omega)) (by omega)) (g := (mkF m 132 #[.val (.long q0), .second, .val (.long q1), .second, .val (.long q2), .second, .val (.int p3), .val (.int (p3 &&& (3 : Int32))), .val (.int (((p3.toUInt32 >>> ((2 : Int32) &&& 31).toUInt32).toInt32) &&& (3 : Int32))), .val (.int ((3 : Int32) + ((6 : Int32) * (p3 &&& (3 : Int32))))), .val (.int ((3 : Int32) + ((6 : Int32) * (((p3.toUInt32 >>> ((2 : Int32) &&& 31).toUInt32).toInt32) &&& (3 : Int32))))), .val (.ref b1), .val (.int ((14 : Int32) + ((3 : Int32) + ((6 : Int32) * (p3 &&& (3 : Int32)))))), .unset, .unset, .unset, .unset, .unset] [(.int ((((q2.toUInt64 >>> ((32 : Int32) &&& 0x3f).toInt64.toUInt64).toInt64).toInt32).toInt8.toInt32)), (.int (((14 : Int32) + ((3 : Int32) + ((6 : Int32) * (p3 &&& (3 : Int32))))) + ((3 : Int32) + ((6 : Int32) * (((p3.toUInt32 >>> ((2 : Int32) &&& 31).toUInt32).toInt32) &&& (3 : Int32)))))), (.ref b1)])) rfl rfl (hb hby at_132)
  have Y24 : Byt Z h24 b1 (fun i => if i = ((14 + (3 + 6 * kA)) + (3 + 6 * kB)) then (nar .byte ((((q2.toUInt64 >>> ((32 : Int32) &&& 0x3f).toInt64.toUInt64).toInt64).toInt32).toInt8.toInt32)) else (fun i => if i = ((14 + (3 + 6 * kA)) + 1) then (nar .byte ((((q2.toUInt64 >>> ((24 : Int32) &&& 0x3f).toInt64.toUInt64).toInt64).toInt32).toInt8.toInt32)) else (fun i => if i = (14 + (3 + 6 * kA)) then (nar .byte ((((p3.toUInt32 >>> ((2 : Int32) &&& 31).toUInt32).toInt32) &&& (3 : Int32)).toInt8.toInt32)) else (fun i => if i = (5 + (3 + 6 * kA)) then (nar .byte ((((q2.toUInt64 >>> ((16 : Int32) &&& 0x3f).toInt64.toUInt64).toInt64).toInt32).toInt8.toInt32)) else (fun i => if i = ((1 + (3 + 6 * kA)) + 3) then (nar .byte ((q0.toInt32).toInt8.toInt32)) else (fun i => if i = ((1 + (3 + 6 * kA)) + 2) then (nar .byte ((((q0.toUInt64 >>> ((8 : Int32) &&& 0x3f).toInt64.toUInt64).toInt64).toInt32).toInt8.toInt32)) else (fun i => if i = ((1 + (3 + 6 * kA)) + 1) then (nar .byte ((((q0.toUInt64 >>> ((16 : Int32) &&& 0x3f).toInt64.toUInt64).toInt64).toInt32).toInt8.toInt32)) else (fun i => if i = (1 + (3 + 6 * kA)) then (nar .byte ((((q0.toUInt64 >>> ((24 : Int32) &&& 0x3f).toInt64.toUInt64).toInt64).toInt32).toInt8.toInt32)) else (fun i => if i = (3 + 6 * kA) then (nar .byte ((((q2.toUInt64 >>> ((8 : Int32) &&& 0x3f).toInt64.toUInt64).toInt64).toInt32).toInt8.toInt32)) else (fun i => if i = 1 then (nar .byte ((q2.toInt32).toInt8.toInt32)) else (fun i => if i = 0 then (nar .byte ((p3 &&& (3 : Int32)).toInt8.toInt32)) else (fun _ => 0) i) i) i) i) i) i) i) i) i) i) i) := Byt.put Ar23 S23 H23 W24 ((14 + (3 + 6 * kA)) + (3 + 6 * kB)) (own_nc ((14 + (3 + 6 * kA)) + (3 + 6 * kB)) (own_add hp2 hl2 (by omega)))
  have N24 := Fr.snoc X24 N21 g_b1
  have Z24 : n0 ≤ h24.size := Nat.le_trans Z21 (Keep.of_wr W24).1
  obtain ⟨_, _, ⟨T26, L26, k26, n26⟩, -, X26, ⟨Lc26, hQ26, l26, y26, z26⟩, st26⟩ := Jvm.LawKit.callS X24 hx (y := (⟨"com/example/kest/kest/codec/ReaderTimestampPinLaw", "put", "([BIJ)V"⟩ : MethodName)) hown (mvT hZ (hw _ (List.mem_of_getElem? (i := 1) rfl))) (mvT hZ (hw _ (List.mem_of_getElem? (i := 2) rfl))) (mvT hZ (hw _ (List.mem_of_getElem? (i := 3) rfl))) (mvT hZ (hw _ (List.mem_of_getElem? (i := 4) rfl))) (by decide) (backOf (W := 0) (rm_put l Z a0 hw [] b1 ((((14 : Int32) + ((3 : Int32) + ((6 : Int32) * (p3 &&& (3 : Int32))))) + (1 : Int32)) + ((3 : Int32) + ((6 : Int32) * (((p3.toUInt32 >>> ((2 : Int32) &&& 31).toUInt32).toInt32) &&& (3 : Int32))))) q1 (fun i => if i = ((14 + (3 + 6 * kA)) + (3 + 6 * kB)) then (nar .byte ((((q2.toUInt64 >>> ((32 : Int32) &&& 0x3f).toInt64.toUInt64).toInt64).toInt32).toInt8.toInt32)) else (fun i => if i = ((14 + (3 + 6 * kA)) + 1) then (nar .byte ((((q2.toUInt64 >>> ((24 : Int32) &&& 0x3f).toInt64.toUInt64).toInt64).toInt32).toInt8.toInt32)) else (fun i => if i = (14 + (3 + 6 * kA)) then (nar .byte ((((p3.toUInt32 >>> ((2 : Int32) &&& 31).toUInt32).toInt32) &&& (3 : Int32)).toInt8.toInt32)) else (fun i => if i = (5 + (3 + 6 * kA)) then (nar .byte ((((q2.toUInt64 >>> ((16 : Int32) &&& 0x3f).toInt64.toUInt64).toInt64).toInt32).toInt8.toInt32)) else (fun i => if i = ((1 + (3 + 6 * kA)) + 3) then (nar .byte ((q0.toInt32).toInt8.toInt32)) else (fun i => if i = ((1 + (3 + 6 * kA)) + 2) then (nar .byte ((((q0.toUInt64 >>> ((8 : Int32) &&& 0x3f).toInt64.toUInt64).toInt64).toInt32).toInt8.toInt32)) else (fun i => if i = ((1 + (3 + 6 * kA)) + 1) then (nar .byte ((((q0.toUInt64 >>> ((16 : Int32) &&& 0x3f).toInt64.toUInt64).toInt64).toInt32).toInt8.toInt32)) else (fun i => if i = (1 + (3 + 6 * kA)) then (nar .byte ((((q0.toUInt64 >>> ((24 : Int32) &&& 0x3f).toInt64.toUInt64).toInt64).toInt32).toInt8.toInt32)) else (fun i => if i = (3 + 6 * kA) then (nar .byte ((((q2.toUInt64 >>> ((8 : Int32) &&& 0x3f).toInt64.toUInt64).toInt64).toInt32).toInt8.toInt32)) else (fun i => if i = 1 then (nar .byte ((q2.toInt32).toInt8.toInt32)) else (fun i => if i = 0 then (nar .byte ((p3 &&& (3 : Int32)).toInt8.toInt32)) else (fun _ => 0) i) i) i) i) i) i) i) i) i) i) i) (((14 + (3 + 6 * kA)) + 1) + (3 + 6 * kB)) h24 n0 Z24 Y24 (own_add (own_add hp2 own_k1 (by omega)) hl2 (by omega)) (by omega) g_b1) hZ (hw _ (List.mem_of_getElem? (i := 4) rfl)) (hw _ (List.mem_of_getElem? (i := 3) rfl)) (by decide) (by decide)) (g := (mkF m 143 #[.val (.long q0), .second, .val (.long q1), .second, .val (.long q2), .second, .val (.int p3), .val (.int (p3 &&& (3 : Int32))), .val (.int (((p3.toUInt32 >>> ((2 : Int32) &&& 31).toUInt32).toInt32) &&& (3 : Int32))), .val (.int ((3 : Int32) + ((6 : Int32) * (p3 &&& (3 : Int32))))), .val (.int ((3 : Int32) + ((6 : Int32) * (((p3.toUInt32 >>> ((2 : Int32) &&& 31).toUInt32).toInt32) &&& (3 : Int32))))), .val (.ref b1), .val (.int ((14 : Int32) + ((3 : Int32) + ((6 : Int32) * (p3 &&& (3 : Int32)))))), .unset, .unset, .unset, .unset, .unset] [(.long q1), (.int ((((14 : Int32) + ((3 : Int32) + ((6 : Int32) * (p3 &&& (3 : Int32))))) + (1 : Int32)) + ((3 : Int32) + ((6 : Int32) * (((p3.toUInt32 >>> ((2 : Int32) &&& 31).toUInt32).toInt32) &&& (3 : Int32)))))), (.ref b1)])) rfl (by rw [hml]; rfl) (argsL := [(.ref b1), (.int ((((14 : Int32) + ((3 : Int32) + ((6 : Int32) * (p3 &&& (3 : Int32))))) + (1 : Int32)) + ((3 : Int32) + ((6 : Int32) * (((p3.toUInt32 >>> ((2 : Int32) &&& 31).toUInt32).toInt32) &&& (3 : Int32)))))), (.long q1)]) (rest := []) (lenOf own_pd2 rfl) rfl (by show 2 * 0 + _ ≤ _; exact Nat.le_of_eq rfl) (hb hby at_143) (fun _ _ => ⟨rfl, e24, (by decide : 1 + 0 ≤ _), (by decide : 72 + 0 ≤ _)⟩)
  dsimp only [Pt.U, Pt.locs, Pt.cells, Pt.slots] at X26 l26 y26 z26 st26 hQ26
  subst l26 y26 z26
  obtain ⟨rfl, Nq26, Kq26, Yq26⟩ := hQ26
  have N26 := Fr.app N24 Nq26
  have Z26 : n0 ≤ T26.heap.size := Nat.le_trans Z24 Kq26.1
  obtain ⟨cl28, Ar28, S28, H28⟩ := id Yq26
  obtain ⟨T29, h29, X29, e29, W29, st29⟩ := stB X26 hx hZ rfl Ar28 (j := ((((14 : Int32) + ((3 : Int32) + ((6 : Int32) * (p3 &&& (3 : Int32))))) + (5 : Int32)) + ((3 : Int32) + ((6 : Int32) * (((p3.toUInt32 >>> ((2 : Int32) &&& 31).toUInt32).toInt32) &&& (3 : Int32)))))) (own_in S28 (((14 + (3 + 6 * kA)) + 5) + (3 + 6 * kB)) (own_add (own_add hp2 own_k5 (by omega)) hl2 (by omega)) (by omega)) (g := (mkF m 162 #[.val (.long q0), .second, .val (.long q1), .second, .val (.long q2), .second, .val (.int p3), .val (.int (p3 &&& (3 : Int32))), .val (.int (((p3.toUInt32 >>> ((2 : Int32) &&& 31).toUInt32).toInt32) &&& (3 : Int32))), .val (.int ((3 : Int32) + ((6 : Int32) * (p3 &&& (3 : Int32))))), .val (.int ((3 : Int32) + ((6 : Int32) * (((p3.toUInt32 >>> ((2 : Int32) &&& 31).toUInt32).toInt32) &&& (3 : Int32))))), .val (.ref b1), .val (.int ((14 : Int32) + ((3 : Int32) + ((6 : Int32) * (p3 &&& (3 : Int32)))))), .unset, .unset, .unset, .unset, .unset] [(.int ((((q2.toUInt64 >>> ((40 : Int32) &&& 0x3f).toInt64.toUInt64).toInt64).toInt32).toInt8.toInt32)), (.int ((((14 : Int32) + ((3 : Int32) + ((6 : Int32) * (p3 &&& (3 : Int32))))) + (5 : Int32)) + ((3 : Int32) + ((6 : Int32) * (((p3.toUInt32 >>> ((2 : Int32) &&& 31).toUInt32).toInt32) &&& (3 : Int32)))))), (.ref b1)])) rfl rfl (hb hby at_162)
  have Y29 : Byt Z h29 b1 (fun i => if i = (((14 + (3 + 6 * kA)) + 5) + (3 + 6 * kB)) then (nar .byte ((((q2.toUInt64 >>> ((40 : Int32) &&& 0x3f).toInt64.toUInt64).toInt64).toInt32).toInt8.toInt32)) else (fun i => if i = ((((14 + (3 + 6 * kA)) + 1) + (3 + 6 * kB)) + 3) then (nar .byte ((q1.toInt32).toInt8.toInt32)) else (fun i => if i = ((((14 + (3 + 6 * kA)) + 1) + (3 + 6 * kB)) + 2) then (nar .byte ((((q1.toUInt64 >>> ((8 : Int32) &&& 0x3f).toInt64.toUInt64).toInt64).toInt32).toInt8.toInt32)) else (fun i => if i = ((((14 + (3 + 6 * kA)) + 1) + (3 + 6 * kB)) + 1) then (nar .byte ((((q1.toUInt64 >>> ((16 : Int32) &&& 0x3f).toInt64.toUInt64).toInt64).toInt32).toInt8.toInt32)) else (fun i => if i = (((14 + (3 + 6 * kA)) + 1) + (3 + 6 * kB)) then (nar .byte ((((q1.toUInt64 >>> ((24 : Int32) &&& 0x3f).toInt64.toUInt64).toInt64).toInt32).toInt8.toInt32)) else (fun i => if i = ((14 + (3 + 6 * kA)) + (3 + 6 * kB)) then (nar .byte ((((q2.toUInt64 >>> ((32 : Int32) &&& 0x3f).toInt64.toUInt64).toInt64).toInt32).toInt8.toInt32)) else (fun i => if i = ((14 + (3 + 6 * kA)) + 1) then (nar .byte ((((q2.toUInt64 >>> ((24 : Int32) &&& 0x3f).toInt64.toUInt64).toInt64).toInt32).toInt8.toInt32)) else (fun i => if i = (14 + (3 + 6 * kA)) then (nar .byte ((((p3.toUInt32 >>> ((2 : Int32) &&& 31).toUInt32).toInt32) &&& (3 : Int32)).toInt8.toInt32)) else (fun i => if i = (5 + (3 + 6 * kA)) then (nar .byte ((((q2.toUInt64 >>> ((16 : Int32) &&& 0x3f).toInt64.toUInt64).toInt64).toInt32).toInt8.toInt32)) else (fun i => if i = ((1 + (3 + 6 * kA)) + 3) then (nar .byte ((q0.toInt32).toInt8.toInt32)) else (fun i => if i = ((1 + (3 + 6 * kA)) + 2) then (nar .byte ((((q0.toUInt64 >>> ((8 : Int32) &&& 0x3f).toInt64.toUInt64).toInt64).toInt32).toInt8.toInt32)) else (fun i => if i = ((1 + (3 + 6 * kA)) + 1) then (nar .byte ((((q0.toUInt64 >>> ((16 : Int32) &&& 0x3f).toInt64.toUInt64).toInt64).toInt32).toInt8.toInt32)) else (fun i => if i = (1 + (3 + 6 * kA)) then (nar .byte ((((q0.toUInt64 >>> ((24 : Int32) &&& 0x3f).toInt64.toUInt64).toInt64).toInt32).toInt8.toInt32)) else (fun i => if i = (3 + 6 * kA) then (nar .byte ((((q2.toUInt64 >>> ((8 : Int32) &&& 0x3f).toInt64.toUInt64).toInt64).toInt32).toInt8.toInt32)) else (fun i => if i = 1 then (nar .byte ((q2.toInt32).toInt8.toInt32)) else (fun i => if i = 0 then (nar .byte ((p3 &&& (3 : Int32)).toInt8.toInt32)) else (fun _ => 0) i) i) i) i) i) i) i) i) i) i) i) i) i) i) i) i) := Byt.put Ar28 S28 H28 W29 (((14 + (3 + 6 * kA)) + 5) + (3 + 6 * kB)) (own_nc (((14 + (3 + 6 * kA)) + 5) + (3 + 6 * kB)) (own_add (own_add hp2 own_k5 (by omega)) hl2 (by omega)))
  have N29 := Fr.snoc X29 N26 g_b1
  have Z29 : n0 ≤ h29.size := Nat.le_trans Z26 (Keep.of_wr W29).1
  obtain ⟨F, hF⟩ : ∃ F : Nat → Int32, F = own_F kA kB p3 q0 q1 q2 := ⟨_, rfl⟩
  have YF : Byt Z h29 b1 (own_F kA kB p3 q0 q1 q2) := Y29
  rw [← hF] at YF
  have F0 : F 0 = (nar .byte ((p3 &&& (3 : Int32)).toInt8.toInt32)) := by rw [hF]; exact own_F0 kA kB hkA hkB p3 q0 q1 q2
  have F1 : F (14 + (3 + 6 * kA)) = (nar .byte ((((p3.toUInt32 >>> ((2 : Int32) &&& 31).toUInt32).toInt32) &&& (3 : Int32)).toInt8.toInt32)) := by rw [hF]; exact own_F1 kA kB hkA hkB p3 q0 q1 q2
  have Fa0 : F (1 + (3 + 6 * kA)) = (nar .byte ((((q0.toUInt64 >>> ((24 : Int32) &&& 0x3f).toInt64.toUInt64).toInt64).toInt32).toInt8.toInt32)) := by rw [hF]; exact own_Fa0 kA kB hkA hkB p3 q0 q1 q2
  have Fa1 : F ((1 + (3 + 6 * kA)) + 1) = (nar .byte ((((q0.toUInt64 >>> ((16 : Int32) &&& 0x3f).toInt64.toUInt64).toInt64).toInt32).toInt8.toInt32)) := by rw [hF]; exact own_Fa1 kA kB hkA hkB p3 q0 q1 q2
  have Fa2 : F ((1 + (3 + 6 * kA)) + 2) = (nar .byte ((((q0.toUInt64 >>> ((8 : Int32) &&& 0x3f).toInt64.toUInt64).toInt64).toInt32).toInt8.toInt32)) := by rw [hF]; exact own_Fa2 kA kB hkA hkB p3 q0 q1 q2
  have Fa3 : F ((1 + (3 + 6 * kA)) + 3) = (nar .byte ((q0.toInt32).toInt8.toInt32)) := by rw [hF]; exact own_Fa3 kA kB hkA hkB p3 q0 q1 q2
  have Fb0 : F (((14 + (3 + 6 * kA)) + 1) + (3 + 6 * kB)) = (nar .byte ((((q1.toUInt64 >>> ((24 : Int32) &&& 0x3f).toInt64.toUInt64).toInt64).toInt32).toInt8.toInt32)) := by rw [hF]; exact own_Fb0 kA kB hkA hkB p3 q0 q1 q2
  have Fb1 : F ((((14 + (3 + 6 * kA)) + 1) + (3 + 6 * kB)) + 1) = (nar .byte ((((q1.toUInt64 >>> ((16 : Int32) &&& 0x3f).toInt64.toUInt64).toInt64).toInt32).toInt8.toInt32)) := by rw [hF]; exact own_Fb1 kA kB hkA hkB p3 q0 q1 q2
  have Fb2 : F ((((14 + (3 + 6 * kA)) + 1) + (3 + 6 * kB)) + 2) = (nar .byte ((((q1.toUInt64 >>> ((8 : Int32) &&& 0x3f).toInt64.toUInt64).toInt64).toInt32).toInt8.toInt32)) := by rw [hF]; exact own_Fb2 kA kB hkA hkB p3 q0 q1 q2
  have Fb3 : F ((((14 + (3 + 6 * kA)) + 1) + (3 + 6 * kB)) + 3) = (nar .byte ((q1.toInt32).toInt8.toInt32)) := by rw [hF]; exact own_Fb3 kA kB hkA hkB p3 q0 q1 q2
  have sl1 := own_sl (p3 &&& (3 : Int32)) (F 0) kA hkA hc1 F0
  have sl2 := own_sl (((p3.toUInt32 >>> ((2 : Int32) &&& 31).toUInt32).toInt32) &&& (3 : Int32)) (F (14 + (3 + 6 * kA))) kB hkB hc2 F1
  have se1 := own_add own_k0 own_k1 (by omega)
  have at1 := own_add se1 sl1 (by omega)
  have nx1 := own_add (own_add at1 own_k4 (by omega)) own_k9 (by omega)
  have nx1' : (((((0 : Int32) + (1 : Int32)) + ((3 : Int32) + (((F 0) &&& (255 : Int32)) * (6 : Int32)))) + (4 : Int32)) + (9 : Int32)).toInt = ((14 + (3 + 6 * kA) : Nat) : Int) := by first | (rw [nx1]; done) | (rw [nx1]; omega)
  have se2 := own_add nx1' own_k1 (by omega)
  have at2 := own_add se2 sl2 (by omega)
  have nx2 := own_add (own_add at2 own_k4 (by omega)) own_k9 (by omega)
  have ta : (own_ts (F (1 + (3 + 6 * kA))) (F ((1 + (3 + 6 * kA)) + 1)) (F ((1 + (3 + 6 * kA)) + 2)) (F ((1 + (3 + 6 * kA)) + 3))) = (q0 &&& (4294967295 : Int64)) := by rw [Fa0, Fa1, Fa2, Fa3]; exact own_ts_eq q0
  have tb : (own_ts (F (((14 + (3 + 6 * kA)) + 1) + (3 + 6 * kB))) (F ((((14 + (3 + 6 * kA)) + 1) + (3 + 6 * kB)) + 1)) (F ((((14 + (3 + 6 * kA)) + 1) + (3 + 6 * kB)) + 2)) (F ((((14 + (3 + 6 * kA)) + 1) + (3 + 6 * kB)) + 3))) = (q1 &&& (4294967295 : Int64)) := by rw [Fb0, Fb1, Fb2, Fb3]; exact own_ts_eq q1
  obtain ⟨T31, h31, X31, e31, E31, A31, D31, -, st31⟩ := newO X29 hx hZ hown (hw _ (List.mem_of_getElem? (i := 5) rfl)) (hw _ (List.mem_of_getElem? (i := 6) rfl)) (hw _ (List.mem_of_getElem? (i := 7) rfl)) e29 (g := (mkF m 163 #[.val (.long q0), .second, .val (.long q1), .second, .val (.long q2), .second, .val (.int p3), .val (.int (p3 &&& (3 : Int32))), .val (.int (((p3.toUInt32 >>> ((2 : Int32) &&& 31).toUInt32).toInt32) &&& (3 : Int32))), .val (.int ((3 : Int32) + ((6 : Int32) * (p3 &&& (3 : Int32))))), .val (.int ((3 : Int32) + ((6 : Int32) * (((p3.toUInt32 >>> ((2 : Int32) &&& 31).toUInt32).toInt32) &&& (3 : Int32))))), .val (.ref b1), .val (.int ((14 : Int32) + ((3 : Int32) + ((6 : Int32) * (p3 &&& (3 : Int32)))))), .unset, .unset, .unset, .unset, .unset] [])) rfl (hb hby at_163) (by decide) (by decide)
  obtain ⟨b31, g31⟩ : ∃ z, z = h29.size := ⟨_, rfl⟩
  rw [← g31] at A31 D31 st31
  have ne_b1_b31 : b1 ≠ b31 := Nat.ne_of_lt (Nat.lt_of_lt_of_le YF.lt (Nat.le_of_eq g31.symm))
  have g_b31 : n0 ≤ b31 := Nat.le_trans Z29 (Nat.le_of_eq g31.symm)
  have f32_1 := YF.ext E31
  have Z31 : n0 ≤ h31.size := Nat.le_trans Z29 E31.1
  have F_series_b31 : Fld Z h31 b31 "com/example/kest/kest/codec/PointLog$Reader" "series" "I" (.int (0 : Int32)) := D31 (Or.inl (hw _ (List.mem_of_getElem? (i := 15) rfl))) (ty := .int) (by decide)
  have F_record_b31 : Fld Z h31 b31 "com/example/kest/kest/codec/PointLog$Reader" "record" "[B" .null := D31 (Or.inr (hw _ (List.mem_of_getElem? (i := 17) rfl))) (ty := (.array .byte)) (by decide)
  have F_next_b31 : Fld Z h31 b31 "com/example/kest/kest/codec/PointLog$Reader" "next" "I" (.int (0 : Int32)) := D31 (Or.inl (hw _ (List.mem_of_getElem? (i := 24) rfl))) (ty := .int) (by decide)
  have F_seriesLength_b31 : Fld Z h31 b31 "com/example/kest/kest/codec/PointLog$Reader" "seriesLength" "I" (.int (0 : Int32)) := D31 (Or.inl (hw _ (List.mem_of_getElem? (i := 26) rfl))) (ty := .int) (by decide)
  obtain ⟨_, _, ⟨T33, L33, k33, n33⟩, -, X33, ⟨Lc33, hQ33, l33, y33, z33⟩, st33⟩ := X31.specialBack hx (y := (⟨"com/example/kest/kest/codec/PointLog$Reader", "<init>", "([B)V"⟩ : MethodName)) rfl hown (mvT hZ (hw _ (List.mem_of_getElem? (i := 8) rfl))) (mvT hZ (hw _ (List.mem_of_getElem? (i := 9) rfl))) (mvT hZ (hw _ (List.mem_of_getElem? (i := 10) rfl))) (by decide) (backOf (W := 1) (rm_init l Z a0 hw [] b31 b1 h31 n0 Z31 A31 g_b31 F_record_b31 F_series_b31 F_next_b31 F_seriesLength_b31) hZ (hw _ (List.mem_of_getElem? (i := 10) rfl)) (hw _ (List.mem_of_getElem? (i := 7) rfl)) (by decide) (by decide)) (g := (mkF m 169 #[.val (.long q0), .second, .val (.long q1), .second, .val (.long q2), .second, .val (.int p3), .val (.int (p3 &&& (3 : Int32))), .val (.int (((p3.toUInt32 >>> ((2 : Int32) &&& 31).toUInt32).toInt32) &&& (3 : Int32))), .val (.int ((3 : Int32) + ((6 : Int32) * (p3 &&& (3 : Int32))))), .val (.int ((3 : Int32) + ((6 : Int32) * (((p3.toUInt32 >>> ((2 : Int32) &&& 31).toUInt32).toInt32) &&& (3 : Int32))))), .val (.ref b1), .val (.int ((14 : Int32) + ((3 : Int32) + ((6 : Int32) * (p3 &&& (3 : Int32)))))), .unset, .unset, .unset, .unset, .unset] [(.ref b1), (.ref b31), (.ref b31)])) rfl (by rw [hml]; rfl) (Steps.refl _) (a := b31) (argsL := [(.ref b1)]) (rest := [(.ref b31)]) (lenOf own_pd3 rfl) rfl (by show 2 * 0 + _ ≤ _; exact Nat.le_of_eq rfl) (hb hby at_169) (fun _ _ => ⟨rfl, e31, (by decide : 2 + 0 ≤ _), (by decide : 76 + 0 ≤ _)⟩)
  dsimp only [Pt.U, Pt.locs, Pt.cells, Pt.slots] at X33 l33 y33 z33 st33 hQ33
  subst l33 y33 z33
  obtain ⟨rfl, Nq33, Kq33, Eq33, Fq33_record, Fq33_series, Fq33_next, Fq33_seriesLength⟩ := hQ33
  have N33 := Fr.app N29 Nq33
  have f34_1 := f32_1.keep Kq33 (ninS ne_b1_b31 nin0)
  have f34_2 := A31.keep Kq33
  have Z33 : n0 ≤ T33.heap.size := Nat.le_trans Z31 Kq33.1
  obtain ⟨cq35, kq35, q35a, q35b, q35c⟩ := isOf hZ rfl f34_2
  obtain ⟨_, _, ⟨T35, L35, k35, n35⟩, -, X35, ⟨Lc35, hQ35, l35, y35, z35⟩, st35⟩ := X33.virtualBack hx (y := (⟨"com/example/kest/kest/codec/PointLog$Reader", "next", "()Z"⟩ : MethodName)) (z := (⟨"com/example/kest/kest/codec/PointLog$Reader", "next", "()Z"⟩ : MethodName)) hown (mvT hZ (hw _ (List.mem_of_getElem? (i := 18) rfl))) (mvT hZ (hw _ (List.mem_of_getElem? (i := 19) rfl))) (notFace_of_selects (args := #[]) (mvT hZ (hw _ (List.mem_of_getElem? (i := 21) rfl)))) (mvT hZ (hw _ (List.mem_of_getElem? (i := 21) rfl))) (mvT hZ (hw _ (List.mem_of_getElem? (i := 20) rfl))) (by decide) (backOf (W := 0) (rm_next l Z a0 hw [] b31 b1 F 0 (0 : Int32) (-1 : Int32) (0 : Int32) T33.heap n0 Z33 f34_2 g_b31 f34_1 own_k0 (by decide) ne_b1_b31 (by decide : ¬ ((0 : Int32) = (72 : Int32))) (own_nlt nx1 (by omega)) Fq33_record Fq33_series Fq33_next Fq33_seriesLength) hZ (hw _ (List.mem_of_getElem? (i := 22) rfl)) (hw _ (List.mem_of_getElem? (i := 7) rfl)) (by decide) (by decide)) q35a q35c (g := (mkF m 176 #[.val (.long q0), .second, .val (.long q1), .second, .val (.long q2), .second, .val (.int p3), .val (.int (p3 &&& (3 : Int32))), .val (.int (((p3.toUInt32 >>> ((2 : Int32) &&& 31).toUInt32).toInt32) &&& (3 : Int32))), .val (.int ((3 : Int32) + ((6 : Int32) * (p3 &&& (3 : Int32))))), .val (.int ((3 : Int32) + ((6 : Int32) * (((p3.toUInt32 >>> ((2 : Int32) &&& 31).toUInt32).toInt32) &&& (3 : Int32))))), .val (.ref b1), .val (.int ((14 : Int32) + ((3 : Int32) + ((6 : Int32) * (p3 &&& (3 : Int32)))))), .val (.ref b31), .unset, .unset, .unset, .unset] [(.ref b31)])) rfl (by rw [hml]; rfl) (Steps.refl _) (argsL := []) (rest := []) (lenOf own_pd4 rfl) rfl (by show 2 * 0 + _ ≤ _; exact Nat.le_of_eq rfl) (hb hby at_176) (fun _ _ => ⟨rfl, rfl, (by decide : 2 + 0 ≤ _), (by decide : 76 + 0 ≤ _)⟩)
  dsimp only [Pt.U, Pt.locs, Pt.cells, Pt.slots] at X35 l35 y35 z35 st35 hQ35
  subst l35 y35 z35
  obtain ⟨rfl, Nq35, Kq35, Fq35_record, Fq35_series, Fq35_next, Fq35_seriesLength⟩ := hQ35
  have N35 := Fr.app N33 Nq35
  have f36_1 := f34_1.keep Kq35 (ninS ne_b1_b31 nin0)
  have f36_2 := f34_2.keep Kq35
  have Z35 : n0 ≤ T35.heap.size := Nat.le_trans Z33 Kq35.1
  obtain ⟨cq37, kq37, q37a, q37b, q37c⟩ := isOf hZ rfl f36_2
  obtain ⟨_, _, ⟨T37, L37, k37, n37⟩, -, X37, ⟨Lc37, hQ37, l37, y37, z37⟩, st37⟩ := X35.virtualBack hx (y := (⟨"com/example/kest/kest/codec/PointLog$Reader", "timestamp", "()J"⟩ : MethodName)) (z := (⟨"com/example/kest/kest/codec/PointLog$Reader", "timestamp", "()J"⟩ : MethodName)) hown (mvT hZ (hw _ (List.mem_of_getElem? (i := 27) rfl))) (mvT hZ (hw _ (List.mem_of_getElem? (i := 28) rfl))) (notFace_of_selects (args := #[]) (mvT hZ (hw _ (List.mem_of_getElem? (i := 30) rfl)))) (mvT hZ (hw _ (List.mem_of_getElem? (i := 30) rfl))) (mvT hZ (hw _ (List.mem_of_getElem? (i := 29) rfl))) (by decide) (backOf (W := 0) (rm_ts l Z a0 hw [] b31 b1 F (1 + (3 + 6 * kA)) ((0 : Int32) + (1 : Int32)) ((3 : Int32) + (((F 0) &&& (255 : Int32)) * (6 : Int32))) T35.heap n0 Z35 f36_1 (by first | (rw [at1]; done) | (rw [at1]; omega)) (by omega) Fq35_record Fq35_series Fq35_seriesLength) hZ (hw _ (List.mem_of_getElem? (i := 31) rfl)) (hw _ (List.mem_of_getElem? (i := 7) rfl)) (by decide) (by decide)) q37a q37c (g := (mkF m 186 #[.val (.long q0), .second, .val (.long q1), .second, .val (.long q2), .second, .val (.int p3), .val (.int (p3 &&& (3 : Int32))), .val (.int (((p3.toUInt32 >>> ((2 : Int32) &&& 31).toUInt32).toInt32) &&& (3 : Int32))), .val (.int ((3 : Int32) + ((6 : Int32) * (p3 &&& (3 : Int32))))), .val (.int ((3 : Int32) + ((6 : Int32) * (((p3.toUInt32 >>> ((2 : Int32) &&& 31).toUInt32).toInt32) &&& (3 : Int32))))), .val (.ref b1), .val (.int ((14 : Int32) + ((3 : Int32) + ((6 : Int32) * (p3 &&& (3 : Int32)))))), .val (.ref b31), .unset, .unset, .unset, .unset] [(.ref b31)])) rfl (by rw [hml]; rfl) (Steps.refl _) (argsL := []) (rest := []) (lenOf own_pd5 rfl) rfl (by show 2 * 0 + _ ≤ _; exact Nat.le_of_eq rfl) (hb hby at_186) (fun _ _ => ⟨rfl, rfl, (by decide : 2 + 0 ≤ _), (by decide : 76 + 0 ≤ _)⟩)
  dsimp only [Pt.U, Pt.locs, Pt.cells, Pt.slots] at X37 l37 y37 z37 st37 hQ37
  subst l37 y37 z37
  obtain ⟨rfl, Nq37, e37⟩ := hQ37
  have N37 := Fr.app N35 Nq37
  obtain ⟨cq38, kq38, q38a, q38b, q38c⟩ := isOf hZ e37 f36_2
  obtain ⟨_, _, ⟨T38, L38, k38, n38⟩, -, X38, ⟨Lc38, hQ38, l38, y38, z38⟩, st38⟩ := X37.virtualBack hx (y := (⟨"com/example/kest/kest/codec/PointLog$Reader", "next", "()Z"⟩ : MethodName)) (z := (⟨"com/example/kest/kest/codec/PointLog$Reader", "next", "()Z"⟩ : MethodName)) hown (mvT hZ (hw _ (List.mem_of_getElem? (i := 18) rfl))) (mvT hZ (hw _ (List.mem_of_getElem? (i := 19) rfl))) (notFace_of_selects (args := #[]) (mvT hZ (hw _ (List.mem_of_getElem? (i := 21) rfl)))) (mvT hZ (hw _ (List.mem_of_getElem? (i := 21) rfl))) (mvT hZ (hw _ (List.mem_of_getElem? (i := 20) rfl))) (by decide) (backOf (W := 0) (rm_next l Z a0 hw [] b31 b1 F (14 + (3 + 6 * kA)) (((((0 : Int32) + (1 : Int32)) + ((3 : Int32) + (((F 0) &&& (255 : Int32)) * (6 : Int32)))) + (4 : Int32)) + (9 : Int32)) ((0 : Int32) + (1 : Int32)) ((3 : Int32) + (((F 0) &&& (255 : Int32)) * (6 : Int32))) T35.heap n0 Z35 f36_2 g_b31 f36_1 nx1' (by omega) ne_b1_b31 (own_neq nx1' (by omega)) (own_nlt nx2 (by omega)) Fq35_record Fq35_series Fq35_next Fq35_seriesLength) hZ (hw _ (List.mem_of_getElem? (i := 22) rfl)) (hw _ (List.mem_of_getElem? (i := 7) rfl)) (by decide) (by decide)) q38a q38c (g := (mkF m 193 #[.val (.long q0), .second, .val (.long q1), .second, .val (.long q2), .second, .val (.int p3), .val (.int (p3 &&& (3 : Int32))), .val (.int (((p3.toUInt32 >>> ((2 : Int32) &&& 31).toUInt32).toInt32) &&& (3 : Int32))), .val (.int ((3 : Int32) + ((6 : Int32) * (p3 &&& (3 : Int32))))), .val (.int ((3 : Int32) + ((6 : Int32) * (((p3.toUInt32 >>> ((2 : Int32) &&& 31).toUInt32).toInt32) &&& (3 : Int32))))), .val (.ref b1), .val (.int ((14 : Int32) + ((3 : Int32) + ((6 : Int32) * (p3 &&& (3 : Int32)))))), .val (.ref b31), .val (.long (own_ts (F (1 + (3 + 6 * kA))) (F ((1 + (3 + 6 * kA)) + 1)) (F ((1 + (3 + 6 * kA)) + 2)) (F ((1 + (3 + 6 * kA)) + 3)))), .second, .unset, .unset] [(.ref b31)])) rfl (by rw [hml]; rfl) (Steps.refl _) (argsL := []) (rest := []) (lenOf own_pd4 rfl) rfl (by show 2 * 0 + _ ≤ _; exact Nat.le_of_eq rfl) (hb hby at_193) (fun _ _ => ⟨rfl, e37, (by decide : 2 + 0 ≤ _), (by decide : 76 + 0 ≤ _)⟩)
  dsimp only [Pt.U, Pt.locs, Pt.cells, Pt.slots] at X38 l38 y38 z38 st38 hQ38
  subst l38 y38 z38
  obtain ⟨rfl, Nq38, Kq38, Fq38_record, Fq38_series, Fq38_next, Fq38_seriesLength⟩ := hQ38
  have N38 := Fr.app N37 Nq38
  have f39_1 := f36_1.keep Kq38 (ninS ne_b1_b31 nin0)
  have f39_2 := f36_2.keep Kq38
  have Z38 : n0 ≤ T38.heap.size := Nat.le_trans Z35 Kq38.1
  obtain ⟨cq40, kq40, q40a, q40b, q40c⟩ := isOf hZ rfl f39_2
  obtain ⟨_, _, ⟨T40, L40, k40, n40⟩, -, X40, ⟨Lc40, hQ40, l40, y40, z40⟩, st40⟩ := X38.virtualBack hx (y := (⟨"com/example/kest/kest/codec/PointLog$Reader", "timestamp", "()J"⟩ : MethodName)) (z := (⟨"com/example/kest/kest/codec/PointLog$Reader", "timestamp", "()J"⟩ : MethodName)) hown (mvT hZ (hw _ (List.mem_of_getElem? (i := 27) rfl))) (mvT hZ (hw _ (List.mem_of_getElem? (i := 28) rfl))) (notFace_of_selects (args := #[]) (mvT hZ (hw _ (List.mem_of_getElem? (i := 30) rfl)))) (mvT hZ (hw _ (List.mem_of_getElem? (i := 30) rfl))) (mvT hZ (hw _ (List.mem_of_getElem? (i := 29) rfl))) (by decide) (backOf (W := 0) (rm_ts l Z a0 hw [] b31 b1 F (((14 + (3 + 6 * kA)) + 1) + (3 + 6 * kB)) ((((((0 : Int32) + (1 : Int32)) + ((3 : Int32) + (((F 0) &&& (255 : Int32)) * (6 : Int32)))) + (4 : Int32)) + (9 : Int32)) + (1 : Int32)) ((3 : Int32) + (((F (14 + (3 + 6 * kA))) &&& (255 : Int32)) * (6 : Int32))) T38.heap n0 Z38 f39_1 (by first | (rw [at2]; done) | (rw [at2]; omega)) (by omega) Fq38_record Fq38_series Fq38_seriesLength) hZ (hw _ (List.mem_of_getElem? (i := 31) rfl)) (hw _ (List.mem_of_getElem? (i := 7) rfl)) (by decide) (by decide)) q40a q40c (g := (mkF m 203 #[.val (.long q0), .second, .val (.long q1), .second, .val (.long q2), .second, .val (.int p3), .val (.int (p3 &&& (3 : Int32))), .val (.int (((p3.toUInt32 >>> ((2 : Int32) &&& 31).toUInt32).toInt32) &&& (3 : Int32))), .val (.int ((3 : Int32) + ((6 : Int32) * (p3 &&& (3 : Int32))))), .val (.int ((3 : Int32) + ((6 : Int32) * (((p3.toUInt32 >>> ((2 : Int32) &&& 31).toUInt32).toInt32) &&& (3 : Int32))))), .val (.ref b1), .val (.int ((14 : Int32) + ((3 : Int32) + ((6 : Int32) * (p3 &&& (3 : Int32)))))), .val (.ref b31), .val (.long (own_ts (F (1 + (3 + 6 * kA))) (F ((1 + (3 + 6 * kA)) + 1)) (F ((1 + (3 + 6 * kA)) + 2)) (F ((1 + (3 + 6 * kA)) + 3)))), .second, .unset, .unset] [(.ref b31)])) rfl (by rw [hml]; rfl) (Steps.refl _) (argsL := []) (rest := []) (lenOf own_pd5 rfl) rfl (by show 2 * 0 + _ ≤ _; exact Nat.le_of_eq rfl) (hb hby at_203) (fun _ _ => ⟨rfl, rfl, (by decide : 2 + 0 ≤ _), (by decide : 76 + 0 ≤ _)⟩)
  dsimp only [Pt.U, Pt.locs, Pt.cells, Pt.slots] at X40 l40 y40 z40 st40 hQ40
  subst l40 y40 z40
  obtain ⟨rfl, Nq40, e40⟩ := hQ40
  have N40 := Fr.app N38 Nq40
  obtain ⟨fs, hr, hrun, hended, hW, hsame⟩ := X40.leave (v := some (.int (1 : Int32))) (fun h => by rw [Bd.returns] at h; cases h)
  refine ⟨_, _, pre0 _ ?_, hrun, hended, _, _, rfl, ?_, ⟨_, rfl⟩, hW, hsame.mono (by decide) (by decide)⟩
  · show Steps p.tables e below (s₁.setTop (mkF m 0 #[.val (.long q0), .second, .val (.long q1), .second, .val (.long q2), .second, .val (.int p3), .unset, .unset, .unset, .unset, .unset, .unset, .unset, .unset, .unset, .unset, .unset] [])) _
    refine XS.iload X0.here hx rfl (hb hby at_0) rfl ?_
    show Steps p.tables e below (s₁.setTop (mkF m 2 #[.val (.long q0), .second, .val (.long q1), .second, .val (.long q2), .second, .val (.int p3), .unset, .unset, .unset, .unset, .unset, .unset, .unset, .unset, .unset, .unset, .unset] [(.int p3)])) _
    refine XS.iconst X0.here hx rfl (hb hby at_2) ?_
    show Steps p.tables e below (s₁.setTop (mkF m 3 #[.val (.long q0), .second, .val (.long q1), .second, .val (.long q2), .second, .val (.int p3), .unset, .unset, .unset, .unset, .unset, .unset, .unset, .unset, .unset, .unset, .unset] [(.int (3 : Int32)), (.int p3)])) _
    refine XS.iand X0.here hx rfl (hb hby at_3) rfl ?_
    show Steps p.tables e below (s₁.setTop (mkF m 4 #[.val (.long q0), .second, .val (.long q1), .second, .val (.long q2), .second, .val (.int p3), .unset, .unset, .unset, .unset, .unset, .unset, .unset, .unset, .unset, .unset, .unset] [(.int (p3 &&& (3 : Int32)))])) _
    refine XS.istore X0.here hx rfl (hb hby at_4) rfl (l' := #[.val (.long q0), .second, .val (.long q1), .second, .val (.long q2), .second, .val (.int p3), .val (.int (p3 &&& (3 : Int32))), .unset, .unset, .unset, .unset, .unset, .unset, .unset, .unset, .unset, .unset]) rfl ?_
    show Steps p.tables e below (s₁.setTop (mkF m 6 #[.val (.long q0), .second, .val (.long q1), .second, .val (.long q2), .second, .val (.int p3), .val (.int (p3 &&& (3 : Int32))), .unset, .unset, .unset, .unset, .unset, .unset, .unset, .unset, .unset, .unset] [])) _
    refine XS.iload X0.here hx rfl (hb hby at_6) rfl ?_
    show Steps p.tables e below (s₁.setTop (mkF m 8 #[.val (.long q0), .second, .val (.long q1), .second, .val (.long q2), .second, .val (.int p3), .val (.int (p3 &&& (3 : Int32))), .unset, .unset, .unset, .unset, .unset, .unset, .unset, .unset, .unset, .unset] [(.int p3)])) _
    refine XS.iconst X0.here hx rfl (hb hby at_8) ?_
    show Steps p.tables e below (s₁.setTop (mkF m 9 #[.val (.long q0), .second, .val (.long q1), .second, .val (.long q2), .second, .val (.int p3), .val (.int (p3 &&& (3 : Int32))), .unset, .unset, .unset, .unset, .unset, .unset, .unset, .unset, .unset, .unset] [(.int (2 : Int32)), (.int p3)])) _
    refine XS.iushr X0.here hx rfl (hb hby at_9) rfl ?_
    show Steps p.tables e below (s₁.setTop (mkF m 10 #[.val (.long q0), .second, .val (.long q1), .second, .val (.long q2), .second, .val (.int p3), .val (.int (p3 &&& (3 : Int32))), .unset, .unset, .unset, .unset, .unset, .unset, .unset, .unset, .unset, .unset] [(.int ((p3.toUInt32 >>> ((2 : Int32) &&& 31).toUInt32).toInt32))])) _
    refine XS.iconst X0.here hx rfl (hb hby at_10) ?_
    show Steps p.tables e below (s₁.setTop (mkF m 11 #[.val (.long q0), .second, .val (.long q1), .second, .val (.long q2), .second, .val (.int p3), .val (.int (p3 &&& (3 : Int32))), .unset, .unset, .unset, .unset, .unset, .unset, .unset, .unset, .unset, .unset] [(.int (3 : Int32)), (.int ((p3.toUInt32 >>> ((2 : Int32) &&& 31).toUInt32).toInt32))])) _
    refine XS.iand X0.here hx rfl (hb hby at_11) rfl ?_
    show Steps p.tables e below (s₁.setTop (mkF m 12 #[.val (.long q0), .second, .val (.long q1), .second, .val (.long q2), .second, .val (.int p3), .val (.int (p3 &&& (3 : Int32))), .unset, .unset, .unset, .unset, .unset, .unset, .unset, .unset, .unset, .unset] [(.int (((p3.toUInt32 >>> ((2 : Int32) &&& 31).toUInt32).toInt32) &&& (3 : Int32)))])) _
    refine XS.istore X0.here hx rfl (hb hby at_12) rfl (l' := #[.val (.long q0), .second, .val (.long q1), .second, .val (.long q2), .second, .val (.int p3), .val (.int (p3 &&& (3 : Int32))), .val (.int (((p3.toUInt32 >>> ((2 : Int32) &&& 31).toUInt32).toInt32) &&& (3 : Int32))), .unset, .unset, .unset, .unset, .unset, .unset, .unset, .unset, .unset]) rfl ?_
    show Steps p.tables e below (s₁.setTop (mkF m 14 #[.val (.long q0), .second, .val (.long q1), .second, .val (.long q2), .second, .val (.int p3), .val (.int (p3 &&& (3 : Int32))), .val (.int (((p3.toUInt32 >>> ((2 : Int32) &&& 31).toUInt32).toInt32) &&& (3 : Int32))), .unset, .unset, .unset, .unset, .unset, .unset, .unset, .unset, .unset] [])) _
    refine XS.iconst X0.here hx rfl (hb hby at_14) ?_
    show Steps p.tables e below (s₁.setTop (mkF m 15 #[.val (.long q0), .second, .val (.long q1), .second, .val (.long q2), .second, .val (.int p3), .val (.int (p3 &&& (3 : Int32))), .val (.int (((p3.toUInt32 >>> ((2 : Int32) &&& 31).toUInt32).toInt32) &&& (3 : Int32))), .unset, .unset, .unset, .unset, .unset, .unset, .unset, .unset, .unset] [(.int (3 : Int32))])) _
    refine XS.bipush X0.here hx rfl (hb hby at_15) ?_
    show Steps p.tables e below (s₁.setTop (mkF m 17 #[.val (.long q0), .second, .val (.long q1), .second, .val (.long q2), .second, .val (.int p3), .val (.int (p3 &&& (3 : Int32))), .val (.int (((p3.toUInt32 >>> ((2 : Int32) &&& 31).toUInt32).toInt32) &&& (3 : Int32))), .unset, .unset, .unset, .unset, .unset, .unset, .unset, .unset, .unset] [(.int (6 : Int32)), (.int (3 : Int32))])) _
    refine XS.iload X0.here hx rfl (hb hby at_17) rfl ?_
    show Steps p.tables e below (s₁.setTop (mkF m 19 #[.val (.long q0), .second, .val (.long q1), .second, .val (.long q2), .second, .val (.int p3), .val (.int (p3 &&& (3 : Int32))), .val (.int (((p3.toUInt32 >>> ((2 : Int32) &&& 31).toUInt32).toInt32) &&& (3 : Int32))), .unset, .unset, .unset, .unset, .unset, .unset, .unset, .unset, .unset] [(.int (p3 &&& (3 : Int32))), (.int (6 : Int32)), (.int (3 : Int32))])) _
    refine XS.imul X0.here hx rfl (hb hby at_19) rfl ?_
    show Steps p.tables e below (s₁.setTop (mkF m 20 #[.val (.long q0), .second, .val (.long q1), .second, .val (.long q2), .second, .val (.int p3), .val (.int (p3 &&& (3 : Int32))), .val (.int (((p3.toUInt32 >>> ((2 : Int32) &&& 31).toUInt32).toInt32) &&& (3 : Int32))), .unset, .unset, .unset, .unset, .unset, .unset, .unset, .unset, .unset] [(.int ((6 : Int32) * (p3 &&& (3 : Int32)))), (.int (3 : Int32))])) _
    refine XS.iadd X0.here hx rfl (hb hby at_20) rfl ?_
    show Steps p.tables e below (s₁.setTop (mkF m 21 #[.val (.long q0), .second, .val (.long q1), .second, .val (.long q2), .second, .val (.int p3), .val (.int (p3 &&& (3 : Int32))), .val (.int (((p3.toUInt32 >>> ((2 : Int32) &&& 31).toUInt32).toInt32) &&& (3 : Int32))), .unset, .unset, .unset, .unset, .unset, .unset, .unset, .unset, .unset] [(.int ((3 : Int32) + ((6 : Int32) * (p3 &&& (3 : Int32)))))])) _
    refine XS.istore X0.here hx rfl (hb hby at_21) rfl (l' := #[.val (.long q0), .second, .val (.long q1), .second, .val (.long q2), .second, .val (.int p3), .val (.int (p3 &&& (3 : Int32))), .val (.int (((p3.toUInt32 >>> ((2 : Int32) &&& 31).toUInt32).toInt32) &&& (3 : Int32))), .val (.int ((3 : Int32) + ((6 : Int32) * (p3 &&& (3 : Int32))))), .unset, .unset, .unset, .unset, .unset, .unset, .unset, .unset]) rfl ?_
    show Steps p.tables e below (s₁.setTop (mkF m 23 #[.val (.long q0), .second, .val (.long q1), .second, .val (.long q2), .second, .val (.int p3), .val (.int (p3 &&& (3 : Int32))), .val (.int (((p3.toUInt32 >>> ((2 : Int32) &&& 31).toUInt32).toInt32) &&& (3 : Int32))), .val (.int ((3 : Int32) + ((6 : Int32) * (p3 &&& (3 : Int32))))), .unset, .unset, .unset, .unset, .unset, .unset, .unset, .unset] [])) _
    refine XS.iconst X0.here hx rfl (hb hby at_23) ?_
    show Steps p.tables e below (s₁.setTop (mkF m 24 #[.val (.long q0), .second, .val (.long q1), .second, .val (.long q2), .second, .val (.int p3), .val (.int (p3 &&& (3 : Int32))), .val (.int (((p3.toUInt32 >>> ((2 : Int32) &&& 31).toUInt32).toInt32) &&& (3 : Int32))), .val (.int ((3 : Int32) + ((6 : Int32) * (p3 &&& (3 : Int32))))), .unset, .unset, .unset, .unset, .unset, .unset, .unset, .unset] [(.int (3 : Int32))])) _
    refine XS.bipush X0.here hx rfl (hb hby at_24) ?_
    show Steps p.tables e below (s₁.setTop (mkF m 26 #[.val (.long q0), .second, .val (.long q1), .second, .val (.long q2), .second, .val (.int p3), .val (.int (p3 &&& (3 : Int32))), .val (.int (((p3.toUInt32 >>> ((2 : Int32) &&& 31).toUInt32).toInt32) &&& (3 : Int32))), .val (.int ((3 : Int32) + ((6 : Int32) * (p3 &&& (3 : Int32))))), .unset, .unset, .unset, .unset, .unset, .unset, .unset, .unset] [(.int (6 : Int32)), (.int (3 : Int32))])) _
    refine XS.iload X0.here hx rfl (hb hby at_26) rfl ?_
    show Steps p.tables e below (s₁.setTop (mkF m 28 #[.val (.long q0), .second, .val (.long q1), .second, .val (.long q2), .second, .val (.int p3), .val (.int (p3 &&& (3 : Int32))), .val (.int (((p3.toUInt32 >>> ((2 : Int32) &&& 31).toUInt32).toInt32) &&& (3 : Int32))), .val (.int ((3 : Int32) + ((6 : Int32) * (p3 &&& (3 : Int32))))), .unset, .unset, .unset, .unset, .unset, .unset, .unset, .unset] [(.int (((p3.toUInt32 >>> ((2 : Int32) &&& 31).toUInt32).toInt32) &&& (3 : Int32))), (.int (6 : Int32)), (.int (3 : Int32))])) _
    refine XS.imul X0.here hx rfl (hb hby at_28) rfl ?_
    show Steps p.tables e below (s₁.setTop (mkF m 29 #[.val (.long q0), .second, .val (.long q1), .second, .val (.long q2), .second, .val (.int p3), .val (.int (p3 &&& (3 : Int32))), .val (.int (((p3.toUInt32 >>> ((2 : Int32) &&& 31).toUInt32).toInt32) &&& (3 : Int32))), .val (.int ((3 : Int32) + ((6 : Int32) * (p3 &&& (3 : Int32))))), .unset, .unset, .unset, .unset, .unset, .unset, .unset, .unset] [(.int ((6 : Int32) * (((p3.toUInt32 >>> ((2 : Int32) &&& 31).toUInt32).toInt32) &&& (3 : Int32)))), (.int (3 : Int32))])) _
    refine XS.iadd X0.here hx rfl (hb hby at_29) rfl ?_
    show Steps p.tables e below (s₁.setTop (mkF m 30 #[.val (.long q0), .second, .val (.long q1), .second, .val (.long q2), .second, .val (.int p3), .val (.int (p3 &&& (3 : Int32))), .val (.int (((p3.toUInt32 >>> ((2 : Int32) &&& 31).toUInt32).toInt32) &&& (3 : Int32))), .val (.int ((3 : Int32) + ((6 : Int32) * (p3 &&& (3 : Int32))))), .unset, .unset, .unset, .unset, .unset, .unset, .unset, .unset] [(.int ((3 : Int32) + ((6 : Int32) * (((p3.toUInt32 >>> ((2 : Int32) &&& 31).toUInt32).toInt32) &&& (3 : Int32)))))])) _
    refine XS.istore X0.here hx rfl (hb hby at_30) rfl (l' := #[.val (.long q0), .second, .val (.long q1), .second, .val (.long q2), .second, .val (.int p3), .val (.int (p3 &&& (3 : Int32))), .val (.int (((p3.toUInt32 >>> ((2 : Int32) &&& 31).toUInt32).toInt32) &&& (3 : Int32))), .val (.int ((3 : Int32) + ((6 : Int32) * (p3 &&& (3 : Int32))))), .val (.int ((3 : Int32) + ((6 : Int32) * (((p3.toUInt32 >>> ((2 : Int32) &&& 31).toUInt32).toInt32) &&& (3 : Int32))))), .unset, .unset, .unset, .unset, .unset, .unset, .unset]) rfl ?_
    show Steps p.tables e below (s₁.setTop (mkF m 32 #[.val (.long q0), .second, .val (.long q1), .second, .val (.long q2), .second, .val (.int p3), .val (.int (p3 &&& (3 : Int32))), .val (.int (((p3.toUInt32 >>> ((2 : Int32) &&& 31).toUInt32).toInt32) &&& (3 : Int32))), .val (.int ((3 : Int32) + ((6 : Int32) * (p3 &&& (3 : Int32))))), .val (.int ((3 : Int32) + ((6 : Int32) * (((p3.toUInt32 >>> ((2 : Int32) &&& 31).toUInt32).toInt32) &&& (3 : Int32))))), .unset, .unset, .unset, .unset, .unset, .unset, .unset] [])) _
    refine XS.bipush X0.here hx rfl (hb hby at_32) ?_
    show Steps p.tables e below (s₁.setTop (mkF m 34 #[.val (.long q0), .second, .val (.long q1), .second, .val (.long q2), .second, .val (.int p3), .val (.int (p3 &&& (3 : Int32))), .val (.int (((p3.toUInt32 >>> ((2 : Int32) &&& 31).toUInt32).toInt32) &&& (3 : Int32))), .val (.int ((3 : Int32) + ((6 : Int32) * (p3 &&& (3 : Int32))))), .val (.int ((3 : Int32) + ((6 : Int32) * (((p3.toUInt32 >>> ((2 : Int32) &&& 31).toUInt32).toInt32) &&& (3 : Int32))))), .unset, .unset, .unset, .unset, .unset, .unset, .unset] [(.int (72 : Int32))])) _
    refine st1 _ ?_
    show Steps p.tables e below (T1.setTop (mkF m 36 #[.val (.long q0), .second, .val (.long q1), .second, .val (.long q2), .second, .val (.int p3), .val (.int (p3 &&& (3 : Int32))), .val (.int (((p3.toUInt32 >>> ((2 : Int32) &&& 31).toUInt32).toInt32) &&& (3 : Int32))), .val (.int ((3 : Int32) + ((6 : Int32) * (p3 &&& (3 : Int32))))), .val (.int ((3 : Int32) + ((6 : Int32) * (((p3.toUInt32 >>> ((2 : Int32) &&& 31).toUInt32).toInt32) &&& (3 : Int32))))), .unset, .unset, .unset, .unset, .unset, .unset, .unset] [(.ref b1)])) _
    refine XS.astore X1.here hx rfl (hb hby at_36) rfl rfl (l' := #[.val (.long q0), .second, .val (.long q1), .second, .val (.long q2), .second, .val (.int p3), .val (.int (p3 &&& (3 : Int32))), .val (.int (((p3.toUInt32 >>> ((2 : Int32) &&& 31).toUInt32).toInt32) &&& (3 : Int32))), .val (.int ((3 : Int32) + ((6 : Int32) * (p3 &&& (3 : Int32))))), .val (.int ((3 : Int32) + ((6 : Int32) * (((p3.toUInt32 >>> ((2 : Int32) &&& 31).toUInt32).toInt32) &&& (3 : Int32))))), .val (.ref b1), .unset, .unset, .unset, .unset, .unset, .unset]) rfl ?_
    show Steps p.tables e below (T1.setTop (mkF m 38 #[.val (.long q0), .second, .val (.long q1), .second, .val (.long q2), .second, .val (.int p3), .val (.int (p3 &&& (3 : Int32))), .val (.int (((p3.toUInt32 >>> ((2 : Int32) &&& 31).toUInt32).toInt32) &&& (3 : Int32))), .val (.int ((3 : Int32) + ((6 : Int32) * (p3 &&& (3 : Int32))))), .val (.int ((3 : Int32) + ((6 : Int32) * (((p3.toUInt32 >>> ((2 : Int32) &&& 31).toUInt32).toInt32) &&& (3 : Int32))))), .val (.ref b1), .unset, .unset, .unset, .unset, .unset, .unset] [])) _
    refine XS.aload X1.here hx rfl (hb hby at_38) rfl rfl ?_
    show Steps p.tables e below (T1.setTop (mkF m 40 #[.val (.long q0), .second, .val (.long q1), .second, .val (.long q2), .second, .val (.int p3), .val (.int (p3 &&& (3 : Int32))), .val (.int (((p3.toUInt32 >>> ((2 : Int32) &&& 31).toUInt32).toInt32) &&& (3 : Int32))), .val (.int ((3 : Int32) + ((6 : Int32) * (p3 &&& (3 : Int32))))), .val (.int ((3 : Int32) + ((6 : Int32) * (((p3.toUInt32 >>> ((2 : Int32) &&& 31).toUInt32).toInt32) &&& (3 : Int32))))), .val (.ref b1), .unset, .unset, .unset, .unset, .unset, .unset] [(.ref b1)])) _
    refine XS.iconst X1.here hx rfl (hb hby at_40) ?_
    show Steps p.tables e below (T1.setTop (mkF m 41 #[.val (.long q0), .second, .val (.long q1), .second, .val (.long q2), .second, .val (.int p3), .val (.int (p3 &&& (3 : Int32))), .val (.int (((p3.toUInt32 >>> ((2 : Int32) &&& 31).toUInt32).toInt32) &&& (3 : Int32))), .val (.int ((3 : Int32) + ((6 : Int32) * (p3 &&& (3 : Int32))))), .val (.int ((3 : Int32) + ((6 : Int32) * (((p3.toUInt32 >>> ((2 : Int32) &&& 31).toUInt32).toInt32) &&& (3 : Int32))))), .val (.ref b1), .unset, .unset, .unset, .unset, .unset, .unset] [(.int (0 : Int32)), (.ref b1)])) _
    refine XS.iload X1.here hx rfl (hb hby at_41) rfl ?_
    show Steps p.tables e below (T1.setTop (mkF m 43 #[.val (.long q0), .second, .val (.long q1), .second, .val (.long q2), .second, .val (.int p3), .val (.int (p3 &&& (3 : Int32))), .val (.int (((p3.toUInt32 >>> ((2 : Int32) &&& 31).toUInt32).toInt32) &&& (3 : Int32))), .val (.int ((3 : Int32) + ((6 : Int32) * (p3 &&& (3 : Int32))))), .val (.int ((3 : Int32) + ((6 : Int32) * (((p3.toUInt32 >>> ((2 : Int32) &&& 31).toUInt32).toInt32) &&& (3 : Int32))))), .val (.ref b1), .unset, .unset, .unset, .unset, .unset, .unset] [(.int (p3 &&& (3 : Int32))), (.int (0 : Int32)), (.ref b1)])) _
    refine XS.i2b X1.here hx rfl (hb hby at_43) rfl ?_
    show Steps p.tables e below (T1.setTop (mkF m 44 #[.val (.long q0), .second, .val (.long q1), .second, .val (.long q2), .second, .val (.int p3), .val (.int (p3 &&& (3 : Int32))), .val (.int (((p3.toUInt32 >>> ((2 : Int32) &&& 31).toUInt32).toInt32) &&& (3 : Int32))), .val (.int ((3 : Int32) + ((6 : Int32) * (p3 &&& (3 : Int32))))), .val (.int ((3 : Int32) + ((6 : Int32) * (((p3.toUInt32 >>> ((2 : Int32) &&& 31).toUInt32).toInt32) &&& (3 : Int32))))), .val (.ref b1), .unset, .unset, .unset, .unset, .unset, .unset] [(.int ((p3 &&& (3 : Int32)).toInt8.toInt32)), (.int (0 : Int32)), (.ref b1)])) _
    refine st4 _ ?_
    show Steps p.tables e below (T4.setTop (mkF m 45 #[.val (.long q0), .second, .val (.long q1), .second, .val (.long q2), .second, .val (.int p3), .val (.int (p3 &&& (3 : Int32))), .val (.int (((p3.toUInt32 >>> ((2 : Int32) &&& 31).toUInt32).toInt32) &&& (3 : Int32))), .val (.int ((3 : Int32) + ((6 : Int32) * (p3 &&& (3 : Int32))))), .val (.int ((3 : Int32) + ((6 : Int32) * (((p3.toUInt32 >>> ((2 : Int32) &&& 31).toUInt32).toInt32) &&& (3 : Int32))))), .val (.ref b1), .unset, .unset, .unset, .unset, .unset, .unset] [])) _
    refine XS.aload X4.here hx rfl (hb hby at_45) rfl rfl ?_
    show Steps p.tables e below (T4.setTop (mkF m 47 #[.val (.long q0), .second, .val (.long q1), .second, .val (.long q2), .second, .val (.int p3), .val (.int (p3 &&& (3 : Int32))), .val (.int (((p3.toUInt32 >>> ((2 : Int32) &&& 31).toUInt32).toInt32) &&& (3 : Int32))), .val (.int ((3 : Int32) + ((6 : Int32) * (p3 &&& (3 : Int32))))), .val (.int ((3 : Int32) + ((6 : Int32) * (((p3.toUInt32 >>> ((2 : Int32) &&& 31).toUInt32).toInt32) &&& (3 : Int32))))), .val (.ref b1), .unset, .unset, .unset, .unset, .unset, .unset] [(.ref b1)])) _
    refine XS.iconst X4.here hx rfl (hb hby at_47) ?_
    show Steps p.tables e below (T4.setTop (mkF m 48 #[.val (.long q0), .second, .val (.long q1), .second, .val (.long q2), .second, .val (.int p3), .val (.int (p3 &&& (3 : Int32))), .val (.int (((p3.toUInt32 >>> ((2 : Int32) &&& 31).toUInt32).toInt32) &&& (3 : Int32))), .val (.int ((3 : Int32) + ((6 : Int32) * (p3 &&& (3 : Int32))))), .val (.int ((3 : Int32) + ((6 : Int32) * (((p3.toUInt32 >>> ((2 : Int32) &&& 31).toUInt32).toInt32) &&& (3 : Int32))))), .val (.ref b1), .unset, .unset, .unset, .unset, .unset, .unset] [(.int (1 : Int32)), (.ref b1)])) _
    refine XS.lload X4.here hx rfl (hb hby at_48) rfl ?_
    show Steps p.tables e below (T4.setTop (mkF m 50 #[.val (.long q0), .second, .val (.long q1), .second, .val (.long q2), .second, .val (.int p3), .val (.int (p3 &&& (3 : Int32))), .val (.int (((p3.toUInt32 >>> ((2 : Int32) &&& 31).toUInt32).toInt32) &&& (3 : Int32))), .val (.int ((3 : Int32) + ((6 : Int32) * (p3 &&& (3 : Int32))))), .val (.int ((3 : Int32) + ((6 : Int32) * (((p3.toUInt32 >>> ((2 : Int32) &&& 31).toUInt32).toInt32) &&& (3 : Int32))))), .val (.ref b1), .unset, .unset, .unset, .unset, .unset, .unset] [(.long q2), (.int (1 : Int32)), (.ref b1)])) _
    refine XS.l2i X4.here hx rfl (hb hby at_50) rfl ?_
    show Steps p.tables e below (T4.setTop (mkF m 51 #[.val (.long q0), .second, .val (.long q1), .second, .val (.long q2), .second, .val (.int p3), .val (.int (p3 &&& (3 : Int32))), .val (.int (((p3.toUInt32 >>> ((2 : Int32) &&& 31).toUInt32).toInt32) &&& (3 : Int32))), .val (.int ((3 : Int32) + ((6 : Int32) * (p3 &&& (3 : Int32))))), .val (.int ((3 : Int32) + ((6 : Int32) * (((p3.toUInt32 >>> ((2 : Int32) &&& 31).toUInt32).toInt32) &&& (3 : Int32))))), .val (.ref b1), .unset, .unset, .unset, .unset, .unset, .unset] [(.int (q2.toInt32)), (.int (1 : Int32)), (.ref b1)])) _
    refine XS.i2b X4.here hx rfl (hb hby at_51) rfl ?_
    show Steps p.tables e below (T4.setTop (mkF m 52 #[.val (.long q0), .second, .val (.long q1), .second, .val (.long q2), .second, .val (.int p3), .val (.int (p3 &&& (3 : Int32))), .val (.int (((p3.toUInt32 >>> ((2 : Int32) &&& 31).toUInt32).toInt32) &&& (3 : Int32))), .val (.int ((3 : Int32) + ((6 : Int32) * (p3 &&& (3 : Int32))))), .val (.int ((3 : Int32) + ((6 : Int32) * (((p3.toUInt32 >>> ((2 : Int32) &&& 31).toUInt32).toInt32) &&& (3 : Int32))))), .val (.ref b1), .unset, .unset, .unset, .unset, .unset, .unset] [(.int ((q2.toInt32).toInt8.toInt32)), (.int (1 : Int32)), (.ref b1)])) _
    refine st7 _ ?_
    show Steps p.tables e below (T7.setTop (mkF m 53 #[.val (.long q0), .second, .val (.long q1), .second, .val (.long q2), .second, .val (.int p3), .val (.int (p3 &&& (3 : Int32))), .val (.int (((p3.toUInt32 >>> ((2 : Int32) &&& 31).toUInt32).toInt32) &&& (3 : Int32))), .val (.int ((3 : Int32) + ((6 : Int32) * (p3 &&& (3 : Int32))))), .val (.int ((3 : Int32) + ((6 : Int32) * (((p3.toUInt32 >>> ((2 : Int32) &&& 31).toUInt32).toInt32) &&& (3 : Int32))))), .val (.ref b1), .unset, .unset, .unset, .unset, .unset, .unset] [])) _
    refine XS.aload X7.here hx rfl (hb hby at_53) rfl rfl ?_
    show Steps p.tables e below (T7.setTop (mkF m 55 #[.val (.long q0), .second, .val (.long q1), .second, .val (.long q2), .second, .val (.int p3), .val (.int (p3 &&& (3 : Int32))), .val (.int (((p3.toUInt32 >>> ((2 : Int32) &&& 31).toUInt32).toInt32) &&& (3 : Int32))), .val (.int ((3 : Int32) + ((6 : Int32) * (p3 &&& (3 : Int32))))), .val (.int ((3 : Int32) + ((6 : Int32) * (((p3.toUInt32 >>> ((2 : Int32) &&& 31).toUInt32).toInt32) &&& (3 : Int32))))), .val (.ref b1), .unset, .unset, .unset, .unset, .unset, .unset] [(.ref b1)])) _
    refine XS.iload X7.here hx rfl (hb hby at_55) rfl ?_
    show Steps p.tables e below (T7.setTop (mkF m 57 #[.val (.long q0), .second, .val (.long q1), .second, .val (.long q2), .second, .val (.int p3), .val (.int (p3 &&& (3 : Int32))), .val (.int (((p3.toUInt32 >>> ((2 : Int32) &&& 31).toUInt32).toInt32) &&& (3 : Int32))), .val (.int ((3 : Int32) + ((6 : Int32) * (p3 &&& (3 : Int32))))), .val (.int ((3 : Int32) + ((6 : Int32) * (((p3.toUInt32 >>> ((2 : Int32) &&& 31).toUInt32).toInt32) &&& (3 : Int32))))), .val (.ref b1), .unset, .unset, .unset, .unset, .unset, .unset] [(.int ((3 : Int32) + ((6 : Int32) * (p3 &&& (3 : Int32))))), (.ref b1)])) _
    refine XS.lload X7.here hx rfl (hb hby at_57) rfl ?_
    show Steps p.tables e below (T7.setTop (mkF m 59 #[.val (.long q0), .second, .val (.long q1), .second, .val (.long q2), .second, .val (.int p3), .val (.int (p3 &&& (3 : Int32))), .val (.int (((p3.toUInt32 >>> ((2 : Int32) &&& 31).toUInt32).toInt32) &&& (3 : Int32))), .val (.int ((3 : Int32) + ((6 : Int32) * (p3 &&& (3 : Int32))))), .val (.int ((3 : Int32) + ((6 : Int32) * (((p3.toUInt32 >>> ((2 : Int32) &&& 31).toUInt32).toInt32) &&& (3 : Int32))))), .val (.ref b1), .unset, .unset, .unset, .unset, .unset, .unset] [(.long q2), (.int ((3 : Int32) + ((6 : Int32) * (p3 &&& (3 : Int32))))), (.ref b1)])) _
    refine XS.bipush X7.here hx rfl (hb hby at_59) ?_
    show Steps p.tables e below (T7.setTop (mkF m 61 #[.val (.long q0), .second, .val (.long q1), .second, .val (.long q2), .second, .val (.int p3), .val (.int (p3 &&& (3 : Int32))), .val (.int (((p3.toUInt32 >>> ((2 : Int32) &&& 31).toUInt32).toInt32) &&& (3 : Int32))), .val (.int ((3 : Int32) + ((6 : Int32) * (p3 &&& (3 : Int32))))), .val (.int ((3 : Int32) + ((6 : Int32) * (((p3.toUInt32 >>> ((2 : Int32) &&& 31).toUInt32).toInt32) &&& (3 : Int32))))), .val (.ref b1), .unset, .unset, .unset, .unset, .unset, .unset] [(.int (8 : Int32)), (.long q2), (.int ((3 : Int32) + ((6 : Int32) * (p3 &&& (3 : Int32))))), (.ref b1)])) _
    refine XS.lushr X7.here hx rfl (hb hby at_61) rfl ?_
    show Steps p.tables e below (T7.setTop (mkF m 62 #[.val (.long q0), .second, .val (.long q1), .second, .val (.long q2), .second, .val (.int p3), .val (.int (p3 &&& (3 : Int32))), .val (.int (((p3.toUInt32 >>> ((2 : Int32) &&& 31).toUInt32).toInt32) &&& (3 : Int32))), .val (.int ((3 : Int32) + ((6 : Int32) * (p3 &&& (3 : Int32))))), .val (.int ((3 : Int32) + ((6 : Int32) * (((p3.toUInt32 >>> ((2 : Int32) &&& 31).toUInt32).toInt32) &&& (3 : Int32))))), .val (.ref b1), .unset, .unset, .unset, .unset, .unset, .unset] [(.long ((q2.toUInt64 >>> ((8 : Int32) &&& 0x3f).toInt64.toUInt64).toInt64)), (.int ((3 : Int32) + ((6 : Int32) * (p3 &&& (3 : Int32))))), (.ref b1)])) _
    refine XS.l2i X7.here hx rfl (hb hby at_62) rfl ?_
    show Steps p.tables e below (T7.setTop (mkF m 63 #[.val (.long q0), .second, .val (.long q1), .second, .val (.long q2), .second, .val (.int p3), .val (.int (p3 &&& (3 : Int32))), .val (.int (((p3.toUInt32 >>> ((2 : Int32) &&& 31).toUInt32).toInt32) &&& (3 : Int32))), .val (.int ((3 : Int32) + ((6 : Int32) * (p3 &&& (3 : Int32))))), .val (.int ((3 : Int32) + ((6 : Int32) * (((p3.toUInt32 >>> ((2 : Int32) &&& 31).toUInt32).toInt32) &&& (3 : Int32))))), .val (.ref b1), .unset, .unset, .unset, .unset, .unset, .unset] [(.int (((q2.toUInt64 >>> ((8 : Int32) &&& 0x3f).toInt64.toUInt64).toInt64).toInt32)), (.int ((3 : Int32) + ((6 : Int32) * (p3 &&& (3 : Int32))))), (.ref b1)])) _
    refine XS.i2b X7.here hx rfl (hb hby at_63) rfl ?_
    show Steps p.tables e below (T7.setTop (mkF m 64 #[.val (.long q0), .second, .val (.long q1), .second, .val (.long q2), .second, .val (.int p3), .val (.int (p3 &&& (3 : Int32))), .val (.int (((p3.toUInt32 >>> ((2 : Int32) &&& 31).toUInt32).toInt32) &&& (3 : Int32))), .val (.int ((3 : Int32) + ((6 : Int32) * (p3 &&& (3 : Int32))))), .val (.int ((3 : Int32) + ((6 : Int32) * (((p3.toUInt32 >>> ((2 : Int32) &&& 31).toUInt32).toInt32) &&& (3 : Int32))))), .val (.ref b1), .unset, .unset, .unset, .unset, .unset, .unset] [(.int ((((q2.toUInt64 >>> ((8 : Int32) &&& 0x3f).toInt64.toUInt64).toInt64).toInt32).toInt8.toInt32)), (.int ((3 : Int32) + ((6 : Int32) * (p3 &&& (3 : Int32))))), (.ref b1)])) _
    refine st10 _ ?_
    show Steps p.tables e below (T10.setTop (mkF m 65 #[.val (.long q0), .second, .val (.long q1), .second, .val (.long q2), .second, .val (.int p3), .val (.int (p3 &&& (3 : Int32))), .val (.int (((p3.toUInt32 >>> ((2 : Int32) &&& 31).toUInt32).toInt32) &&& (3 : Int32))), .val (.int ((3 : Int32) + ((6 : Int32) * (p3 &&& (3 : Int32))))), .val (.int ((3 : Int32) + ((6 : Int32) * (((p3.toUInt32 >>> ((2 : Int32) &&& 31).toUInt32).toInt32) &&& (3 : Int32))))), .val (.ref b1), .unset, .unset, .unset, .unset, .unset, .unset] [])) _
    refine XS.aload X10.here hx rfl (hb hby at_65) rfl rfl ?_
    show Steps p.tables e below (T10.setTop (mkF m 67 #[.val (.long q0), .second, .val (.long q1), .second, .val (.long q2), .second, .val (.int p3), .val (.int (p3 &&& (3 : Int32))), .val (.int (((p3.toUInt32 >>> ((2 : Int32) &&& 31).toUInt32).toInt32) &&& (3 : Int32))), .val (.int ((3 : Int32) + ((6 : Int32) * (p3 &&& (3 : Int32))))), .val (.int ((3 : Int32) + ((6 : Int32) * (((p3.toUInt32 >>> ((2 : Int32) &&& 31).toUInt32).toInt32) &&& (3 : Int32))))), .val (.ref b1), .unset, .unset, .unset, .unset, .unset, .unset] [(.ref b1)])) _
    refine XS.iconst X10.here hx rfl (hb hby at_67) ?_
    show Steps p.tables e below (T10.setTop (mkF m 68 #[.val (.long q0), .second, .val (.long q1), .second, .val (.long q2), .second, .val (.int p3), .val (.int (p3 &&& (3 : Int32))), .val (.int (((p3.toUInt32 >>> ((2 : Int32) &&& 31).toUInt32).toInt32) &&& (3 : Int32))), .val (.int ((3 : Int32) + ((6 : Int32) * (p3 &&& (3 : Int32))))), .val (.int ((3 : Int32) + ((6 : Int32) * (((p3.toUInt32 >>> ((2 : Int32) &&& 31).toUInt32).toInt32) &&& (3 : Int32))))), .val (.ref b1), .unset, .unset, .unset, .unset, .unset, .unset] [(.int (1 : Int32)), (.ref b1)])) _
    refine XS.iload X10.here hx rfl (hb hby at_68) rfl ?_
    show Steps p.tables e below (T10.setTop (mkF m 70 #[.val (.long q0), .second, .val (.long q1), .second, .val (.long q2), .second, .val (.int p3), .val (.int (p3 &&& (3 : Int32))), .val (.int (((p3.toUInt32 >>> ((2 : Int32) &&& 31).toUInt32).toInt32) &&& (3 : Int32))), .val (.int ((3 : Int32) + ((6 : Int32) * (p3 &&& (3 : Int32))))), .val (.int ((3 : Int32) + ((6 : Int32) * (((p3.toUInt32 >>> ((2 : Int32) &&& 31).toUInt32).toInt32) &&& (3 : Int32))))), .val (.ref b1), .unset, .unset, .unset, .unset, .unset, .unset] [(.int ((3 : Int32) + ((6 : Int32) * (p3 &&& (3 : Int32))))), (.int (1 : Int32)), (.ref b1)])) _
    refine XS.iadd X10.here hx rfl (hb hby at_70) rfl ?_
    show Steps p.tables e below (T10.setTop (mkF m 71 #[.val (.long q0), .second, .val (.long q1), .second, .val (.long q2), .second, .val (.int p3), .val (.int (p3 &&& (3 : Int32))), .val (.int (((p3.toUInt32 >>> ((2 : Int32) &&& 31).toUInt32).toInt32) &&& (3 : Int32))), .val (.int ((3 : Int32) + ((6 : Int32) * (p3 &&& (3 : Int32))))), .val (.int ((3 : Int32) + ((6 : Int32) * (((p3.toUInt32 >>> ((2 : Int32) &&& 31).toUInt32).toInt32) &&& (3 : Int32))))), .val (.ref b1), .unset, .unset, .unset, .unset, .unset, .unset] [(.int ((1 : Int32) + ((3 : Int32) + ((6 : Int32) * (p3 &&& (3 : Int32)))))), (.ref b1)])) _
    refine XS.lloadN X10.here hx rfl (hb hby at_71) rfl ?_
    show Steps p.tables e below (T10.setTop (mkF m 72 #[.val (.long q0), .second, .val (.long q1), .second, .val (.long q2), .second, .val (.int p3), .val (.int (p3 &&& (3 : Int32))), .val (.int (((p3.toUInt32 >>> ((2 : Int32) &&& 31).toUInt32).toInt32) &&& (3 : Int32))), .val (.int ((3 : Int32) + ((6 : Int32) * (p3 &&& (3 : Int32))))), .val (.int ((3 : Int32) + ((6 : Int32) * (((p3.toUInt32 >>> ((2 : Int32) &&& 31).toUInt32).toInt32) &&& (3 : Int32))))), .val (.ref b1), .unset, .unset, .unset, .unset, .unset, .unset] [(.long q0), (.int ((1 : Int32) + ((3 : Int32) + ((6 : Int32) * (p3 &&& (3 : Int32)))))), (.ref b1)])) _
    refine st12 _ ?_
    show Steps p.tables e below (T12.setTop (mkF m 75 #[.val (.long q0), .second, .val (.long q1), .second, .val (.long q2), .second, .val (.int p3), .val (.int (p3 &&& (3 : Int32))), .val (.int (((p3.toUInt32 >>> ((2 : Int32) &&& 31).toUInt32).toInt32) &&& (3 : Int32))), .val (.int ((3 : Int32) + ((6 : Int32) * (p3 &&& (3 : Int32))))), .val (.int ((3 : Int32) + ((6 : Int32) * (((p3.toUInt32 >>> ((2 : Int32) &&& 31).toUInt32).toInt32) &&& (3 : Int32))))), .val (.ref b1), .unset, .unset, .unset, .unset, .unset, .unset] [])) _
    refine XS.aload X12.here hx rfl (hb hby at_75) rfl rfl ?_
    show Steps p.tables e below (T12.setTop (mkF m 77 #[.val (.long q0), .second, .val (.long q1), .second, .val (.long q2), .second, .val (.int p3), .val (.int (p3 &&& (3 : Int32))), .val (.int (((p3.toUInt32 >>> ((2 : Int32) &&& 31).toUInt32).toInt32) &&& (3 : Int32))), .val (.int ((3 : Int32) + ((6 : Int32) * (p3 &&& (3 : Int32))))), .val (.int ((3 : Int32) + ((6 : Int32) * (((p3.toUInt32 >>> ((2 : Int32) &&& 31).toUInt32).toInt32) &&& (3 : Int32))))), .val (.ref b1), .unset, .unset, .unset, .unset, .unset, .unset] [(.ref b1)])) _
    refine XS.iconst X12.here hx rfl (hb hby at_77) ?_
    show Steps p.tables e below (T12.setTop (mkF m 78 #[.val (.long q0), .second, .val (.long q1), .second, .val (.long q2), .second, .val (.int p3), .val (.int (p3 &&& (3 : Int32))), .val (.int (((p3.toUInt32 >>> ((2 : Int32) &&& 31).toUInt32).toInt32) &&& (3 : Int32))), .val (.int ((3 : Int32) + ((6 : Int32) * (p3 &&& (3 : Int32))))), .val (.int ((3 : Int32) + ((6 : Int32) * (((p3.toUInt32 >>> ((2 : Int32) &&& 31).toUInt32).toInt32) &&& (3 : Int32))))), .val (.ref b1), .unset, .unset, .unset, .unset, .unset, .unset] [(.int (5 : Int32)), (.ref b1)])) _
    refine XS.iload X12.here hx rfl (hb hby at_78) rfl ?_
    show Steps p.tables e below (T12.setTop (mkF m 80 #[.val (.long q0), .second, .val (.long q1), .second, .val (.long q2), .second, .val (.int p3), .val (.int (p3 &&& (3 : Int32))), .val (.int (((p3.toUInt32 >>> ((2 : Int32) &&& 31).toUInt32).toInt32) &&& (3 : Int32))), .val (.int ((3 : Int32) + ((6 : Int32) * (p3 &&& (3 : Int32))))), .val (.int ((3 : Int32) + ((6 : Int32) * (((p3.toUInt32 >>> ((2 : Int32) &&& 31).toUInt32).toInt32) &&& (3 : Int32))))), .val (.ref b1), .unset, .unset, .unset, .unset, .unset, .unset] [(.int ((3 : Int32) + ((6 : Int32) * (p3 &&& (3 : Int32))))), (.int (5 : Int32)), (.ref b1)])) _
    refine XS.iadd X12.here hx rfl (hb hby at_80) rfl ?_
    show Steps p.tables e below (T12.setTop (mkF m 81 #[.val (.long q0), .second, .val (.long q1), .second, .val (.long q2), .second, .val (.int p3), .val (.int (p3 &&& (3 : Int32))), .val (.int (((p3.toUInt32 >>> ((2 : Int32) &&& 31).toUInt32).toInt32) &&& (3 : Int32))), .val (.int ((3 : Int32) + ((6 : Int32) * (p3 &&& (3 : Int32))))), .val (.int ((3 : Int32) + ((6 : Int32) * (((p3.toUInt32 >>> ((2 : Int32) &&& 31).toUInt32).toInt32) &&& (3 : Int32))))), .val (.ref b1), .unset, .unset, .unset, .unset, .unset, .unset] [(.int ((5 : Int32) + ((3 : Int32) + ((6 : Int32) * (p3 &&& (3 : Int32)))))), (.ref b1)])) _
    refine XS.lload X12.here hx rfl (hb hby at_81) rfl ?_
    show Steps p.tables e below (T12.setTop (mkF m 83 #[.val (.long q0), .second, .val (.long q1), .second, .val (.long q2), .second, .val (.int p3), .val (.int (p3 &&& (3 : Int32))), .val (.int (((p3.toUInt32 >>> ((2 : Int32) &&& 31).toUInt32).toInt32) &&& (3 : Int32))), .val (.int ((3 : Int32) + ((6 : Int32) * (p3 &&& (3 : Int32))))), .val (.int ((3 : Int32) + ((6 : Int32) * (((p3.toUInt32 >>> ((2 : Int32) &&& 31).toUInt32).toInt32) &&& (3 : Int32))))), .val (.ref b1), .unset, .unset, .unset, .unset, .unset, .unset] [(.long q2), (.int ((5 : Int32) + ((3 : Int32) + ((6 : Int32) * (p3 &&& (3 : Int32)))))), (.ref b1)])) _
    refine XS.bipush X12.here hx rfl (hb hby at_83) ?_
    show Steps p.tables e below (T12.setTop (mkF m 85 #[.val (.long q0), .second, .val (.long q1), .second, .val (.long q2), .second, .val (.int p3), .val (.int (p3 &&& (3 : Int32))), .val (.int (((p3.toUInt32 >>> ((2 : Int32) &&& 31).toUInt32).toInt32) &&& (3 : Int32))), .val (.int ((3 : Int32) + ((6 : Int32) * (p3 &&& (3 : Int32))))), .val (.int ((3 : Int32) + ((6 : Int32) * (((p3.toUInt32 >>> ((2 : Int32) &&& 31).toUInt32).toInt32) &&& (3 : Int32))))), .val (.ref b1), .unset, .unset, .unset, .unset, .unset, .unset] [(.int (16 : Int32)), (.long q2), (.int ((5 : Int32) + ((3 : Int32) + ((6 : Int32) * (p3 &&& (3 : Int32)))))), (.ref b1)])) _
    refine XS.lushr X12.here hx rfl (hb hby at_85) rfl ?_
    show Steps p.tables e below (T12.setTop (mkF m 86 #[.val (.long q0), .second, .val (.long q1), .second, .val (.long q2), .second, .val (.int p3), .val (.int (p3 &&& (3 : Int32))), .val (.int (((p3.toUInt32 >>> ((2 : Int32) &&& 31).toUInt32).toInt32) &&& (3 : Int32))), .val (.int ((3 : Int32) + ((6 : Int32) * (p3 &&& (3 : Int32))))), .val (.int ((3 : Int32) + ((6 : Int32) * (((p3.toUInt32 >>> ((2 : Int32) &&& 31).toUInt32).toInt32) &&& (3 : Int32))))), .val (.ref b1), .unset, .unset, .unset, .unset, .unset, .unset] [(.long ((q2.toUInt64 >>> ((16 : Int32) &&& 0x3f).toInt64.toUInt64).toInt64)), (.int ((5 : Int32) + ((3 : Int32) + ((6 : Int32) * (p3 &&& (3 : Int32)))))), (.ref b1)])) _
    refine XS.l2i X12.here hx rfl (hb hby at_86) rfl ?_
    show Steps p.tables e below (T12.setTop (mkF m 87 #[.val (.long q0), .second, .val (.long q1), .second, .val (.long q2), .second, .val (.int p3), .val (.int (p3 &&& (3 : Int32))), .val (.int (((p3.toUInt32 >>> ((2 : Int32) &&& 31).toUInt32).toInt32) &&& (3 : Int32))), .val (.int ((3 : Int32) + ((6 : Int32) * (p3 &&& (3 : Int32))))), .val (.int ((3 : Int32) + ((6 : Int32) * (((p3.toUInt32 >>> ((2 : Int32) &&& 31).toUInt32).toInt32) &&& (3 : Int32))))), .val (.ref b1), .unset, .unset, .unset, .unset, .unset, .unset] [(.int (((q2.toUInt64 >>> ((16 : Int32) &&& 0x3f).toInt64.toUInt64).toInt64).toInt32)), (.int ((5 : Int32) + ((3 : Int32) + ((6 : Int32) * (p3 &&& (3 : Int32)))))), (.ref b1)])) _
    refine XS.i2b X12.here hx rfl (hb hby at_87) rfl ?_
    show Steps p.tables e below (T12.setTop (mkF m 88 #[.val (.long q0), .second, .val (.long q1), .second, .val (.long q2), .second, .val (.int p3), .val (.int (p3 &&& (3 : Int32))), .val (.int (((p3.toUInt32 >>> ((2 : Int32) &&& 31).toUInt32).toInt32) &&& (3 : Int32))), .val (.int ((3 : Int32) + ((6 : Int32) * (p3 &&& (3 : Int32))))), .val (.int ((3 : Int32) + ((6 : Int32) * (((p3.toUInt32 >>> ((2 : Int32) &&& 31).toUInt32).toInt32) &&& (3 : Int32))))), .val (.ref b1), .unset, .unset, .unset, .unset, .unset, .unset] [(.int ((((q2.toUInt64 >>> ((16 : Int32) &&& 0x3f).toInt64.toUInt64).toInt64).toInt32).toInt8.toInt32)), (.int ((5 : Int32) + ((3 : Int32) + ((6 : Int32) * (p3 &&& (3 : Int32)))))), (.ref b1)])) _
    refine st15 _ ?_
    show Steps p.tables e below (T15.setTop (mkF m 89 #[.val (.long q0), .second, .val (.long q1), .second, .val (.long q2), .second, .val (.int p3), .val (.int (p3 &&& (3 : Int32))), .val (.int (((p3.toUInt32 >>> ((2 : Int32) &&& 31).toUInt32).toInt32) &&& (3 : Int32))), .val (.int ((3 : Int32) + ((6 : Int32) * (p3 &&& (3 : Int32))))), .val (.int ((3 : Int32) + ((6 : Int32) * (((p3.toUInt32 >>> ((2 : Int32) &&& 31).toUInt32).toInt32) &&& (3 : Int32))))), .val (.ref b1), .unset, .unset, .unset, .unset, .unset, .unset] [])) _
    refine XS.bipush X15.here hx rfl (hb hby at_89) ?_
    show Steps p.tables e below (T15.setTop (mkF m 91 #[.val (.long q0), .second, .val (.long q1), .second, .val (.long q2), .second, .val (.int p3), .val (.int (p3 &&& (3 : Int32))), .val (.int (((p3.toUInt32 >>> ((2 : Int32) &&& 31).toUInt32).toInt32) &&& (3 : Int32))), .val (.int ((3 : Int32) + ((6 : Int32) * (p3 &&& (3 : Int32))))), .val (.int ((3 : Int32) + ((6 : Int32) * (((p3.toUInt32 >>> ((2 : Int32) &&& 31).toUInt32).toInt32) &&& (3 : Int32))))), .val (.ref b1), .unset, .unset, .unset, .unset, .unset, .unset] [(.int (14 : Int32))])) _
    refine XS.iload X15.here hx rfl (hb hby at_91) rfl ?_
    show Steps p.tables e below (T15.setTop (mkF m 93 #[.val (.long q0), .second, .val (.long q1), .second, .val (.long q2), .second, .val (.int p3), .val (.int (p3 &&& (3 : Int32))), .val (.int (((p3.toUInt32 >>> ((2 : Int32) &&& 31).toUInt32).toInt32) &&& (3 : Int32))), .val (.int ((3 : Int32) + ((6 : Int32) * (p3 &&& (3 : Int32))))), .val (.int ((3 : Int32) + ((6 : Int32) * (((p3.toUInt32 >>> ((2 : Int32) &&& 31).toUInt32).toInt32) &&& (3 : Int32))))), .val (.ref b1), .unset, .unset, .unset, .unset, .unset, .unset] [(.int ((3 : Int32) + ((6 : Int32) * (p3 &&& (3 : Int32))))), (.int (14 : Int32))])) _
    refine XS.iadd X15.here hx rfl (hb hby at_93) rfl ?_
    show Steps p.tables e below (T15.setTop (mkF m 94 #[.val (.long q0), .second, .val (.long q1), .second, .val (.long q2), .second, .val (.int p3), .val (.int (p3 &&& (3 : Int32))), .val (.int (((p3.toUInt32 >>> ((2 : Int32) &&& 31).toUInt32).toInt32) &&& (3 : Int32))), .val (.int ((3 : Int32) + ((6 : Int32) * (p3 &&& (3 : Int32))))), .val (.int ((3 : Int32) + ((6 : Int32) * (((p3.toUInt32 >>> ((2 : Int32) &&& 31).toUInt32).toInt32) &&& (3 : Int32))))), .val (.ref b1), .unset, .unset, .unset, .unset, .unset, .unset] [(.int ((14 : Int32) + ((3 : Int32) + ((6 : Int32) * (p3 &&& (3 : Int32))))))])) _
    refine XS.istore X15.here hx rfl (hb hby at_94) rfl (l' := #[.val (.long q0), .second, .val (.long q1), .second, .val (.long q2), .second, .val (.int p3), .val (.int (p3 &&& (3 : Int32))), .val (.int (((p3.toUInt32 >>> ((2 : Int32) &&& 31).toUInt32).toInt32) &&& (3 : Int32))), .val (.int ((3 : Int32) + ((6 : Int32) * (p3 &&& (3 : Int32))))), .val (.int ((3 : Int32) + ((6 : Int32) * (((p3.toUInt32 >>> ((2 : Int32) &&& 31).toUInt32).toInt32) &&& (3 : Int32))))), .val (.ref b1), .val (.int ((14 : Int32) + ((3 : Int32) + ((6 : Int32) * (p3 &&& (3 : Int32)))))), .unset, .unset, .unset, .unset, .unset]) rfl ?_
    show Steps p.tables e below (T15.setTop (mkF m 96 #[.val (.long q0), .second, .val (.long q1), .second, .val (.long q2), .second, .val (.int p3), .val (.int (p3 &&& (3 : Int32))), .val (.int (((p3.toUInt32 >>> ((2 : Int32) &&& 31).toUInt32).toInt32) &&& (3 : Int32))), .val (.int ((3 : Int32) + ((6 : Int32) * (p3 &&& (3 : Int32))))), .val (.int ((3 : Int32) + ((6 : Int32) * (((p3.toUInt32 >>> ((2 : Int32) &&& 31).toUInt32).toInt32) &&& (3 : Int32))))), .val (.ref b1), .val (.int ((14 : Int32) + ((3 : Int32) + ((6 : Int32) * (p3 &&& (3 : Int32)))))), .unset, .unset, .unset, .unset, .unset] [])) _
    refine XS.aload X15.here hx rfl (hb hby at_96) rfl rfl ?_
    show Steps p.tables e below (T15.setTop (mkF m 98 #[.val (.long q0), .second, .val (.long q1), .second, .val (.long q2), .second, .val (.int p3), .val (.int (p3 &&& (3 : Int32))), .val (.int (((p3.toUInt32 >>> ((2 : Int32) &&& 31).toUInt32).toInt32) &&& (3 : Int32))), .val (.int ((3 : Int32) + ((6 : Int32) * (p3 &&& (3 : Int32))))), .val (.int ((3 : Int32) + ((6 : Int32) * (((p3.toUInt32 >>> ((2 : Int32) &&& 31).toUInt32).toInt32) &&& (3 : Int32))))), .val (.ref b1), .val (.int ((14 : Int32) + ((3 : Int32) + ((6 : Int32) * (p3 &&& (3 : Int32)))))), .unset, .unset, .unset, .unset, .unset] [(.ref b1)])) _
    refine XS.iload X15.here hx rfl (hb hby at_98) rfl ?_
    show Steps p.tables e below (T15.setTop (mkF m 100 #[.val (.long q0), .second, .val (.long q1), .second, .val (.long q2), .second, .val (.int p3), .val (.int (p3 &&& (3 : Int32))), .val (.int (((p3.toUInt32 >>> ((2 : Int32) &&& 31).toUInt32).toInt32) &&& (3 : Int32))), .val (.int ((3 : Int32) + ((6 : Int32) * (p3 &&& (3 : Int32))))), .val (.int ((3 : Int32) + ((6 : Int32) * (((p3.toUInt32 >>> ((2 : Int32) &&& 31).toUInt32).toInt32) &&& (3 : Int32))))), .val (.ref b1), .val (.int ((14 : Int32) + ((3 : Int32) + ((6 : Int32) * (p3 &&& (3 : Int32)))))), .unset, .unset, .unset, .unset, .unset] [(.int ((14 : Int32) + ((3 : Int32) + ((6 : Int32) * (p3 &&& (3 : Int32)))))), (.ref b1)])) _
    refine XS.iload X15.here hx rfl (hb hby at_100) rfl ?_
    show Steps p.tables e below (T15.setTop (mkF m 102 #[.val (.long q0), .second, .val (.long q1), .second, .val (.long q2), .second, .val (.int p3), .val (.int (p3 &&& (3 : Int32))), .val (.int (((p3.toUInt32 >>> ((2 : Int32) &&& 31).toUInt32).toInt32) &&& (3 : Int32))), .val (.int ((3 : Int32) + ((6 : Int32) * (p3 &&& (3 : Int32))))), .val (.int ((3 : Int32) + ((6 : Int32) * (((p3.toUInt32 >>> ((2 : Int32) &&& 31).toUInt32).toInt32) &&& (3 : Int32))))), .val (.ref b1), .val (.int ((14 : Int32) + ((3 : Int32) + ((6 : Int32) * (p3 &&& (3 : Int32)))))), .unset, .unset, .unset, .unset, .unset] [(.int (((p3.toUInt32 >>> ((2 : Int32) &&& 31).toUInt32).toInt32) &&& (3 : Int32))), (.int ((14 : Int32) + ((3 : Int32) + ((6 : Int32) * (p3 &&& (3 : Int32)))))), (.ref b1)])) _
    refine XS.i2b X15.here hx rfl (hb hby at_102) rfl ?_
    show Steps p.tables e below (T15.setTop (mkF m 103 #[.val (.long q0), .second, .val (.long q1), .second, .val (.long q2), .second, .val (.int p3), .val (.int (p3 &&& (3 : Int32))), .val (.int (((p3.toUInt32 >>> ((2 : Int32) &&& 31).toUInt32).toInt32) &&& (3 : Int32))), .val (.int ((3 : Int32) + ((6 : Int32) * (p3 &&& (3 : Int32))))), .val (.int ((3 : Int32) + ((6 : Int32) * (((p3.toUInt32 >>> ((2 : Int32) &&& 31).toUInt32).toInt32) &&& (3 : Int32))))), .val (.ref b1), .val (.int ((14 : Int32) + ((3 : Int32) + ((6 : Int32) * (p3 &&& (3 : Int32)))))), .unset, .unset, .unset, .unset, .unset] [(.int ((((p3.toUInt32 >>> ((2 : Int32) &&& 31).toUInt32).toInt32) &&& (3 : Int32)).toInt8.toInt32)), (.int ((14 : Int32) + ((3 : Int32) + ((6 : Int32) * (p3 &&& (3 : Int32)))))), (.ref b1)])) _
    refine st18 _ ?_
    show Steps p.tables e below (T18.setTop (mkF m 104 #[.val (.long q0), .second, .val (.long q1), .second, .val (.long q2), .second, .val (.int p3), .val (.int (p3 &&& (3 : Int32))), .val (.int (((p3.toUInt32 >>> ((2 : Int32) &&& 31).toUInt32).toInt32) &&& (3 : Int32))), .val (.int ((3 : Int32) + ((6 : Int32) * (p3 &&& (3 : Int32))))), .val (.int ((3 : Int32) + ((6 : Int32) * (((p3.toUInt32 >>> ((2 : Int32) &&& 31).toUInt32).toInt32) &&& (3 : Int32))))), .val (.ref b1), .val (.int ((14 : Int32) + ((3 : Int32) + ((6 : Int32) * (p3 &&& (3 : Int32)))))), .unset, .unset, .unset, .unset, .unset] [])) _
    refine XS.aload X18.here hx rfl (hb hby at_104) rfl rfl ?_
    show Steps p.tables e below (T18.setTop (mkF m 106 #[.val (.long q0), .second, .val (.long q1), .second, .val (.long q2), .second, .val (.int p3), .val (.int (p3 &&& (3 : Int32))), .val (.int (((p3.toUInt32 >>> ((2 : Int32) &&& 31).toUInt32).toInt32) &&& (3 : Int32))), .val (.int ((3 : Int32) + ((6 : Int32) * (p3 &&& (3 : Int32))))), .val (.int ((3 : Int32) + ((6 : Int32) * (((p3.toUInt32 >>> ((2 : Int32) &&& 31).toUInt32).toInt32) &&& (3 : Int32))))), .val (.ref b1), .val (.int ((14 : Int32) + ((3 : Int32) + ((6 : Int32) * (p3 &&& (3 : Int32)))))), .unset, .unset, .unset, .unset, .unset] [(.ref b1)])) _
    refine XS.iload X18.here hx rfl (hb hby at_106) rfl ?_
    show Steps p.tables e below (T18.setTop (mkF m 108 #[.val (.long q0), .second, .val (.long q1), .second, .val (.long q2), .second, .val (.int p3), .val (.int (p3 &&& (3 : Int32))), .val (.int (((p3.toUInt32 >>> ((2 : Int32) &&& 31).toUInt32).toInt32) &&& (3 : Int32))), .val (.int ((3 : Int32) + ((6 : Int32) * (p3 &&& (3 : Int32))))), .val (.int ((3 : Int32) + ((6 : Int32) * (((p3.toUInt32 >>> ((2 : Int32) &&& 31).toUInt32).toInt32) &&& (3 : Int32))))), .val (.ref b1), .val (.int ((14 : Int32) + ((3 : Int32) + ((6 : Int32) * (p3 &&& (3 : Int32)))))), .unset, .unset, .unset, .unset, .unset] [(.int ((14 : Int32) + ((3 : Int32) + ((6 : Int32) * (p3 &&& (3 : Int32)))))), (.ref b1)])) _
    refine XS.iconst X18.here hx rfl (hb hby at_108) ?_
    show Steps p.tables e below (T18.setTop (mkF m 109 #[.val (.long q0), .second, .val (.long q1), .second, .val (.long q2), .second, .val (.int p3), .val (.int (p3 &&& (3 : Int32))), .val (.int (((p3.toUInt32 >>> ((2 : Int32) &&& 31).toUInt32).toInt32) &&& (3 : Int32))), .val (.int ((3 : Int32) + ((6 : Int32) * (p3 &&& (3 : Int32))))), .val (.int ((3 : Int32) + ((6 : Int32) * (((p3.toUInt32 >>> ((2 : Int32) &&& 31).toUInt32).toInt32) &&& (3 : Int32))))), .val (.ref b1), .val (.int ((14 : Int32) + ((3 : Int32) + ((6 : Int32) * (p3 &&& (3 : Int32)))))), .unset, .unset, .unset, .unset, .unset] [(.int (1 : Int32)), (.int ((14 : Int32) + ((3 : Int32) + ((6 : Int32) * (p3 &&& (3 : Int32)))))), (.ref b1)])) _
    refine XS.iadd X18.here hx rfl (hb hby at_109) rfl ?_
    show Steps p.tables e below (T18.setTop (mkF m 110 #[.val (.long q0), .second, .val (.long q1), .second, .val (.long q2), .second, .val (.int p3), .val (.int (p3 &&& (3 : Int32))), .val (.int (((p3.toUInt32 >>> ((2 : Int32) &&& 31).toUInt32).toInt32) &&& (3 : Int32))), .val (.int ((3 : Int32) + ((6 : Int32) * (p3 &&& (3 : Int32))))), .val (.int ((3 : Int32) + ((6 : Int32) * (((p3.toUInt32 >>> ((2 : Int32) &&& 31).toUInt32).toInt32) &&& (3 : Int32))))), .val (.ref b1), .val (.int ((14 : Int32) + ((3 : Int32) + ((6 : Int32) * (p3 &&& (3 : Int32)))))), .unset, .unset, .unset, .unset, .unset] [(.int (((14 : Int32) + ((3 : Int32) + ((6 : Int32) * (p3 &&& (3 : Int32))))) + (1 : Int32))), (.ref b1)])) _
    refine XS.lload X18.here hx rfl (hb hby at_110) rfl ?_
    show Steps p.tables e below (T18.setTop (mkF m 112 #[.val (.long q0), .second, .val (.long q1), .second, .val (.long q2), .second, .val (.int p3), .val (.int (p3 &&& (3 : Int32))), .val (.int (((p3.toUInt32 >>> ((2 : Int32) &&& 31).toUInt32).toInt32) &&& (3 : Int32))), .val (.int ((3 : Int32) + ((6 : Int32) * (p3 &&& (3 : Int32))))), .val (.int ((3 : Int32) + ((6 : Int32) * (((p3.toUInt32 >>> ((2 : Int32) &&& 31).toUInt32).toInt32) &&& (3 : Int32))))), .val (.ref b1), .val (.int ((14 : Int32) + ((3 : Int32) + ((6 : Int32) * (p3 &&& (3 : Int32)))))), .unset, .unset, .unset, .unset, .unset] [(.long q2), (.int (((14 : Int32) + ((3 : Int32) + ((6 : Int32) * (p3 &&& (3 : Int32))))) + (1 : Int32))), (.ref b1)])) _
    refine XS.bipush X18.here hx rfl (hb hby at_112) ?_
    show Steps p.tables e below (T18.setTop (mkF m 114 #[.val (.long q0), .second, .val (.long q1), .second, .val (.long q2), .second, .val (.int p3), .val (.int (p3 &&& (3 : Int32))), .val (.int (((p3.toUInt32 >>> ((2 : Int32) &&& 31).toUInt32).toInt32) &&& (3 : Int32))), .val (.int ((3 : Int32) + ((6 : Int32) * (p3 &&& (3 : Int32))))), .val (.int ((3 : Int32) + ((6 : Int32) * (((p3.toUInt32 >>> ((2 : Int32) &&& 31).toUInt32).toInt32) &&& (3 : Int32))))), .val (.ref b1), .val (.int ((14 : Int32) + ((3 : Int32) + ((6 : Int32) * (p3 &&& (3 : Int32)))))), .unset, .unset, .unset, .unset, .unset] [(.int (24 : Int32)), (.long q2), (.int (((14 : Int32) + ((3 : Int32) + ((6 : Int32) * (p3 &&& (3 : Int32))))) + (1 : Int32))), (.ref b1)])) _
    refine XS.lushr X18.here hx rfl (hb hby at_114) rfl ?_
    show Steps p.tables e below (T18.setTop (mkF m 115 #[.val (.long q0), .second, .val (.long q1), .second, .val (.long q2), .second, .val (.int p3), .val (.int (p3 &&& (3 : Int32))), .val (.int (((p3.toUInt32 >>> ((2 : Int32) &&& 31).toUInt32).toInt32) &&& (3 : Int32))), .val (.int ((3 : Int32) + ((6 : Int32) * (p3 &&& (3 : Int32))))), .val (.int ((3 : Int32) + ((6 : Int32) * (((p3.toUInt32 >>> ((2 : Int32) &&& 31).toUInt32).toInt32) &&& (3 : Int32))))), .val (.ref b1), .val (.int ((14 : Int32) + ((3 : Int32) + ((6 : Int32) * (p3 &&& (3 : Int32)))))), .unset, .unset, .unset, .unset, .unset] [(.long ((q2.toUInt64 >>> ((24 : Int32) &&& 0x3f).toInt64.toUInt64).toInt64)), (.int (((14 : Int32) + ((3 : Int32) + ((6 : Int32) * (p3 &&& (3 : Int32))))) + (1 : Int32))), (.ref b1)])) _
    refine XS.l2i X18.here hx rfl (hb hby at_115) rfl ?_
    show Steps p.tables e below (T18.setTop (mkF m 116 #[.val (.long q0), .second, .val (.long q1), .second, .val (.long q2), .second, .val (.int p3), .val (.int (p3 &&& (3 : Int32))), .val (.int (((p3.toUInt32 >>> ((2 : Int32) &&& 31).toUInt32).toInt32) &&& (3 : Int32))), .val (.int ((3 : Int32) + ((6 : Int32) * (p3 &&& (3 : Int32))))), .val (.int ((3 : Int32) + ((6 : Int32) * (((p3.toUInt32 >>> ((2 : Int32) &&& 31).toUInt32).toInt32) &&& (3 : Int32))))), .val (.ref b1), .val (.int ((14 : Int32) + ((3 : Int32) + ((6 : Int32) * (p3 &&& (3 : Int32)))))), .unset, .unset, .unset, .unset, .unset] [(.int (((q2.toUInt64 >>> ((24 : Int32) &&& 0x3f).toInt64.toUInt64).toInt64).toInt32)), (.int (((14 : Int32) + ((3 : Int32) + ((6 : Int32) * (p3 &&& (3 : Int32))))) + (1 : Int32))), (.ref b1)])) _
    refine XS.i2b X18.here hx rfl (hb hby at_116) rfl ?_
    show Steps p.tables e below (T18.setTop (mkF m 117 #[.val (.long q0), .second, .val (.long q1), .second, .val (.long q2), .second, .val (.int p3), .val (.int (p3 &&& (3 : Int32))), .val (.int (((p3.toUInt32 >>> ((2 : Int32) &&& 31).toUInt32).toInt32) &&& (3 : Int32))), .val (.int ((3 : Int32) + ((6 : Int32) * (p3 &&& (3 : Int32))))), .val (.int ((3 : Int32) + ((6 : Int32) * (((p3.toUInt32 >>> ((2 : Int32) &&& 31).toUInt32).toInt32) &&& (3 : Int32))))), .val (.ref b1), .val (.int ((14 : Int32) + ((3 : Int32) + ((6 : Int32) * (p3 &&& (3 : Int32)))))), .unset, .unset, .unset, .unset, .unset] [(.int ((((q2.toUInt64 >>> ((24 : Int32) &&& 0x3f).toInt64.toUInt64).toInt64).toInt32).toInt8.toInt32)), (.int (((14 : Int32) + ((3 : Int32) + ((6 : Int32) * (p3 &&& (3 : Int32))))) + (1 : Int32))), (.ref b1)])) _
    refine st21 _ ?_
    show Steps p.tables e below (T21.setTop (mkF m 118 #[.val (.long q0), .second, .val (.long q1), .second, .val (.long q2), .second, .val (.int p3), .val (.int (p3 &&& (3 : Int32))), .val (.int (((p3.toUInt32 >>> ((2 : Int32) &&& 31).toUInt32).toInt32) &&& (3 : Int32))), .val (.int ((3 : Int32) + ((6 : Int32) * (p3 &&& (3 : Int32))))), .val (.int ((3 : Int32) + ((6 : Int32) * (((p3.toUInt32 >>> ((2 : Int32) &&& 31).toUInt32).toInt32) &&& (3 : Int32))))), .val (.ref b1), .val (.int ((14 : Int32) + ((3 : Int32) + ((6 : Int32) * (p3 &&& (3 : Int32)))))), .unset, .unset, .unset, .unset, .unset] [])) _
    refine XS.aload X21.here hx rfl (hb hby at_118) rfl rfl ?_
    show Steps p.tables e below (T21.setTop (mkF m 120 #[.val (.long q0), .second, .val (.long q1), .second, .val (.long q2), .second, .val (.int p3), .val (.int (p3 &&& (3 : Int32))), .val (.int (((p3.toUInt32 >>> ((2 : Int32) &&& 31).toUInt32).toInt32) &&& (3 : Int32))), .val (.int ((3 : Int32) + ((6 : Int32) * (p3 &&& (3 : Int32))))), .val (.int ((3 : Int32) + ((6 : Int32) * (((p3.toUInt32 >>> ((2 : Int32) &&& 31).toUInt32).toInt32) &&& (3 : Int32))))), .val (.ref b1), .val (.int ((14 : Int32) + ((3 : Int32) + ((6 : Int32) * (p3 &&& (3 : Int32)))))), .unset, .unset, .unset, .unset, .unset] [(.ref b1)])) _
    refine XS.iload X21.here hx rfl (hb hby at_120) rfl ?_
    show Steps p.tables e below (T21.setTop (mkF m 122 #[.val (.long q0), .second, .val (.long q1), .second, .val (.long q2), .second, .val (.int p3), .val (.int (p3 &&& (3 : Int32))), .val (.int (((p3.toUInt32 >>> ((2 : Int32) &&& 31).toUInt32).toInt32) &&& (3 : Int32))), .val (.int ((3 : Int32) + ((6 : Int32) * (p3 &&& (3 : Int32))))), .val (.int ((3 : Int32) + ((6 : Int32) * (((p3.toUInt32 >>> ((2 : Int32) &&& 31).toUInt32).toInt32) &&& (3 : Int32))))), .val (.ref b1), .val (.int ((14 : Int32) + ((3 : Int32) + ((6 : Int32) * (p3 &&& (3 : Int32)))))), .unset, .unset, .unset, .unset, .unset] [(.int ((14 : Int32) + ((3 : Int32) + ((6 : Int32) * (p3 &&& (3 : Int32)))))), (.ref b1)])) _
    refine XS.iload X21.here hx rfl (hb hby at_122) rfl ?_
    show Steps p.tables e below (T21.setTop (mkF m 124 #[.val (.long q0), .second, .val (.long q1), .second, .val (.long q2), .second, .val (.int p3), .val (.int (p3 &&& (3 : Int32))), .val (.int (((p3.toUInt32 >>> ((2 : Int32) &&& 31).toUInt32).toInt32) &&& (3 : Int32))), .val (.int ((3 : Int32) + ((6 : Int32) * (p3 &&& (3 : Int32))))), .val (.int ((3 : Int32) + ((6 : Int32) * (((p3.toUInt32 >>> ((2 : Int32) &&& 31).toUInt32).toInt32) &&& (3 : Int32))))), .val (.ref b1), .val (.int ((14 : Int32) + ((3 : Int32) + ((6 : Int32) * (p3 &&& (3 : Int32)))))), .unset, .unset, .unset, .unset, .unset] [(.int ((3 : Int32) + ((6 : Int32) * (((p3.toUInt32 >>> ((2 : Int32) &&& 31).toUInt32).toInt32) &&& (3 : Int32))))), (.int ((14 : Int32) + ((3 : Int32) + ((6 : Int32) * (p3 &&& (3 : Int32)))))), (.ref b1)])) _
    refine XS.iadd X21.here hx rfl (hb hby at_124) rfl ?_
    show Steps p.tables e below (T21.setTop (mkF m 125 #[.val (.long q0), .second, .val (.long q1), .second, .val (.long q2), .second, .val (.int p3), .val (.int (p3 &&& (3 : Int32))), .val (.int (((p3.toUInt32 >>> ((2 : Int32) &&& 31).toUInt32).toInt32) &&& (3 : Int32))), .val (.int ((3 : Int32) + ((6 : Int32) * (p3 &&& (3 : Int32))))), .val (.int ((3 : Int32) + ((6 : Int32) * (((p3.toUInt32 >>> ((2 : Int32) &&& 31).toUInt32).toInt32) &&& (3 : Int32))))), .val (.ref b1), .val (.int ((14 : Int32) + ((3 : Int32) + ((6 : Int32) * (p3 &&& (3 : Int32)))))), .unset, .unset, .unset, .unset, .unset] [(.int (((14 : Int32) + ((3 : Int32) + ((6 : Int32) * (p3 &&& (3 : Int32))))) + ((3 : Int32) + ((6 : Int32) * (((p3.toUInt32 >>> ((2 : Int32) &&& 31).toUInt32).toInt32) &&& (3 : Int32)))))), (.ref b1)])) _
    refine XS.lload X21.here hx rfl (hb hby at_125) rfl ?_
    show Steps p.tables e below (T21.setTop (mkF m 127 #[.val (.long q0), .second, .val (.long q1), .second, .val (.long q2), .second, .val (.int p3), .val (.int (p3 &&& (3 : Int32))), .val (.int (((p3.toUInt32 >>> ((2 : Int32) &&& 31).toUInt32).toInt32) &&& (3 : Int32))), .val (.int ((3 : Int32) + ((6 : Int32) * (p3 &&& (3 : Int32))))), .val (.int ((3 : Int32) + ((6 : Int32) * (((p3.toUInt32 >>> ((2 : Int32) &&& 31).toUInt32).toInt32) &&& (3 : Int32))))), .val (.ref b1), .val (.int ((14 : Int32) + ((3 : Int32) + ((6 : Int32) * (p3 &&& (3 : Int32)))))), .unset, .unset, .unset, .unset, .unset] [(.long q2), (.int (((14 : Int32) + ((3 : Int32) + ((6 : Int32) * (p3 &&& (3 : Int32))))) + ((3 : Int32) + ((6 : Int32) * (((p3.toUInt32 >>> ((2 : Int32) &&& 31).toUInt32).toInt32) &&& (3 : Int32)))))), (.ref b1)])) _
    refine XS.bipush X21.here hx rfl (hb hby at_127) ?_
    show Steps p.tables e below (T21.setTop (mkF m 129 #[.val (.long q0), .second, .val (.long q1), .second, .val (.long q2), .second, .val (.int p3), .val (.int (p3 &&& (3 : Int32))), .val (.int (((p3.toUInt32 >>> ((2 : Int32) &&& 31).toUInt32).toInt32) &&& (3 : Int32))), .val (.int ((3 : Int32) + ((6 : Int32) * (p3 &&& (3 : Int32))))), .val (.int ((3 : Int32) + ((6 : Int32) * (((p3.toUInt32 >>> ((2 : Int32) &&& 31).toUInt32).toInt32) &&& (3 : Int32))))), .val (.ref b1), .val (.int ((14 : Int32) + ((3 : Int32) + ((6 : Int32) * (p3 &&& (3 : Int32)))))), .unset, .unset, .unset, .unset, .unset] [(.int (32 : Int32)), (.long q2), (.int (((14 : Int32) + ((3 : Int32) + ((6 : Int32) * (p3 &&& (3 : Int32))))) + ((3 : Int32) + ((6 : Int32) * (((p3.toUInt32 >>> ((2 : Int32) &&& 31).toUInt32).toInt32) &&& (3 : Int32)))))), (.ref b1)])) _
    refine XS.lushr X21.here hx rfl (hb hby at_129) rfl ?_
    show Steps p.tables e below (T21.setTop (mkF m 130 #[.val (.long q0), .second, .val (.long q1), .second, .val (.long q2), .second, .val (.int p3), .val (.int (p3 &&& (3 : Int32))), .val (.int (((p3.toUInt32 >>> ((2 : Int32) &&& 31).toUInt32).toInt32) &&& (3 : Int32))), .val (.int ((3 : Int32) + ((6 : Int32) * (p3 &&& (3 : Int32))))), .val (.int ((3 : Int32) + ((6 : Int32) * (((p3.toUInt32 >>> ((2 : Int32) &&& 31).toUInt32).toInt32) &&& (3 : Int32))))), .val (.ref b1), .val (.int ((14 : Int32) + ((3 : Int32) + ((6 : Int32) * (p3 &&& (3 : Int32)))))), .unset, .unset, .unset, .unset, .unset] [(.long ((q2.toUInt64 >>> ((32 : Int32) &&& 0x3f).toInt64.toUInt64).toInt64)), (.int (((14 : Int32) + ((3 : Int32) + ((6 : Int32) * (p3 &&& (3 : Int32))))) + ((3 : Int32) + ((6 : Int32) * (((p3.toUInt32 >>> ((2 : Int32) &&& 31).toUInt32).toInt32) &&& (3 : Int32)))))), (.ref b1)])) _
    refine XS.l2i X21.here hx rfl (hb hby at_130) rfl ?_
    show Steps p.tables e below (T21.setTop (mkF m 131 #[.val (.long q0), .second, .val (.long q1), .second, .val (.long q2), .second, .val (.int p3), .val (.int (p3 &&& (3 : Int32))), .val (.int (((p3.toUInt32 >>> ((2 : Int32) &&& 31).toUInt32).toInt32) &&& (3 : Int32))), .val (.int ((3 : Int32) + ((6 : Int32) * (p3 &&& (3 : Int32))))), .val (.int ((3 : Int32) + ((6 : Int32) * (((p3.toUInt32 >>> ((2 : Int32) &&& 31).toUInt32).toInt32) &&& (3 : Int32))))), .val (.ref b1), .val (.int ((14 : Int32) + ((3 : Int32) + ((6 : Int32) * (p3 &&& (3 : Int32)))))), .unset, .unset, .unset, .unset, .unset] [(.int (((q2.toUInt64 >>> ((32 : Int32) &&& 0x3f).toInt64.toUInt64).toInt64).toInt32)), (.int (((14 : Int32) + ((3 : Int32) + ((6 : Int32) * (p3 &&& (3 : Int32))))) + ((3 : Int32) + ((6 : Int32) * (((p3.toUInt32 >>> ((2 : Int32) &&& 31).toUInt32).toInt32) &&& (3 : Int32)))))), (.ref b1)])) _
    refine XS.i2b X21.here hx rfl (hb hby at_131) rfl ?_
    show Steps p.tables e below (T21.setTop (mkF m 132 #[.val (.long q0), .second, .val (.long q1), .second, .val (.long q2), .second, .val (.int p3), .val (.int (p3 &&& (3 : Int32))), .val (.int (((p3.toUInt32 >>> ((2 : Int32) &&& 31).toUInt32).toInt32) &&& (3 : Int32))), .val (.int ((3 : Int32) + ((6 : Int32) * (p3 &&& (3 : Int32))))), .val (.int ((3 : Int32) + ((6 : Int32) * (((p3.toUInt32 >>> ((2 : Int32) &&& 31).toUInt32).toInt32) &&& (3 : Int32))))), .val (.ref b1), .val (.int ((14 : Int32) + ((3 : Int32) + ((6 : Int32) * (p3 &&& (3 : Int32)))))), .unset, .unset, .unset, .unset, .unset] [(.int ((((q2.toUInt64 >>> ((32 : Int32) &&& 0x3f).toInt64.toUInt64).toInt64).toInt32).toInt8.toInt32)), (.int (((14 : Int32) + ((3 : Int32) + ((6 : Int32) * (p3 &&& (3 : Int32))))) + ((3 : Int32) + ((6 : Int32) * (((p3.toUInt32 >>> ((2 : Int32) &&& 31).toUInt32).toInt32) &&& (3 : Int32)))))), (.ref b1)])) _
    refine st24 _ ?_
    show Steps p.tables e below (T24.setTop (mkF m 133 #[.val (.long q0), .second, .val (.long q1), .second, .val (.long q2), .second, .val (.int p3), .val (.int (p3 &&& (3 : Int32))), .val (.int (((p3.toUInt32 >>> ((2 : Int32) &&& 31).toUInt32).toInt32) &&& (3 : Int32))), .val (.int ((3 : Int32) + ((6 : Int32) * (p3 &&& (3 : Int32))))), .val (.int ((3 : Int32) + ((6 : Int32) * (((p3.toUInt32 >>> ((2 : Int32) &&& 31).toUInt32).toInt32) &&& (3 : Int32))))), .val (.ref b1), .val (.int ((14 : Int32) + ((3 : Int32) + ((6 : Int32) * (p3 &&& (3 : Int32)))))), .unset, .unset, .unset, .unset, .unset] [])) _
    refine XS.aload X24.here hx rfl (hb hby at_133) rfl rfl ?_
    show Steps p.tables e below (T24.setTop (mkF m 135 #[.val (.long q0), .second, .val (.long q1), .second, .val (.long q2), .second, .val (.int p3), .val (.int (p3 &&& (3 : Int32))), .val (.int (((p3.toUInt32 >>> ((2 : Int32) &&& 31).toUInt32).toInt32) &&& (3 : Int32))), .val (.int ((3 : Int32) + ((6 : Int32) * (p3 &&& (3 : Int32))))), .val (.int ((3 : Int32) + ((6 : Int32) * (((p3.toUInt32 >>> ((2 : Int32) &&& 31).toUInt32).toInt32) &&& (3 : Int32))))), .val (.ref b1), .val (.int ((14 : Int32) + ((3 : Int32) + ((6 : Int32) * (p3 &&& (3 : Int32)))))), .unset, .unset, .unset, .unset, .unset] [(.ref b1)])) _
    refine XS.iload X24.here hx rfl (hb hby at_135) rfl ?_
    show Steps p.tables e below (T24.setTop (mkF m 137 #[.val (.long q0), .second, .val (.long q1), .second, .val (.long q2), .second, .val (.int p3), .val (.int (p3 &&& (3 : Int32))), .val (.int (((p3.toUInt32 >>> ((2 : Int32) &&& 31).toUInt32).toInt32) &&& (3 : Int32))), .val (.int ((3 : Int32) + ((6 : Int32) * (p3 &&& (3 : Int32))))), .val (.int ((3 : Int32) + ((6 : Int32) * (((p3.toUInt32 >>> ((2 : Int32) &&& 31).toUInt32).toInt32) &&& (3 : Int32))))), .val (.ref b1), .val (.int ((14 : Int32) + ((3 : Int32) + ((6 : Int32) * (p3 &&& (3 : Int32)))))), .unset, .unset, .unset, .unset, .unset] [(.int ((14 : Int32) + ((3 : Int32) + ((6 : Int32) * (p3 &&& (3 : Int32)))))), (.ref b1)])) _
    refine XS.iconst X24.here hx rfl (hb hby at_137) ?_
    show Steps p.tables e below (T24.setTop (mkF m 138 #[.val (.long q0), .second, .val (.long q1), .second, .val (.long q2), .second, .val (.int p3), .val (.int (p3 &&& (3 : Int32))), .val (.int (((p3.toUInt32 >>> ((2 : Int32) &&& 31).toUInt32).toInt32) &&& (3 : Int32))), .val (.int ((3 : Int32) + ((6 : Int32) * (p3 &&& (3 : Int32))))), .val (.int ((3 : Int32) + ((6 : Int32) * (((p3.toUInt32 >>> ((2 : Int32) &&& 31).toUInt32).toInt32) &&& (3 : Int32))))), .val (.ref b1), .val (.int ((14 : Int32) + ((3 : Int32) + ((6 : Int32) * (p3 &&& (3 : Int32)))))), .unset, .unset, .unset, .unset, .unset] [(.int (1 : Int32)), (.int ((14 : Int32) + ((3 : Int32) + ((6 : Int32) * (p3 &&& (3 : Int32)))))), (.ref b1)])) _
    refine XS.iadd X24.here hx rfl (hb hby at_138) rfl ?_
    show Steps p.tables e below (T24.setTop (mkF m 139 #[.val (.long q0), .second, .val (.long q1), .second, .val (.long q2), .second, .val (.int p3), .val (.int (p3 &&& (3 : Int32))), .val (.int (((p3.toUInt32 >>> ((2 : Int32) &&& 31).toUInt32).toInt32) &&& (3 : Int32))), .val (.int ((3 : Int32) + ((6 : Int32) * (p3 &&& (3 : Int32))))), .val (.int ((3 : Int32) + ((6 : Int32) * (((p3.toUInt32 >>> ((2 : Int32) &&& 31).toUInt32).toInt32) &&& (3 : Int32))))), .val (.ref b1), .val (.int ((14 : Int32) + ((3 : Int32) + ((6 : Int32) * (p3 &&& (3 : Int32)))))), .unset, .unset, .unset, .unset, .unset] [(.int (((14 : Int32) + ((3 : Int32) + ((6 : Int32) * (p3 &&& (3 : Int32))))) + (1 : Int32))), (.ref b1)])) _
    refine XS.iload X24.here hx rfl (hb hby at_139) rfl ?_
    show Steps p.tables e below (T24.setTop (mkF m 141 #[.val (.long q0), .second, .val (.long q1), .second, .val (.long q2), .second, .val (.int p3), .val (.int (p3 &&& (3 : Int32))), .val (.int (((p3.toUInt32 >>> ((2 : Int32) &&& 31).toUInt32).toInt32) &&& (3 : Int32))), .val (.int ((3 : Int32) + ((6 : Int32) * (p3 &&& (3 : Int32))))), .val (.int ((3 : Int32) + ((6 : Int32) * (((p3.toUInt32 >>> ((2 : Int32) &&& 31).toUInt32).toInt32) &&& (3 : Int32))))), .val (.ref b1), .val (.int ((14 : Int32) + ((3 : Int32) + ((6 : Int32) * (p3 &&& (3 : Int32)))))), .unset, .unset, .unset, .unset, .unset] [(.int ((3 : Int32) + ((6 : Int32) * (((p3.toUInt32 >>> ((2 : Int32) &&& 31).toUInt32).toInt32) &&& (3 : Int32))))), (.int (((14 : Int32) + ((3 : Int32) + ((6 : Int32) * (p3 &&& (3 : Int32))))) + (1 : Int32))), (.ref b1)])) _
    refine XS.iadd X24.here hx rfl (hb hby at_141) rfl ?_
    show Steps p.tables e below (T24.setTop (mkF m 142 #[.val (.long q0), .second, .val (.long q1), .second, .val (.long q2), .second, .val (.int p3), .val (.int (p3 &&& (3 : Int32))), .val (.int (((p3.toUInt32 >>> ((2 : Int32) &&& 31).toUInt32).toInt32) &&& (3 : Int32))), .val (.int ((3 : Int32) + ((6 : Int32) * (p3 &&& (3 : Int32))))), .val (.int ((3 : Int32) + ((6 : Int32) * (((p3.toUInt32 >>> ((2 : Int32) &&& 31).toUInt32).toInt32) &&& (3 : Int32))))), .val (.ref b1), .val (.int ((14 : Int32) + ((3 : Int32) + ((6 : Int32) * (p3 &&& (3 : Int32)))))), .unset, .unset, .unset, .unset, .unset] [(.int ((((14 : Int32) + ((3 : Int32) + ((6 : Int32) * (p3 &&& (3 : Int32))))) + (1 : Int32)) + ((3 : Int32) + ((6 : Int32) * (((p3.toUInt32 >>> ((2 : Int32) &&& 31).toUInt32).toInt32) &&& (3 : Int32)))))), (.ref b1)])) _
    refine XS.lloadN X24.here hx rfl (hb hby at_142) rfl ?_
    show Steps p.tables e below (T24.setTop (mkF m 143 #[.val (.long q0), .second, .val (.long q1), .second, .val (.long q2), .second, .val (.int p3), .val (.int (p3 &&& (3 : Int32))), .val (.int (((p3.toUInt32 >>> ((2 : Int32) &&& 31).toUInt32).toInt32) &&& (3 : Int32))), .val (.int ((3 : Int32) + ((6 : Int32) * (p3 &&& (3 : Int32))))), .val (.int ((3 : Int32) + ((6 : Int32) * (((p3.toUInt32 >>> ((2 : Int32) &&& 31).toUInt32).toInt32) &&& (3 : Int32))))), .val (.ref b1), .val (.int ((14 : Int32) + ((3 : Int32) + ((6 : Int32) * (p3 &&& (3 : Int32)))))), .unset, .unset, .unset, .unset, .unset] [(.long q1), (.int ((((14 : Int32) + ((3 : Int32) + ((6 : Int32) * (p3 &&& (3 : Int32))))) + (1 : Int32)) + ((3 : Int32) + ((6 : Int32) * (((p3.toUInt32 >>> ((2 : Int32) &&& 31).toUInt32).toInt32) &&& (3 : Int32)))))), (.ref b1)])) _
    refine st26 _ ?_
    show Steps p.tables e below (T26.setTop (mkF m 146 #[.val (.long q0), .second, .val (.long q1), .second, .val (.long q2), .second, .val (.int p3), .val (.int (p3 &&& (3 : Int32))), .val (.int (((p3.toUInt32 >>> ((2 : Int32) &&& 31).toUInt32).toInt32) &&& (3 : Int32))), .val (.int ((3 : Int32) + ((6 : Int32) * (p3 &&& (3 : Int32))))), .val (.int ((3 : Int32) + ((6 : Int32) * (((p3.toUInt32 >>> ((2 : Int32) &&& 31).toUInt32).toInt32) &&& (3 : Int32))))), .val (.ref b1), .val (.int ((14 : Int32) + ((3 : Int32) + ((6 : Int32) * (p3 &&& (3 : Int32)))))), .unset, .unset, .unset, .unset, .unset] [])) _
    refine XS.aload X26.here hx rfl (hb hby at_146) rfl rfl ?_
    show Steps p.tables e below (T26.setTop (mkF m 148 #[.val (.long q0), .second, .val (.long q1), .second, .val (.long q2), .second, .val (.int p3), .val (.int (p3 &&& (3 : Int32))), .val (.int (((p3.toUInt32 >>> ((2 : Int32) &&& 31).toUInt32).toInt32) &&& (3 : Int32))), .val (.int ((3 : Int32) + ((6 : Int32) * (p3 &&& (3 : Int32))))), .val (.int ((3 : Int32) + ((6 : Int32) * (((p3.toUInt32 >>> ((2 : Int32) &&& 31).toUInt32).toInt32) &&& (3 : Int32))))), .val (.ref b1), .val (.int ((14 : Int32) + ((3 : Int32) + ((6 : Int32) * (p3 &&& (3 : Int32)))))), .unset, .unset, .unset, .unset, .unset] [(.ref b1)])) _
    refine XS.iload X26.here hx rfl (hb hby at_148) rfl ?_
    show Steps p.tables e below (T26.setTop (mkF m 150 #[.val (.long q0), .second, .val (.long q1), .second, .val (.long q2), .second, .val (.int p3), .val (.int (p3 &&& (3 : Int32))), .val (.int (((p3.toUInt32 >>> ((2 : Int32) &&& 31).toUInt32).toInt32) &&& (3 : Int32))), .val (.int ((3 : Int32) + ((6 : Int32) * (p3 &&& (3 : Int32))))), .val (.int ((3 : Int32) + ((6 : Int32) * (((p3.toUInt32 >>> ((2 : Int32) &&& 31).toUInt32).toInt32) &&& (3 : Int32))))), .val (.ref b1), .val (.int ((14 : Int32) + ((3 : Int32) + ((6 : Int32) * (p3 &&& (3 : Int32)))))), .unset, .unset, .unset, .unset, .unset] [(.int ((14 : Int32) + ((3 : Int32) + ((6 : Int32) * (p3 &&& (3 : Int32)))))), (.ref b1)])) _
    refine XS.iconst X26.here hx rfl (hb hby at_150) ?_
    show Steps p.tables e below (T26.setTop (mkF m 151 #[.val (.long q0), .second, .val (.long q1), .second, .val (.long q2), .second, .val (.int p3), .val (.int (p3 &&& (3 : Int32))), .val (.int (((p3.toUInt32 >>> ((2 : Int32) &&& 31).toUInt32).toInt32) &&& (3 : Int32))), .val (.int ((3 : Int32) + ((6 : Int32) * (p3 &&& (3 : Int32))))), .val (.int ((3 : Int32) + ((6 : Int32) * (((p3.toUInt32 >>> ((2 : Int32) &&& 31).toUInt32).toInt32) &&& (3 : Int32))))), .val (.ref b1), .val (.int ((14 : Int32) + ((3 : Int32) + ((6 : Int32) * (p3 &&& (3 : Int32)))))), .unset, .unset, .unset, .unset, .unset] [(.int (5 : Int32)), (.int ((14 : Int32) + ((3 : Int32) + ((6 : Int32) * (p3 &&& (3 : Int32)))))), (.ref b1)])) _
    refine XS.iadd X26.here hx rfl (hb hby at_151) rfl ?_
    show Steps p.tables e below (T26.setTop (mkF m 152 #[.val (.long q0), .second, .val (.long q1), .second, .val (.long q2), .second, .val (.int p3), .val (.int (p3 &&& (3 : Int32))), .val (.int (((p3.toUInt32 >>> ((2 : Int32) &&& 31).toUInt32).toInt32) &&& (3 : Int32))), .val (.int ((3 : Int32) + ((6 : Int32) * (p3 &&& (3 : Int32))))), .val (.int ((3 : Int32) + ((6 : Int32) * (((p3.toUInt32 >>> ((2 : Int32) &&& 31).toUInt32).toInt32) &&& (3 : Int32))))), .val (.ref b1), .val (.int ((14 : Int32) + ((3 : Int32) + ((6 : Int32) * (p3 &&& (3 : Int32)))))), .unset, .unset, .unset, .unset, .unset] [(.int (((14 : Int32) + ((3 : Int32) + ((6 : Int32) * (p3 &&& (3 : Int32))))) + (5 : Int32))), (.ref b1)])) _
    refine XS.iload X26.here hx rfl (hb hby at_152) rfl ?_
    show Steps p.tables e below (T26.setTop (mkF m 154 #[.val (.long q0), .second, .val (.long q1), .second, .val (.long q2), .second, .val (.int p3), .val (.int (p3 &&& (3 : Int32))), .val (.int (((p3.toUInt32 >>> ((2 : Int32) &&& 31).toUInt32).toInt32) &&& (3 : Int32))), .val (.int ((3 : Int32) + ((6 : Int32) * (p3 &&& (3 : Int32))))), .val (.int ((3 : Int32) + ((6 : Int32) * (((p3.toUInt32 >>> ((2 : Int32) &&& 31).toUInt32).toInt32) &&& (3 : Int32))))), .val (.ref b1), .val (.int ((14 : Int32) + ((3 : Int32) + ((6 : Int32) * (p3 &&& (3 : Int32)))))), .unset, .unset, .unset, .unset, .unset] [(.int ((3 : Int32) + ((6 : Int32) * (((p3.toUInt32 >>> ((2 : Int32) &&& 31).toUInt32).toInt32) &&& (3 : Int32))))), (.int (((14 : Int32) + ((3 : Int32) + ((6 : Int32) * (p3 &&& (3 : Int32))))) + (5 : Int32))), (.ref b1)])) _
    refine XS.iadd X26.here hx rfl (hb hby at_154) rfl ?_
    show Steps p.tables e below (T26.setTop (mkF m 155 #[.val (.long q0), .second, .val (.long q1), .second, .val (.long q2), .second, .val (.int p3), .val (.int (p3 &&& (3 : Int32))), .val (.int (((p3.toUInt32 >>> ((2 : Int32) &&& 31).toUInt32).toInt32) &&& (3 : Int32))), .val (.int ((3 : Int32) + ((6 : Int32) * (p3 &&& (3 : Int32))))), .val (.int ((3 : Int32) + ((6 : Int32) * (((p3.toUInt32 >>> ((2 : Int32) &&& 31).toUInt32).toInt32) &&& (3 : Int32))))), .val (.ref b1), .val (.int ((14 : Int32) + ((3 : Int32) + ((6 : Int32) * (p3 &&& (3 : Int32)))))), .unset, .unset, .unset, .unset, .unset] [(.int ((((14 : Int32) + ((3 : Int32) + ((6 : Int32) * (p3 &&& (3 : Int32))))) + (5 : Int32)) + ((3 : Int32) + ((6 : Int32) * (((p3.toUInt32 >>> ((2 : Int32) &&& 31).toUInt32).toInt32) &&& (3 : Int32)))))), (.ref b1)])) _
    refine XS.lload X26.here hx rfl (hb hby at_155) rfl ?_
    show Steps p.tables e below (T26.setTop (mkF m 157 #[.val (.long q0), .second, .val (.long q1), .second, .val (.long q2), .second, .val (.int p3), .val (.int (p3 &&& (3 : Int32))), .val (.int (((p3.toUInt32 >>> ((2 : Int32) &&& 31).toUInt32).toInt32) &&& (3 : Int32))), .val (.int ((3 : Int32) + ((6 : Int32) * (p3 &&& (3 : Int32))))), .val (.int ((3 : Int32) + ((6 : Int32) * (((p3.toUInt32 >>> ((2 : Int32) &&& 31).toUInt32).toInt32) &&& (3 : Int32))))), .val (.ref b1), .val (.int ((14 : Int32) + ((3 : Int32) + ((6 : Int32) * (p3 &&& (3 : Int32)))))), .unset, .unset, .unset, .unset, .unset] [(.long q2), (.int ((((14 : Int32) + ((3 : Int32) + ((6 : Int32) * (p3 &&& (3 : Int32))))) + (5 : Int32)) + ((3 : Int32) + ((6 : Int32) * (((p3.toUInt32 >>> ((2 : Int32) &&& 31).toUInt32).toInt32) &&& (3 : Int32)))))), (.ref b1)])) _
    refine XS.bipush X26.here hx rfl (hb hby at_157) ?_
    show Steps p.tables e below (T26.setTop (mkF m 159 #[.val (.long q0), .second, .val (.long q1), .second, .val (.long q2), .second, .val (.int p3), .val (.int (p3 &&& (3 : Int32))), .val (.int (((p3.toUInt32 >>> ((2 : Int32) &&& 31).toUInt32).toInt32) &&& (3 : Int32))), .val (.int ((3 : Int32) + ((6 : Int32) * (p3 &&& (3 : Int32))))), .val (.int ((3 : Int32) + ((6 : Int32) * (((p3.toUInt32 >>> ((2 : Int32) &&& 31).toUInt32).toInt32) &&& (3 : Int32))))), .val (.ref b1), .val (.int ((14 : Int32) + ((3 : Int32) + ((6 : Int32) * (p3 &&& (3 : Int32)))))), .unset, .unset, .unset, .unset, .unset] [(.int (40 : Int32)), (.long q2), (.int ((((14 : Int32) + ((3 : Int32) + ((6 : Int32) * (p3 &&& (3 : Int32))))) + (5 : Int32)) + ((3 : Int32) + ((6 : Int32) * (((p3.toUInt32 >>> ((2 : Int32) &&& 31).toUInt32).toInt32) &&& (3 : Int32)))))), (.ref b1)])) _
    refine XS.lushr X26.here hx rfl (hb hby at_159) rfl ?_
    show Steps p.tables e below (T26.setTop (mkF m 160 #[.val (.long q0), .second, .val (.long q1), .second, .val (.long q2), .second, .val (.int p3), .val (.int (p3 &&& (3 : Int32))), .val (.int (((p3.toUInt32 >>> ((2 : Int32) &&& 31).toUInt32).toInt32) &&& (3 : Int32))), .val (.int ((3 : Int32) + ((6 : Int32) * (p3 &&& (3 : Int32))))), .val (.int ((3 : Int32) + ((6 : Int32) * (((p3.toUInt32 >>> ((2 : Int32) &&& 31).toUInt32).toInt32) &&& (3 : Int32))))), .val (.ref b1), .val (.int ((14 : Int32) + ((3 : Int32) + ((6 : Int32) * (p3 &&& (3 : Int32)))))), .unset, .unset, .unset, .unset, .unset] [(.long ((q2.toUInt64 >>> ((40 : Int32) &&& 0x3f).toInt64.toUInt64).toInt64)), (.int ((((14 : Int32) + ((3 : Int32) + ((6 : Int32) * (p3 &&& (3 : Int32))))) + (5 : Int32)) + ((3 : Int32) + ((6 : Int32) * (((p3.toUInt32 >>> ((2 : Int32) &&& 31).toUInt32).toInt32) &&& (3 : Int32)))))), (.ref b1)])) _
    refine XS.l2i X26.here hx rfl (hb hby at_160) rfl ?_
    show Steps p.tables e below (T26.setTop (mkF m 161 #[.val (.long q0), .second, .val (.long q1), .second, .val (.long q2), .second, .val (.int p3), .val (.int (p3 &&& (3 : Int32))), .val (.int (((p3.toUInt32 >>> ((2 : Int32) &&& 31).toUInt32).toInt32) &&& (3 : Int32))), .val (.int ((3 : Int32) + ((6 : Int32) * (p3 &&& (3 : Int32))))), .val (.int ((3 : Int32) + ((6 : Int32) * (((p3.toUInt32 >>> ((2 : Int32) &&& 31).toUInt32).toInt32) &&& (3 : Int32))))), .val (.ref b1), .val (.int ((14 : Int32) + ((3 : Int32) + ((6 : Int32) * (p3 &&& (3 : Int32)))))), .unset, .unset, .unset, .unset, .unset] [(.int (((q2.toUInt64 >>> ((40 : Int32) &&& 0x3f).toInt64.toUInt64).toInt64).toInt32)), (.int ((((14 : Int32) + ((3 : Int32) + ((6 : Int32) * (p3 &&& (3 : Int32))))) + (5 : Int32)) + ((3 : Int32) + ((6 : Int32) * (((p3.toUInt32 >>> ((2 : Int32) &&& 31).toUInt32).toInt32) &&& (3 : Int32)))))), (.ref b1)])) _
    refine XS.i2b X26.here hx rfl (hb hby at_161) rfl ?_
    show Steps p.tables e below (T26.setTop (mkF m 162 #[.val (.long q0), .second, .val (.long q1), .second, .val (.long q2), .second, .val (.int p3), .val (.int (p3 &&& (3 : Int32))), .val (.int (((p3.toUInt32 >>> ((2 : Int32) &&& 31).toUInt32).toInt32) &&& (3 : Int32))), .val (.int ((3 : Int32) + ((6 : Int32) * (p3 &&& (3 : Int32))))), .val (.int ((3 : Int32) + ((6 : Int32) * (((p3.toUInt32 >>> ((2 : Int32) &&& 31).toUInt32).toInt32) &&& (3 : Int32))))), .val (.ref b1), .val (.int ((14 : Int32) + ((3 : Int32) + ((6 : Int32) * (p3 &&& (3 : Int32)))))), .unset, .unset, .unset, .unset, .unset] [(.int ((((q2.toUInt64 >>> ((40 : Int32) &&& 0x3f).toInt64.toUInt64).toInt64).toInt32).toInt8.toInt32)), (.int ((((14 : Int32) + ((3 : Int32) + ((6 : Int32) * (p3 &&& (3 : Int32))))) + (5 : Int32)) + ((3 : Int32) + ((6 : Int32) * (((p3.toUInt32 >>> ((2 : Int32) &&& 31).toUInt32).toInt32) &&& (3 : Int32)))))), (.ref b1)])) _
    refine st29 _ ?_
    show Steps p.tables e below (T29.setTop (mkF m 163 #[.val (.long q0), .second, .val (.long q1), .second, .val (.long q2), .second, .val (.int p3), .val (.int (p3 &&& (3 : Int32))), .val (.int (((p3.toUInt32 >>> ((2 : Int32) &&& 31).toUInt32).toInt32) &&& (3 : Int32))), .val (.int ((3 : Int32) + ((6 : Int32) * (p3 &&& (3 : Int32))))), .val (.int ((3 : Int32) + ((6 : Int32) * (((p3.toUInt32 >>> ((2 : Int32) &&& 31).toUInt32).toInt32) &&& (3 : Int32))))), .val (.ref b1), .val (.int ((14 : Int32) + ((3 : Int32) + ((6 : Int32) * (p3 &&& (3 : Int32)))))), .unset, .unset, .unset, .unset, .unset] [])) _
    refine st31 _ ?_
    show Steps p.tables e below (T31.setTop (mkF m 166 #[.val (.long q0), .second, .val (.long q1), .second, .val (.long q2), .second, .val (.int p3), .val (.int (p3 &&& (3 : Int32))), .val (.int (((p3.toUInt32 >>> ((2 : Int32) &&& 31).toUInt32).toInt32) &&& (3 : Int32))), .val (.int ((3 : Int32) + ((6 : Int32) * (p3 &&& (3 : Int32))))), .val (.int ((3 : Int32) + ((6 : Int32) * (((p3.toUInt32 >>> ((2 : Int32) &&& 31).toUInt32).toInt32) &&& (3 : Int32))))), .val (.ref b1), .val (.int ((14 : Int32) + ((3 : Int32) + ((6 : Int32) * (p3 &&& (3 : Int32)))))), .unset, .unset, .unset, .unset, .unset] [(.ref b31)])) _
    refine XS.dup X31.here hx rfl (hb hby at_166) rfl rfl ?_
    show Steps p.tables e below (T31.setTop (mkF m 167 #[.val (.long q0), .second, .val (.long q1), .second, .val (.long q2), .second, .val (.int p3), .val (.int (p3 &&& (3 : Int32))), .val (.int (((p3.toUInt32 >>> ((2 : Int32) &&& 31).toUInt32).toInt32) &&& (3 : Int32))), .val (.int ((3 : Int32) + ((6 : Int32) * (p3 &&& (3 : Int32))))), .val (.int ((3 : Int32) + ((6 : Int32) * (((p3.toUInt32 >>> ((2 : Int32) &&& 31).toUInt32).toInt32) &&& (3 : Int32))))), .val (.ref b1), .val (.int ((14 : Int32) + ((3 : Int32) + ((6 : Int32) * (p3 &&& (3 : Int32)))))), .unset, .unset, .unset, .unset, .unset] [(.ref b31), (.ref b31)])) _
    refine XS.aload X31.here hx rfl (hb hby at_167) rfl rfl ?_
    show Steps p.tables e below (T31.setTop (mkF m 169 #[.val (.long q0), .second, .val (.long q1), .second, .val (.long q2), .second, .val (.int p3), .val (.int (p3 &&& (3 : Int32))), .val (.int (((p3.toUInt32 >>> ((2 : Int32) &&& 31).toUInt32).toInt32) &&& (3 : Int32))), .val (.int ((3 : Int32) + ((6 : Int32) * (p3 &&& (3 : Int32))))), .val (.int ((3 : Int32) + ((6 : Int32) * (((p3.toUInt32 >>> ((2 : Int32) &&& 31).toUInt32).toInt32) &&& (3 : Int32))))), .val (.ref b1), .val (.int ((14 : Int32) + ((3 : Int32) + ((6 : Int32) * (p3 &&& (3 : Int32)))))), .unset, .unset, .unset, .unset, .unset] [(.ref b1), (.ref b31), (.ref b31)])) _
    refine st33.trans ?_
    show Steps p.tables e below (T33.setTop (mkF m 172 #[.val (.long q0), .second, .val (.long q1), .second, .val (.long q2), .second, .val (.int p3), .val (.int (p3 &&& (3 : Int32))), .val (.int (((p3.toUInt32 >>> ((2 : Int32) &&& 31).toUInt32).toInt32) &&& (3 : Int32))), .val (.int ((3 : Int32) + ((6 : Int32) * (p3 &&& (3 : Int32))))), .val (.int ((3 : Int32) + ((6 : Int32) * (((p3.toUInt32 >>> ((2 : Int32) &&& 31).toUInt32).toInt32) &&& (3 : Int32))))), .val (.ref b1), .val (.int ((14 : Int32) + ((3 : Int32) + ((6 : Int32) * (p3 &&& (3 : Int32)))))), .unset, .unset, .unset, .unset, .unset] [(.ref b31)])) _
    refine XS.astore X33.here hx rfl (hb hby at_172) rfl rfl (l' := #[.val (.long q0), .second, .val (.long q1), .second, .val (.long q2), .second, .val (.int p3), .val (.int (p3 &&& (3 : Int32))), .val (.int (((p3.toUInt32 >>> ((2 : Int32) &&& 31).toUInt32).toInt32) &&& (3 : Int32))), .val (.int ((3 : Int32) + ((6 : Int32) * (p3 &&& (3 : Int32))))), .val (.int ((3 : Int32) + ((6 : Int32) * (((p3.toUInt32 >>> ((2 : Int32) &&& 31).toUInt32).toInt32) &&& (3 : Int32))))), .val (.ref b1), .val (.int ((14 : Int32) + ((3 : Int32) + ((6 : Int32) * (p3 &&& (3 : Int32)))))), .val (.ref b31), .unset, .unset, .unset, .unset]) rfl ?_
    show Steps p.tables e below (T33.setTop (mkF m 174 #[.val (.long q0), .second, .val (.long q1), .second, .val (.long q2), .second, .val (.int p3), .val (.int (p3 &&& (3 : Int32))), .val (.int (((p3.toUInt32 >>> ((2 : Int32) &&& 31).toUInt32).toInt32) &&& (3 : Int32))), .val (.int ((3 : Int32) + ((6 : Int32) * (p3 &&& (3 : Int32))))), .val (.int ((3 : Int32) + ((6 : Int32) * (((p3.toUInt32 >>> ((2 : Int32) &&& 31).toUInt32).toInt32) &&& (3 : Int32))))), .val (.ref b1), .val (.int ((14 : Int32) + ((3 : Int32) + ((6 : Int32) * (p3 &&& (3 : Int32)))))), .val (.ref b31), .unset, .unset, .unset, .unset] [])) _
    refine XS.aload X33.here hx rfl (hb hby at_174) rfl rfl ?_
    show Steps p.tables e below (T33.setTop (mkF m 176 #[.val (.long q0), .second, .val (.long q1), .second, .val (.long q2), .second, .val (.int p3), .val (.int (p3 &&& (3 : Int32))), .val (.int (((p3.toUInt32 >>> ((2 : Int32) &&& 31).toUInt32).toInt32) &&& (3 : Int32))), .val (.int ((3 : Int32) + ((6 : Int32) * (p3 &&& (3 : Int32))))), .val (.int ((3 : Int32) + ((6 : Int32) * (((p3.toUInt32 >>> ((2 : Int32) &&& 31).toUInt32).toInt32) &&& (3 : Int32))))), .val (.ref b1), .val (.int ((14 : Int32) + ((3 : Int32) + ((6 : Int32) * (p3 &&& (3 : Int32)))))), .val (.ref b31), .unset, .unset, .unset, .unset] [(.ref b31)])) _
    refine st35.trans ?_
    show Steps p.tables e below (T35.setTop (mkF m 179 #[.val (.long q0), .second, .val (.long q1), .second, .val (.long q2), .second, .val (.int p3), .val (.int (p3 &&& (3 : Int32))), .val (.int (((p3.toUInt32 >>> ((2 : Int32) &&& 31).toUInt32).toInt32) &&& (3 : Int32))), .val (.int ((3 : Int32) + ((6 : Int32) * (p3 &&& (3 : Int32))))), .val (.int ((3 : Int32) + ((6 : Int32) * (((p3.toUInt32 >>> ((2 : Int32) &&& 31).toUInt32).toInt32) &&& (3 : Int32))))), .val (.ref b1), .val (.int ((14 : Int32) + ((3 : Int32) + ((6 : Int32) * (p3 &&& (3 : Int32)))))), .val (.ref b31), .unset, .unset, .unset, .unset] [(.int (1 : Int32))])) _
    refine XS.ifYes X35.here hx rfl (pc0 := 179) (pc' := 184) rfl (hb hby at_179) rfl ((if0 _ _).trans (feq (by decide : ¬ ((1 : Int32) = (0 : Int32)))).2) (by decide) (by decide) ?_
    show Steps p.tables e below (T35.setTop (mkF m 184 #[.val (.long q0), .second, .val (.long q1), .second, .val (.long q2), .second, .val (.int p3), .val (.int (p3 &&& (3 : Int32))), .val (.int (((p3.toUInt32 >>> ((2 : Int32) &&& 31).toUInt32).toInt32) &&& (3 : Int32))), .val (.int ((3 : Int32) + ((6 : Int32) * (p3 &&& (3 : Int32))))), .val (.int ((3 : Int32) + ((6 : Int32) * (((p3.toUInt32 >>> ((2 : Int32) &&& 31).toUInt32).toInt32) &&& (3 : Int32))))), .val (.ref b1), .val (.int ((14 : Int32) + ((3 : Int32) + ((6 : Int32) * (p3 &&& (3 : Int32)))))), .val (.ref b31), .unset, .unset, .unset, .unset] [])) _
    refine XS.aload X35.here hx rfl (hb hby at_184) rfl rfl ?_
    show Steps p.tables e below (T35.setTop (mkF m 186 #[.val (.long q0), .second, .val (.long q1), .second, .val (.long q2), .second, .val (.int p3), .val (.int (p3 &&& (3 : Int32))), .val (.int (((p3.toUInt32 >>> ((2 : Int32) &&& 31).toUInt32).toInt32) &&& (3 : Int32))), .val (.int ((3 : Int32) + ((6 : Int32) * (p3 &&& (3 : Int32))))), .val (.int ((3 : Int32) + ((6 : Int32) * (((p3.toUInt32 >>> ((2 : Int32) &&& 31).toUInt32).toInt32) &&& (3 : Int32))))), .val (.ref b1), .val (.int ((14 : Int32) + ((3 : Int32) + ((6 : Int32) * (p3 &&& (3 : Int32)))))), .val (.ref b31), .unset, .unset, .unset, .unset] [(.ref b31)])) _
    refine st37.trans ?_
    show Steps p.tables e below (T37.setTop (mkF m 189 #[.val (.long q0), .second, .val (.long q1), .second, .val (.long q2), .second, .val (.int p3), .val (.int (p3 &&& (3 : Int32))), .val (.int (((p3.toUInt32 >>> ((2 : Int32) &&& 31).toUInt32).toInt32) &&& (3 : Int32))), .val (.int ((3 : Int32) + ((6 : Int32) * (p3 &&& (3 : Int32))))), .val (.int ((3 : Int32) + ((6 : Int32) * (((p3.toUInt32 >>> ((2 : Int32) &&& 31).toUInt32).toInt32) &&& (3 : Int32))))), .val (.ref b1), .val (.int ((14 : Int32) + ((3 : Int32) + ((6 : Int32) * (p3 &&& (3 : Int32)))))), .val (.ref b31), .unset, .unset, .unset, .unset] [(.long (own_ts (F (1 + (3 + 6 * kA))) (F ((1 + (3 + 6 * kA)) + 1)) (F ((1 + (3 + 6 * kA)) + 2)) (F ((1 + (3 + 6 * kA)) + 3))))])) _
    refine XS.lstore X37.here hx rfl (hb hby at_189) rfl (l' := #[.val (.long q0), .second, .val (.long q1), .second, .val (.long q2), .second, .val (.int p3), .val (.int (p3 &&& (3 : Int32))), .val (.int (((p3.toUInt32 >>> ((2 : Int32) &&& 31).toUInt32).toInt32) &&& (3 : Int32))), .val (.int ((3 : Int32) + ((6 : Int32) * (p3 &&& (3 : Int32))))), .val (.int ((3 : Int32) + ((6 : Int32) * (((p3.toUInt32 >>> ((2 : Int32) &&& 31).toUInt32).toInt32) &&& (3 : Int32))))), .val (.ref b1), .val (.int ((14 : Int32) + ((3 : Int32) + ((6 : Int32) * (p3 &&& (3 : Int32)))))), .val (.ref b31), .val (.long (own_ts (F (1 + (3 + 6 * kA))) (F ((1 + (3 + 6 * kA)) + 1)) (F ((1 + (3 + 6 * kA)) + 2)) (F ((1 + (3 + 6 * kA)) + 3)))), .second, .unset, .unset]) rfl ?_
    show Steps p.tables e below (T37.setTop (mkF m 191 #[.val (.long q0), .second, .val (.long q1), .second, .val (.long q2), .second, .val (.int p3), .val (.int (p3 &&& (3 : Int32))), .val (.int (((p3.toUInt32 >>> ((2 : Int32) &&& 31).toUInt32).toInt32) &&& (3 : Int32))), .val (.int ((3 : Int32) + ((6 : Int32) * (p3 &&& (3 : Int32))))), .val (.int ((3 : Int32) + ((6 : Int32) * (((p3.toUInt32 >>> ((2 : Int32) &&& 31).toUInt32).toInt32) &&& (3 : Int32))))), .val (.ref b1), .val (.int ((14 : Int32) + ((3 : Int32) + ((6 : Int32) * (p3 &&& (3 : Int32)))))), .val (.ref b31), .val (.long (own_ts (F (1 + (3 + 6 * kA))) (F ((1 + (3 + 6 * kA)) + 1)) (F ((1 + (3 + 6 * kA)) + 2)) (F ((1 + (3 + 6 * kA)) + 3)))), .second, .unset, .unset] [])) _
    refine XS.aload X37.here hx rfl (hb hby at_191) rfl rfl ?_
    show Steps p.tables e below (T37.setTop (mkF m 193 #[.val (.long q0), .second, .val (.long q1), .second, .val (.long q2), .second, .val (.int p3), .val (.int (p3 &&& (3 : Int32))), .val (.int (((p3.toUInt32 >>> ((2 : Int32) &&& 31).toUInt32).toInt32) &&& (3 : Int32))), .val (.int ((3 : Int32) + ((6 : Int32) * (p3 &&& (3 : Int32))))), .val (.int ((3 : Int32) + ((6 : Int32) * (((p3.toUInt32 >>> ((2 : Int32) &&& 31).toUInt32).toInt32) &&& (3 : Int32))))), .val (.ref b1), .val (.int ((14 : Int32) + ((3 : Int32) + ((6 : Int32) * (p3 &&& (3 : Int32)))))), .val (.ref b31), .val (.long (own_ts (F (1 + (3 + 6 * kA))) (F ((1 + (3 + 6 * kA)) + 1)) (F ((1 + (3 + 6 * kA)) + 2)) (F ((1 + (3 + 6 * kA)) + 3)))), .second, .unset, .unset] [(.ref b31)])) _
    refine st38.trans ?_
    show Steps p.tables e below (T38.setTop (mkF m 196 #[.val (.long q0), .second, .val (.long q1), .second, .val (.long q2), .second, .val (.int p3), .val (.int (p3 &&& (3 : Int32))), .val (.int (((p3.toUInt32 >>> ((2 : Int32) &&& 31).toUInt32).toInt32) &&& (3 : Int32))), .val (.int ((3 : Int32) + ((6 : Int32) * (p3 &&& (3 : Int32))))), .val (.int ((3 : Int32) + ((6 : Int32) * (((p3.toUInt32 >>> ((2 : Int32) &&& 31).toUInt32).toInt32) &&& (3 : Int32))))), .val (.ref b1), .val (.int ((14 : Int32) + ((3 : Int32) + ((6 : Int32) * (p3 &&& (3 : Int32)))))), .val (.ref b31), .val (.long (own_ts (F (1 + (3 + 6 * kA))) (F ((1 + (3 + 6 * kA)) + 1)) (F ((1 + (3 + 6 * kA)) + 2)) (F ((1 + (3 + 6 * kA)) + 3)))), .second, .unset, .unset] [(.int (1 : Int32))])) _
    refine XS.ifYes X38.here hx rfl (pc0 := 196) (pc' := 201) rfl (hb hby at_196) rfl ((if0 _ _).trans (feq (by decide : ¬ ((1 : Int32) = (0 : Int32)))).2) (by decide) (by decide) ?_
    show Steps p.tables e below (T38.setTop (mkF m 201 #[.val (.long q0), .second, .val (.long q1), .second, .val (.long q2), .second, .val (.int p3), .val (.int (p3 &&& (3 : Int32))), .val (.int (((p3.toUInt32 >>> ((2 : Int32) &&& 31).toUInt32).toInt32) &&& (3 : Int32))), .val (.int ((3 : Int32) + ((6 : Int32) * (p3 &&& (3 : Int32))))), .val (.int ((3 : Int32) + ((6 : Int32) * (((p3.toUInt32 >>> ((2 : Int32) &&& 31).toUInt32).toInt32) &&& (3 : Int32))))), .val (.ref b1), .val (.int ((14 : Int32) + ((3 : Int32) + ((6 : Int32) * (p3 &&& (3 : Int32)))))), .val (.ref b31), .val (.long (own_ts (F (1 + (3 + 6 * kA))) (F ((1 + (3 + 6 * kA)) + 1)) (F ((1 + (3 + 6 * kA)) + 2)) (F ((1 + (3 + 6 * kA)) + 3)))), .second, .unset, .unset] [])) _
    refine XS.aload X38.here hx rfl (hb hby at_201) rfl rfl ?_
    show Steps p.tables e below (T38.setTop (mkF m 203 #[.val (.long q0), .second, .val (.long q1), .second, .val (.long q2), .second, .val (.int p3), .val (.int (p3 &&& (3 : Int32))), .val (.int (((p3.toUInt32 >>> ((2 : Int32) &&& 31).toUInt32).toInt32) &&& (3 : Int32))), .val (.int ((3 : Int32) + ((6 : Int32) * (p3 &&& (3 : Int32))))), .val (.int ((3 : Int32) + ((6 : Int32) * (((p3.toUInt32 >>> ((2 : Int32) &&& 31).toUInt32).toInt32) &&& (3 : Int32))))), .val (.ref b1), .val (.int ((14 : Int32) + ((3 : Int32) + ((6 : Int32) * (p3 &&& (3 : Int32)))))), .val (.ref b31), .val (.long (own_ts (F (1 + (3 + 6 * kA))) (F ((1 + (3 + 6 * kA)) + 1)) (F ((1 + (3 + 6 * kA)) + 2)) (F ((1 + (3 + 6 * kA)) + 3)))), .second, .unset, .unset] [(.ref b31)])) _
    refine st40.trans ?_
    show Steps p.tables e below (T40.setTop (mkF m 206 #[.val (.long q0), .second, .val (.long q1), .second, .val (.long q2), .second, .val (.int p3), .val (.int (p3 &&& (3 : Int32))), .val (.int (((p3.toUInt32 >>> ((2 : Int32) &&& 31).toUInt32).toInt32) &&& (3 : Int32))), .val (.int ((3 : Int32) + ((6 : Int32) * (p3 &&& (3 : Int32))))), .val (.int ((3 : Int32) + ((6 : Int32) * (((p3.toUInt32 >>> ((2 : Int32) &&& 31).toUInt32).toInt32) &&& (3 : Int32))))), .val (.ref b1), .val (.int ((14 : Int32) + ((3 : Int32) + ((6 : Int32) * (p3 &&& (3 : Int32)))))), .val (.ref b31), .val (.long (own_ts (F (1 + (3 + 6 * kA))) (F ((1 + (3 + 6 * kA)) + 1)) (F ((1 + (3 + 6 * kA)) + 2)) (F ((1 + (3 + 6 * kA)) + 3)))), .second, .unset, .unset] [(.long (own_ts (F (((14 + (3 + 6 * kA)) + 1) + (3 + 6 * kB))) (F ((((14 + (3 + 6 * kA)) + 1) + (3 + 6 * kB)) + 1)) (F ((((14 + (3 + 6 * kA)) + 1) + (3 + 6 * kB)) + 2)) (F ((((14 + (3 + 6 * kA)) + 1) + (3 + 6 * kB)) + 3))))])) _
    refine XS.lstore X40.here hx rfl (hb hby at_206) rfl (l' := #[.val (.long q0), .second, .val (.long q1), .second, .val (.long q2), .second, .val (.int p3), .val (.int (p3 &&& (3 : Int32))), .val (.int (((p3.toUInt32 >>> ((2 : Int32) &&& 31).toUInt32).toInt32) &&& (3 : Int32))), .val (.int ((3 : Int32) + ((6 : Int32) * (p3 &&& (3 : Int32))))), .val (.int ((3 : Int32) + ((6 : Int32) * (((p3.toUInt32 >>> ((2 : Int32) &&& 31).toUInt32).toInt32) &&& (3 : Int32))))), .val (.ref b1), .val (.int ((14 : Int32) + ((3 : Int32) + ((6 : Int32) * (p3 &&& (3 : Int32)))))), .val (.ref b31), .val (.long (own_ts (F (1 + (3 + 6 * kA))) (F ((1 + (3 + 6 * kA)) + 1)) (F ((1 + (3 + 6 * kA)) + 2)) (F ((1 + (3 + 6 * kA)) + 3)))), .second, .val (.long (own_ts (F (((14 + (3 + 6 * kA)) + 1) + (3 + 6 * kB))) (F ((((14 + (3 + 6 * kA)) + 1) + (3 + 6 * kB)) + 1)) (F ((((14 + (3 + 6 * kA)) + 1) + (3 + 6 * kB)) + 2)) (F ((((14 + (3 + 6 * kA)) + 1) + (3 + 6 * kB)) + 3)))), .second]) rfl ?_
    show Steps p.tables e below (T40.setTop (mkF m 208 #[.val (.long q0), .second, .val (.long q1), .second, .val (.long q2), .second, .val (.int p3), .val (.int (p3 &&& (3 : Int32))), .val (.int (((p3.toUInt32 >>> ((2 : Int32) &&& 31).toUInt32).toInt32) &&& (3 : Int32))), .val (.int ((3 : Int32) + ((6 : Int32) * (p3 &&& (3 : Int32))))), .val (.int ((3 : Int32) + ((6 : Int32) * (((p3.toUInt32 >>> ((2 : Int32) &&& 31).toUInt32).toInt32) &&& (3 : Int32))))), .val (.ref b1), .val (.int ((14 : Int32) + ((3 : Int32) + ((6 : Int32) * (p3 &&& (3 : Int32)))))), .val (.ref b31), .val (.long (own_ts (F (1 + (3 + 6 * kA))) (F ((1 + (3 + 6 * kA)) + 1)) (F ((1 + (3 + 6 * kA)) + 2)) (F ((1 + (3 + 6 * kA)) + 3)))), .second, .val (.long (own_ts (F (((14 + (3 + 6 * kA)) + 1) + (3 + 6 * kB))) (F ((((14 + (3 + 6 * kA)) + 1) + (3 + 6 * kB)) + 1)) (F ((((14 + (3 + 6 * kA)) + 1) + (3 + 6 * kB)) + 2)) (F ((((14 + (3 + 6 * kA)) + 1) + (3 + 6 * kB)) + 3)))), .second] [])) _
    refine XS.lload X40.here hx rfl (hb hby at_208) rfl ?_
    show Steps p.tables e below (T40.setTop (mkF m 210 #[.val (.long q0), .second, .val (.long q1), .second, .val (.long q2), .second, .val (.int p3), .val (.int (p3 &&& (3 : Int32))), .val (.int (((p3.toUInt32 >>> ((2 : Int32) &&& 31).toUInt32).toInt32) &&& (3 : Int32))), .val (.int ((3 : Int32) + ((6 : Int32) * (p3 &&& (3 : Int32))))), .val (.int ((3 : Int32) + ((6 : Int32) * (((p3.toUInt32 >>> ((2 : Int32) &&& 31).toUInt32).toInt32) &&& (3 : Int32))))), .val (.ref b1), .val (.int ((14 : Int32) + ((3 : Int32) + ((6 : Int32) * (p3 &&& (3 : Int32)))))), .val (.ref b31), .val (.long (own_ts (F (1 + (3 + 6 * kA))) (F ((1 + (3 + 6 * kA)) + 1)) (F ((1 + (3 + 6 * kA)) + 2)) (F ((1 + (3 + 6 * kA)) + 3)))), .second, .val (.long (own_ts (F (((14 + (3 + 6 * kA)) + 1) + (3 + 6 * kB))) (F ((((14 + (3 + 6 * kA)) + 1) + (3 + 6 * kB)) + 1)) (F ((((14 + (3 + 6 * kA)) + 1) + (3 + 6 * kB)) + 2)) (F ((((14 + (3 + 6 * kA)) + 1) + (3 + 6 * kB)) + 3)))), .second] [(.long (own_ts (F (1 + (3 + 6 * kA))) (F ((1 + (3 + 6 * kA)) + 1)) (F ((1 + (3 + 6 * kA)) + 2)) (F ((1 + (3 + 6 * kA)) + 3))))])) _
    refine XS.lloadN X40.here hx rfl (hb hby at_210) rfl ?_
    show Steps p.tables e below (T40.setTop (mkF m 211 #[.val (.long q0), .second, .val (.long q1), .second, .val (.long q2), .second, .val (.int p3), .val (.int (p3 &&& (3 : Int32))), .val (.int (((p3.toUInt32 >>> ((2 : Int32) &&& 31).toUInt32).toInt32) &&& (3 : Int32))), .val (.int ((3 : Int32) + ((6 : Int32) * (p3 &&& (3 : Int32))))), .val (.int ((3 : Int32) + ((6 : Int32) * (((p3.toUInt32 >>> ((2 : Int32) &&& 31).toUInt32).toInt32) &&& (3 : Int32))))), .val (.ref b1), .val (.int ((14 : Int32) + ((3 : Int32) + ((6 : Int32) * (p3 &&& (3 : Int32)))))), .val (.ref b31), .val (.long (own_ts (F (1 + (3 + 6 * kA))) (F ((1 + (3 + 6 * kA)) + 1)) (F ((1 + (3 + 6 * kA)) + 2)) (F ((1 + (3 + 6 * kA)) + 3)))), .second, .val (.long (own_ts (F (((14 + (3 + 6 * kA)) + 1) + (3 + 6 * kB))) (F ((((14 + (3 + 6 * kA)) + 1) + (3 + 6 * kB)) + 1)) (F ((((14 + (3 + 6 * kA)) + 1) + (3 + 6 * kB)) + 2)) (F ((((14 + (3 + 6 * kA)) + 1) + (3 + 6 * kB)) + 3)))), .second] [(.long q0), (.long (own_ts (F (1 + (3 + 6 * kA))) (F ((1 + (3 + 6 * kA)) + 1)) (F ((1 + (3 + 6 * kA)) + 2)) (F ((1 + (3 + 6 * kA)) + 3))))])) _
    refine X40.ldc2Long hx hown (mvT hZ (hw _ (List.mem_of_getElem? (i := 32) rfl))) (g := (mkF m 211 #[.val (.long q0), .second, .val (.long q1), .second, .val (.long q2), .second, .val (.int p3), .val (.int (p3 &&& (3 : Int32))), .val (.int (((p3.toUInt32 >>> ((2 : Int32) &&& 31).toUInt32).toInt32) &&& (3 : Int32))), .val (.int ((3 : Int32) + ((6 : Int32) * (p3 &&& (3 : Int32))))), .val (.int ((3 : Int32) + ((6 : Int32) * (((p3.toUInt32 >>> ((2 : Int32) &&& 31).toUInt32).toInt32) &&& (3 : Int32))))), .val (.ref b1), .val (.int ((14 : Int32) + ((3 : Int32) + ((6 : Int32) * (p3 &&& (3 : Int32)))))), .val (.ref b31), .val (.long (own_ts (F (1 + (3 + 6 * kA))) (F ((1 + (3 + 6 * kA)) + 1)) (F ((1 + (3 + 6 * kA)) + 2)) (F ((1 + (3 + 6 * kA)) + 3)))), .second, .val (.long (own_ts (F (((14 + (3 + 6 * kA)) + 1) + (3 + 6 * kB))) (F ((((14 + (3 + 6 * kA)) + 1) + (3 + 6 * kB)) + 1)) (F ((((14 + (3 + 6 * kA)) + 1) + (3 + 6 * kB)) + 2)) (F ((((14 + (3 + 6 * kA)) + 1) + (3 + 6 * kB)) + 3)))), .second] [(.long q0), (.long (own_ts (F (1 + (3 + 6 * kA))) (F ((1 + (3 + 6 * kA)) + 1)) (F ((1 + (3 + 6 * kA)) + 2)) (F ((1 + (3 + 6 * kA)) + 3))))])) rfl (hb hby at_211) _ ?_
    show Steps p.tables e below (T40.setTop (mkF m 214 #[.val (.long q0), .second, .val (.long q1), .second, .val (.long q2), .second, .val (.int p3), .val (.int (p3 &&& (3 : Int32))), .val (.int (((p3.toUInt32 >>> ((2 : Int32) &&& 31).toUInt32).toInt32) &&& (3 : Int32))), .val (.int ((3 : Int32) + ((6 : Int32) * (p3 &&& (3 : Int32))))), .val (.int ((3 : Int32) + ((6 : Int32) * (((p3.toUInt32 >>> ((2 : Int32) &&& 31).toUInt32).toInt32) &&& (3 : Int32))))), .val (.ref b1), .val (.int ((14 : Int32) + ((3 : Int32) + ((6 : Int32) * (p3 &&& (3 : Int32)))))), .val (.ref b31), .val (.long (own_ts (F (1 + (3 + 6 * kA))) (F ((1 + (3 + 6 * kA)) + 1)) (F ((1 + (3 + 6 * kA)) + 2)) (F ((1 + (3 + 6 * kA)) + 3)))), .second, .val (.long (own_ts (F (((14 + (3 + 6 * kA)) + 1) + (3 + 6 * kB))) (F ((((14 + (3 + 6 * kA)) + 1) + (3 + 6 * kB)) + 1)) (F ((((14 + (3 + 6 * kA)) + 1) + (3 + 6 * kB)) + 2)) (F ((((14 + (3 + 6 * kA)) + 1) + (3 + 6 * kB)) + 3)))), .second] [(.long (4294967295 : Int64)), (.long q0), (.long (own_ts (F (1 + (3 + 6 * kA))) (F ((1 + (3 + 6 * kA)) + 1)) (F ((1 + (3 + 6 * kA)) + 2)) (F ((1 + (3 + 6 * kA)) + 3))))])) _
    refine XS.land X40.here hx rfl (hb hby at_214) rfl ?_
    show Steps p.tables e below (T40.setTop (mkF m 215 #[.val (.long q0), .second, .val (.long q1), .second, .val (.long q2), .second, .val (.int p3), .val (.int (p3 &&& (3 : Int32))), .val (.int (((p3.toUInt32 >>> ((2 : Int32) &&& 31).toUInt32).toInt32) &&& (3 : Int32))), .val (.int ((3 : Int32) + ((6 : Int32) * (p3 &&& (3 : Int32))))), .val (.int ((3 : Int32) + ((6 : Int32) * (((p3.toUInt32 >>> ((2 : Int32) &&& 31).toUInt32).toInt32) &&& (3 : Int32))))), .val (.ref b1), .val (.int ((14 : Int32) + ((3 : Int32) + ((6 : Int32) * (p3 &&& (3 : Int32)))))), .val (.ref b31), .val (.long (own_ts (F (1 + (3 + 6 * kA))) (F ((1 + (3 + 6 * kA)) + 1)) (F ((1 + (3 + 6 * kA)) + 2)) (F ((1 + (3 + 6 * kA)) + 3)))), .second, .val (.long (own_ts (F (((14 + (3 + 6 * kA)) + 1) + (3 + 6 * kB))) (F ((((14 + (3 + 6 * kA)) + 1) + (3 + 6 * kB)) + 1)) (F ((((14 + (3 + 6 * kA)) + 1) + (3 + 6 * kB)) + 2)) (F ((((14 + (3 + 6 * kA)) + 1) + (3 + 6 * kB)) + 3)))), .second] [(.long (q0 &&& (4294967295 : Int64))), (.long (own_ts (F (1 + (3 + 6 * kA))) (F ((1 + (3 + 6 * kA)) + 1)) (F ((1 + (3 + 6 * kA)) + 2)) (F ((1 + (3 + 6 * kA)) + 3))))])) _
    refine XS.lcmp X40.here hx rfl (hb hby at_215) rfl ?_
    show Steps p.tables e below (T40.setTop (mkF m 216 #[.val (.long q0), .second, .val (.long q1), .second, .val (.long q2), .second, .val (.int p3), .val (.int (p3 &&& (3 : Int32))), .val (.int (((p3.toUInt32 >>> ((2 : Int32) &&& 31).toUInt32).toInt32) &&& (3 : Int32))), .val (.int ((3 : Int32) + ((6 : Int32) * (p3 &&& (3 : Int32))))), .val (.int ((3 : Int32) + ((6 : Int32) * (((p3.toUInt32 >>> ((2 : Int32) &&& 31).toUInt32).toInt32) &&& (3 : Int32))))), .val (.ref b1), .val (.int ((14 : Int32) + ((3 : Int32) + ((6 : Int32) * (p3 &&& (3 : Int32)))))), .val (.ref b31), .val (.long (own_ts (F (1 + (3 + 6 * kA))) (F ((1 + (3 + 6 * kA)) + 1)) (F ((1 + (3 + 6 * kA)) + 2)) (F ((1 + (3 + 6 * kA)) + 3)))), .second, .val (.long (own_ts (F (((14 + (3 + 6 * kA)) + 1) + (3 + 6 * kB))) (F ((((14 + (3 + 6 * kA)) + 1) + (3 + 6 * kB)) + 1)) (F ((((14 + (3 + 6 * kA)) + 1) + (3 + 6 * kB)) + 2)) (F ((((14 + (3 + 6 * kA)) + 1) + (3 + 6 * kB)) + 3)))), .second] [(.int (lcmpW (own_ts (F (1 + (3 + 6 * kA))) (F ((1 + (3 + 6 * kA)) + 1)) (F ((1 + (3 + 6 * kA)) + 2)) (F ((1 + (3 + 6 * kA)) + 3))) (q0 &&& (4294967295 : Int64))))])) _
    refine XS.ifNo X40.here hx rfl (hb hby at_216) rfl ((if0 _ _).trans (teq ((lw_eq _ _).mpr ta)).2) ?_
    show Steps p.tables e below (T40.setTop (mkF m 219 #[.val (.long q0), .second, .val (.long q1), .second, .val (.long q2), .second, .val (.int p3), .val (.int (p3 &&& (3 : Int32))), .val (.int (((p3.toUInt32 >>> ((2 : Int32) &&& 31).toUInt32).toInt32) &&& (3 : Int32))), .val (.int ((3 : Int32) + ((6 : Int32) * (p3 &&& (3 : Int32))))), .val (.int ((3 : Int32) + ((6 : Int32) * (((p3.toUInt32 >>> ((2 : Int32) &&& 31).toUInt32).toInt32) &&& (3 : Int32))))), .val (.ref b1), .val (.int ((14 : Int32) + ((3 : Int32) + ((6 : Int32) * (p3 &&& (3 : Int32)))))), .val (.ref b31), .val (.long (own_ts (F (1 + (3 + 6 * kA))) (F ((1 + (3 + 6 * kA)) + 1)) (F ((1 + (3 + 6 * kA)) + 2)) (F ((1 + (3 + 6 * kA)) + 3)))), .second, .val (.long (own_ts (F (((14 + (3 + 6 * kA)) + 1) + (3 + 6 * kB))) (F ((((14 + (3 + 6 * kA)) + 1) + (3 + 6 * kB)) + 1)) (F ((((14 + (3 + 6 * kA)) + 1) + (3 + 6 * kB)) + 2)) (F ((((14 + (3 + 6 * kA)) + 1) + (3 + 6 * kB)) + 3)))), .second] [])) _
    refine XS.lload X40.here hx rfl (hb hby at_219) rfl ?_
    show Steps p.tables e below (T40.setTop (mkF m 221 #[.val (.long q0), .second, .val (.long q1), .second, .val (.long q2), .second, .val (.int p3), .val (.int (p3 &&& (3 : Int32))), .val (.int (((p3.toUInt32 >>> ((2 : Int32) &&& 31).toUInt32).toInt32) &&& (3 : Int32))), .val (.int ((3 : Int32) + ((6 : Int32) * (p3 &&& (3 : Int32))))), .val (.int ((3 : Int32) + ((6 : Int32) * (((p3.toUInt32 >>> ((2 : Int32) &&& 31).toUInt32).toInt32) &&& (3 : Int32))))), .val (.ref b1), .val (.int ((14 : Int32) + ((3 : Int32) + ((6 : Int32) * (p3 &&& (3 : Int32)))))), .val (.ref b31), .val (.long (own_ts (F (1 + (3 + 6 * kA))) (F ((1 + (3 + 6 * kA)) + 1)) (F ((1 + (3 + 6 * kA)) + 2)) (F ((1 + (3 + 6 * kA)) + 3)))), .second, .val (.long (own_ts (F (((14 + (3 + 6 * kA)) + 1) + (3 + 6 * kB))) (F ((((14 + (3 + 6 * kA)) + 1) + (3 + 6 * kB)) + 1)) (F ((((14 + (3 + 6 * kA)) + 1) + (3 + 6 * kB)) + 2)) (F ((((14 + (3 + 6 * kA)) + 1) + (3 + 6 * kB)) + 3)))), .second] [(.long (own_ts (F (((14 + (3 + 6 * kA)) + 1) + (3 + 6 * kB))) (F ((((14 + (3 + 6 * kA)) + 1) + (3 + 6 * kB)) + 1)) (F ((((14 + (3 + 6 * kA)) + 1) + (3 + 6 * kB)) + 2)) (F ((((14 + (3 + 6 * kA)) + 1) + (3 + 6 * kB)) + 3))))])) _
    refine XS.lloadN X40.here hx rfl (hb hby at_221) rfl ?_
    show Steps p.tables e below (T40.setTop (mkF m 222 #[.val (.long q0), .second, .val (.long q1), .second, .val (.long q2), .second, .val (.int p3), .val (.int (p3 &&& (3 : Int32))), .val (.int (((p3.toUInt32 >>> ((2 : Int32) &&& 31).toUInt32).toInt32) &&& (3 : Int32))), .val (.int ((3 : Int32) + ((6 : Int32) * (p3 &&& (3 : Int32))))), .val (.int ((3 : Int32) + ((6 : Int32) * (((p3.toUInt32 >>> ((2 : Int32) &&& 31).toUInt32).toInt32) &&& (3 : Int32))))), .val (.ref b1), .val (.int ((14 : Int32) + ((3 : Int32) + ((6 : Int32) * (p3 &&& (3 : Int32)))))), .val (.ref b31), .val (.long (own_ts (F (1 + (3 + 6 * kA))) (F ((1 + (3 + 6 * kA)) + 1)) (F ((1 + (3 + 6 * kA)) + 2)) (F ((1 + (3 + 6 * kA)) + 3)))), .second, .val (.long (own_ts (F (((14 + (3 + 6 * kA)) + 1) + (3 + 6 * kB))) (F ((((14 + (3 + 6 * kA)) + 1) + (3 + 6 * kB)) + 1)) (F ((((14 + (3 + 6 * kA)) + 1) + (3 + 6 * kB)) + 2)) (F ((((14 + (3 + 6 * kA)) + 1) + (3 + 6 * kB)) + 3)))), .second] [(.long q1), (.long (own_ts (F (((14 + (3 + 6 * kA)) + 1) + (3 + 6 * kB))) (F ((((14 + (3 + 6 * kA)) + 1) + (3 + 6 * kB)) + 1)) (F ((((14 + (3 + 6 * kA)) + 1) + (3 + 6 * kB)) + 2)) (F ((((14 + (3 + 6 * kA)) + 1) + (3 + 6 * kB)) + 3))))])) _
    refine X40.ldc2Long hx hown (mvT hZ (hw _ (List.mem_of_getElem? (i := 32) rfl))) (g := (mkF m 222 #[.val (.long q0), .second, .val (.long q1), .second, .val (.long q2), .second, .val (.int p3), .val (.int (p3 &&& (3 : Int32))), .val (.int (((p3.toUInt32 >>> ((2 : Int32) &&& 31).toUInt32).toInt32) &&& (3 : Int32))), .val (.int ((3 : Int32) + ((6 : Int32) * (p3 &&& (3 : Int32))))), .val (.int ((3 : Int32) + ((6 : Int32) * (((p3.toUInt32 >>> ((2 : Int32) &&& 31).toUInt32).toInt32) &&& (3 : Int32))))), .val (.ref b1), .val (.int ((14 : Int32) + ((3 : Int32) + ((6 : Int32) * (p3 &&& (3 : Int32)))))), .val (.ref b31), .val (.long (own_ts (F (1 + (3 + 6 * kA))) (F ((1 + (3 + 6 * kA)) + 1)) (F ((1 + (3 + 6 * kA)) + 2)) (F ((1 + (3 + 6 * kA)) + 3)))), .second, .val (.long (own_ts (F (((14 + (3 + 6 * kA)) + 1) + (3 + 6 * kB))) (F ((((14 + (3 + 6 * kA)) + 1) + (3 + 6 * kB)) + 1)) (F ((((14 + (3 + 6 * kA)) + 1) + (3 + 6 * kB)) + 2)) (F ((((14 + (3 + 6 * kA)) + 1) + (3 + 6 * kB)) + 3)))), .second] [(.long q1), (.long (own_ts (F (((14 + (3 + 6 * kA)) + 1) + (3 + 6 * kB))) (F ((((14 + (3 + 6 * kA)) + 1) + (3 + 6 * kB)) + 1)) (F ((((14 + (3 + 6 * kA)) + 1) + (3 + 6 * kB)) + 2)) (F ((((14 + (3 + 6 * kA)) + 1) + (3 + 6 * kB)) + 3))))])) rfl (hb hby at_222) _ ?_
    show Steps p.tables e below (T40.setTop (mkF m 225 #[.val (.long q0), .second, .val (.long q1), .second, .val (.long q2), .second, .val (.int p3), .val (.int (p3 &&& (3 : Int32))), .val (.int (((p3.toUInt32 >>> ((2 : Int32) &&& 31).toUInt32).toInt32) &&& (3 : Int32))), .val (.int ((3 : Int32) + ((6 : Int32) * (p3 &&& (3 : Int32))))), .val (.int ((3 : Int32) + ((6 : Int32) * (((p3.toUInt32 >>> ((2 : Int32) &&& 31).toUInt32).toInt32) &&& (3 : Int32))))), .val (.ref b1), .val (.int ((14 : Int32) + ((3 : Int32) + ((6 : Int32) * (p3 &&& (3 : Int32)))))), .val (.ref b31), .val (.long (own_ts (F (1 + (3 + 6 * kA))) (F ((1 + (3 + 6 * kA)) + 1)) (F ((1 + (3 + 6 * kA)) + 2)) (F ((1 + (3 + 6 * kA)) + 3)))), .second, .val (.long (own_ts (F (((14 + (3 + 6 * kA)) + 1) + (3 + 6 * kB))) (F ((((14 + (3 + 6 * kA)) + 1) + (3 + 6 * kB)) + 1)) (F ((((14 + (3 + 6 * kA)) + 1) + (3 + 6 * kB)) + 2)) (F ((((14 + (3 + 6 * kA)) + 1) + (3 + 6 * kB)) + 3)))), .second] [(.long (4294967295 : Int64)), (.long q1), (.long (own_ts (F (((14 + (3 + 6 * kA)) + 1) + (3 + 6 * kB))) (F ((((14 + (3 + 6 * kA)) + 1) + (3 + 6 * kB)) + 1)) (F ((((14 + (3 + 6 * kA)) + 1) + (3 + 6 * kB)) + 2)) (F ((((14 + (3 + 6 * kA)) + 1) + (3 + 6 * kB)) + 3))))])) _
    refine XS.land X40.here hx rfl (hb hby at_225) rfl ?_
    show Steps p.tables e below (T40.setTop (mkF m 226 #[.val (.long q0), .second, .val (.long q1), .second, .val (.long q2), .second, .val (.int p3), .val (.int (p3 &&& (3 : Int32))), .val (.int (((p3.toUInt32 >>> ((2 : Int32) &&& 31).toUInt32).toInt32) &&& (3 : Int32))), .val (.int ((3 : Int32) + ((6 : Int32) * (p3 &&& (3 : Int32))))), .val (.int ((3 : Int32) + ((6 : Int32) * (((p3.toUInt32 >>> ((2 : Int32) &&& 31).toUInt32).toInt32) &&& (3 : Int32))))), .val (.ref b1), .val (.int ((14 : Int32) + ((3 : Int32) + ((6 : Int32) * (p3 &&& (3 : Int32)))))), .val (.ref b31), .val (.long (own_ts (F (1 + (3 + 6 * kA))) (F ((1 + (3 + 6 * kA)) + 1)) (F ((1 + (3 + 6 * kA)) + 2)) (F ((1 + (3 + 6 * kA)) + 3)))), .second, .val (.long (own_ts (F (((14 + (3 + 6 * kA)) + 1) + (3 + 6 * kB))) (F ((((14 + (3 + 6 * kA)) + 1) + (3 + 6 * kB)) + 1)) (F ((((14 + (3 + 6 * kA)) + 1) + (3 + 6 * kB)) + 2)) (F ((((14 + (3 + 6 * kA)) + 1) + (3 + 6 * kB)) + 3)))), .second] [(.long (q1 &&& (4294967295 : Int64))), (.long (own_ts (F (((14 + (3 + 6 * kA)) + 1) + (3 + 6 * kB))) (F ((((14 + (3 + 6 * kA)) + 1) + (3 + 6 * kB)) + 1)) (F ((((14 + (3 + 6 * kA)) + 1) + (3 + 6 * kB)) + 2)) (F ((((14 + (3 + 6 * kA)) + 1) + (3 + 6 * kB)) + 3))))])) _
    refine XS.lcmp X40.here hx rfl (hb hby at_226) rfl ?_
    show Steps p.tables e below (T40.setTop (mkF m 227 #[.val (.long q0), .second, .val (.long q1), .second, .val (.long q2), .second, .val (.int p3), .val (.int (p3 &&& (3 : Int32))), .val (.int (((p3.toUInt32 >>> ((2 : Int32) &&& 31).toUInt32).toInt32) &&& (3 : Int32))), .val (.int ((3 : Int32) + ((6 : Int32) * (p3 &&& (3 : Int32))))), .val (.int ((3 : Int32) + ((6 : Int32) * (((p3.toUInt32 >>> ((2 : Int32) &&& 31).toUInt32).toInt32) &&& (3 : Int32))))), .val (.ref b1), .val (.int ((14 : Int32) + ((3 : Int32) + ((6 : Int32) * (p3 &&& (3 : Int32)))))), .val (.ref b31), .val (.long (own_ts (F (1 + (3 + 6 * kA))) (F ((1 + (3 + 6 * kA)) + 1)) (F ((1 + (3 + 6 * kA)) + 2)) (F ((1 + (3 + 6 * kA)) + 3)))), .second, .val (.long (own_ts (F (((14 + (3 + 6 * kA)) + 1) + (3 + 6 * kB))) (F ((((14 + (3 + 6 * kA)) + 1) + (3 + 6 * kB)) + 1)) (F ((((14 + (3 + 6 * kA)) + 1) + (3 + 6 * kB)) + 2)) (F ((((14 + (3 + 6 * kA)) + 1) + (3 + 6 * kB)) + 3)))), .second] [(.int (lcmpW (own_ts (F (((14 + (3 + 6 * kA)) + 1) + (3 + 6 * kB))) (F ((((14 + (3 + 6 * kA)) + 1) + (3 + 6 * kB)) + 1)) (F ((((14 + (3 + 6 * kA)) + 1) + (3 + 6 * kB)) + 2)) (F ((((14 + (3 + 6 * kA)) + 1) + (3 + 6 * kB)) + 3))) (q1 &&& (4294967295 : Int64))))])) _
    refine XS.ifNo X40.here hx rfl (hb hby at_227) rfl ((if0 _ _).trans (teq ((lw_eq _ _).mpr tb)).2) ?_
    show Steps p.tables e below (T40.setTop (mkF m 230 #[.val (.long q0), .second, .val (.long q1), .second, .val (.long q2), .second, .val (.int p3), .val (.int (p3 &&& (3 : Int32))), .val (.int (((p3.toUInt32 >>> ((2 : Int32) &&& 31).toUInt32).toInt32) &&& (3 : Int32))), .val (.int ((3 : Int32) + ((6 : Int32) * (p3 &&& (3 : Int32))))), .val (.int ((3 : Int32) + ((6 : Int32) * (((p3.toUInt32 >>> ((2 : Int32) &&& 31).toUInt32).toInt32) &&& (3 : Int32))))), .val (.ref b1), .val (.int ((14 : Int32) + ((3 : Int32) + ((6 : Int32) * (p3 &&& (3 : Int32)))))), .val (.ref b31), .val (.long (own_ts (F (1 + (3 + 6 * kA))) (F ((1 + (3 + 6 * kA)) + 1)) (F ((1 + (3 + 6 * kA)) + 2)) (F ((1 + (3 + 6 * kA)) + 3)))), .second, .val (.long (own_ts (F (((14 + (3 + 6 * kA)) + 1) + (3 + 6 * kB))) (F ((((14 + (3 + 6 * kA)) + 1) + (3 + 6 * kB)) + 1)) (F ((((14 + (3 + 6 * kA)) + 1) + (3 + 6 * kB)) + 2)) (F ((((14 + (3 + 6 * kA)) + 1) + (3 + 6 * kB)) + 3)))), .second] [])) _
    refine XS.iconst X40.here hx rfl (hb hby at_230) ?_
    show Steps p.tables e below (T40.setTop (mkF m 231 #[.val (.long q0), .second, .val (.long q1), .second, .val (.long q2), .second, .val (.int p3), .val (.int (p3 &&& (3 : Int32))), .val (.int (((p3.toUInt32 >>> ((2 : Int32) &&& 31).toUInt32).toInt32) &&& (3 : Int32))), .val (.int ((3 : Int32) + ((6 : Int32) * (p3 &&& (3 : Int32))))), .val (.int ((3 : Int32) + ((6 : Int32) * (((p3.toUInt32 >>> ((2 : Int32) &&& 31).toUInt32).toInt32) &&& (3 : Int32))))), .val (.ref b1), .val (.int ((14 : Int32) + ((3 : Int32) + ((6 : Int32) * (p3 &&& (3 : Int32)))))), .val (.ref b31), .val (.long (own_ts (F (1 + (3 + 6 * kA))) (F ((1 + (3 + 6 * kA)) + 1)) (F ((1 + (3 + 6 * kA)) + 2)) (F ((1 + (3 + 6 * kA)) + 3)))), .second, .val (.long (own_ts (F (((14 + (3 + 6 * kA)) + 1) + (3 + 6 * kB))) (F ((((14 + (3 + 6 * kA)) + 1) + (3 + 6 * kB)) + 1)) (F ((((14 + (3 + 6 * kA)) + 1) + (3 + 6 * kB)) + 2)) (F ((((14 + (3 + 6 * kA)) + 1) + (3 + 6 * kB)) + 3)))), .second] [(.int (1 : Int32))])) _
    refine XS.goto X40.here hx rfl (pc0 := 231) (pc' := 235) rfl (hb hby at_231) (by decide) (by decide) ?_
    show Steps p.tables e below (T40.setTop (mkF m 235 #[.val (.long q0), .second, .val (.long q1), .second, .val (.long q2), .second, .val (.int p3), .val (.int (p3 &&& (3 : Int32))), .val (.int (((p3.toUInt32 >>> ((2 : Int32) &&& 31).toUInt32).toInt32) &&& (3 : Int32))), .val (.int ((3 : Int32) + ((6 : Int32) * (p3 &&& (3 : Int32))))), .val (.int ((3 : Int32) + ((6 : Int32) * (((p3.toUInt32 >>> ((2 : Int32) &&& 31).toUInt32).toInt32) &&& (3 : Int32))))), .val (.ref b1), .val (.int ((14 : Int32) + ((3 : Int32) + ((6 : Int32) * (p3 &&& (3 : Int32)))))), .val (.ref b31), .val (.long (own_ts (F (1 + (3 + 6 * kA))) (F ((1 + (3 + 6 * kA)) + 1)) (F ((1 + (3 + 6 * kA)) + 2)) (F ((1 + (3 + 6 * kA)) + 3)))), .second, .val (.long (own_ts (F (((14 + (3 + 6 * kA)) + 1) + (3 + 6 * kB))) (F ((((14 + (3 + 6 * kA)) + 1) + (3 + 6 * kB)) + 1)) (F ((((14 + (3 + 6 * kA)) + 1) + (3 + 6 * kB)) + 2)) (F ((((14 + (3 + 6 * kA)) + 1) + (3 + 6 * kB)) + 3)))), .second] [(.int (1 : Int32))])) _
    exact retN X40 hx (t := .boolean) Bd.returns (by simp) (hb hby at_235) hr
  · show Q_law Z q0 q1 q2 p3 h0 n0 _ T40.heap _
    rw [e40]
    exact ⟨rfl, N40⟩
set_option maxRecDepth 65536 in
set_option maxHeartbeats 40000000 in
theorem comes_1 {Post : Tables → Env → Array Value → State → Outcome → State → Prop} (hpost : ∀ tb e args s v u, (limb_1_1.after args s (.returned v) u = true ∧ limb_1_2.after args s (.returned v) u = true ∧ True) → FrameEnd s (.returned v) u (Jvm.fieldLocs frame_1_writes args s ++ Jvm.arrayLocs frame_1_arrays args s ++ Jvm.staticLocs frame_1_statics s) 16 256 → Post tb e args s (.returned v) u) :
    ArmFor flags0 classFile x code maxLocals ret World_1 tables_1 room_1 Calls_1 rest_1 Pre_1 Post := by
  intro l hfl _ _ p e ha hc hk s m args below hf hA hF happ hP
  obtain ⟨hcalls, hrest, hpre⟩ := hP
  obtain ⟨-, -, -, hnamed, -, -, -, hat⟩ := (Spec.applies_iff hf).mp happ
  obtain ⟨hg, hn⟩ := and_e (Cond.before_iff.mp (show (Jvm.Cond.and given_1 narrow_1).before args s = true from hpre))
  obtain ⟨hcnt, hg0⟩ := and_e hg
  obtain ⟨ha0, hg1⟩ := and_e hg0
  obtain ⟨ha1, hg2⟩ := and_e hg1
  obtain ⟨ha2, hg3⟩ := and_e hg2
  have ha3 := hg3
  obtain ⟨w0, w1, w2, w3, rfl⟩ : ∃ w0 w1 w2 w3 : Value, args = #[w0, w1, w2, w3] := by
    have hs : args.size = 4 := by simpa [Cond.value, given_1] using hcnt
    obtain ⟨L⟩ := args
    match L, hs with
    | [w0, w1, w2, w3], _ => exact ⟨w0, w1, w2, w3, rfl⟩
  have hw := fun d (hd : d ∈ tables_1) => atoms_spec (ws := Jvm.Cond.code x code maxLocals ret :: tables_1) hat d (List.mem_cons_of_mem _ hd)
  have hfit : Fit s := fun {y c} hc i hi => by
    obtain ⟨ha, rfl⟩ := Array.getElem?_eq_some_iff.mp hc
    have q := List.all_eq_true.mp ((Array.all_eq_true_iff_forall_mem.mp hF) _ (Array.getElem_mem ha)) i (List.mem_range.mpr hi)
    simpa [Array.getElem?_eq_getElem hi] using q
  obtain ⟨i0, ei0⟩ := isL_v ha0
  obtain rfl : w0 = (.long i0) := Option.some.inj ei0
  obtain ⟨i1, ei1⟩ := isL_v ha1
  obtain rfl : w1 = (.long i1) := Option.some.inj ei1
  obtain ⟨i2, ei2⟩ := isL_v ha2
  obtain rfl : w2 = (.long i2) := Option.some.inj ei2
  obtain ⟨i3, ei3⟩ := is_v ha3
  obtain rfl : w3 = (.int i3) := Option.some.inj ei3
  obtain ⟨n, o, h1, h2, h3, _, L, rfl, ⟨rfl, N⟩, hq⟩ := rm_law l s _ hw tables_1 i0 i1 i2 i3 s.heap s.heap.size (Nat.le_refl _) p e ha hc hk s m _ below hf ((Spec.applies_iff_loose hf).mp happ).1 ⟨rfl, State.Warmed39.refl s, rfl⟩ trivial
  refine ⟨n, _, h1, h2, h3, hpost _ _ _ _ _ _ ⟨Cond.after_iff.mpr rfl, Cond.after_iff.mpr (eq_i res_at (Term.int_eval (1)) rfl), trivial⟩ ⟨hq.1, hq.2.1, (hq.2.2.sift fun y hy => Or.inr (N y hy)).mono (by decide) (by decide)⟩⟩
theorem main_1_1 : Claimed_1_1 := comes_1 fun _ _ _ _ _ _ h hF => ⟨h.1, hF⟩
theorem main_1_2 : Claimed_1_2 := comes_1 fun _ _ _ _ _ _ h hF => ⟨h.2.1, hF⟩
end Jvm.Pilot.@@N@@
namespace Jvm.Pilot.@@N@@
open Jvm Jvm.ClassFile Sem Op Lib Jvm.Free Jvm.Stand Jvm.Pilot.@@N@@.Jvm.D
/-! MADE BY PROGRAM (witnessworld.py) out of the Statement's table words and the real class files: 9 classes; the members and pool entries that the words name. The judged class is class 1, her method 2. -/
namespace start1
open Jvm.ClassFile
def u (s : String) : CpInfo := .utf8 (stringToUtf16 s)
/-- a pool by its gaps: so many unusable entries, then the entry; so many at the end -/
def gap : Nat → List CpInfo → List CpInfo
  | 0, r => r
  | n + 1, r => .unusable :: gap n r
def poolList (es : List (Nat × CpInfo)) (last : Nat) : List CpInfo := es.foldr (fun e r => gap e.1 (e.2 :: r)) (gap last [])
def pool (es : List (Nat × CpInfo)) (last : Nat) : Array CpInfo := ⟨poolList es last⟩
def fileOf (pool : Array CpInfo) (this : Nat) (attrs : Array Attribute := #[]) (ms : Array MethodInfo := #[]) (fl : Nat := 33) (sup : Nat := 0) (ifs : Array Nat := #[]) (fds : Array FieldInfo := #[]) : ClassFile where
  minorVersion := 0
  majorVersion := 65
  constantPool := pool
  accessFlags := fl
  thisClass := this
  superClass := sup
  interfaces := ifs
  fields := fds
  methods := ms
  attributes := attrs
def plain (name : String) (sup : Option ClassId) : Class where
  name := name
  kind := .ordinary
  loader := none
  accessFlags := 33
  super := sup
  interfaces := #[]
  cf := none
  fields := #[]
  methods := #[]
  instanceTypes := #[]
  staticTypes := #[]
  resolved := #[]
  callSites := []
  init := .initialized
  statics := none
  mirror := none

def pool0 : Array CpInfo := pool [(5, u "<init>"), (0, u "()V"), (1, .class_ 10), (1, u "java/lang/Object")] 113

def k0c0 : Code := { maxStack := 0, maxLocals := 1, code := object_method_1_code, exceptionTable := #[], attributes := #[] }
def k0m0 : Method := { name := "<init>", desc := "()V", sig := { parameters := [], returnType := none }, accessFlags := 1, code := some k0c0 }
/-- java/lang/Object -/
def k0 : Class := { plain "java/lang/Object" none with
  accessFlags := 33
  interfaces := #[]
  cf := some (fileOf pool0 8 #[] #[{ accessFlags := 1, nameIndex := 5, descriptorIndex := 6, attributes := #[] }] 33 0 #[] #[])
  fields := #[]
  methods := #[k0m0]
  instanceTypes := #[]
  staticTypes := #[]
  resolved := Array.replicate 124 none
  statics := none }

def pool1 : Array CpInfo := pool [(2, .class_ 4), (1, u "java/lang/Object"), (0, u "<init>"), (0, u "()V"), (0, .methodref 8 9), (0, .class_ 10), (0, .nameAndType 11 12), (0, u "com/example/kest/kest/codec/ReaderTimestampPinLaw"), (0, u "put"), (0, u "([BIJ)V"), (0, .class_ 14), (0, u "com/example/kest/kest/codec/PointLog$Reader"), (0, .methodref 13 16), (0, .nameAndType 5 17), (0, u "([B)V"), (0, .methodref 13 19), (0, .nameAndType 20 21), (0, u "next"), (0, u "()Z"), (0, .methodref 13 23), (0, .nameAndType 24 25), (0, u "timestamp"), (0, u "()J"), (0, .long 4294967295), (3, u "law"), (0, u "(JJJI)Z")] 9

def k1m0 : Method := { name := "<init>", desc := "()V", sig := { parameters := [], returnType := none }, accessFlags := 2, code := none }
def k1c1 : Code := { maxStack := 5, maxLocals := 4, code := method_2_code, exceptionTable := #[], attributes := #[] }
def k1m1 : Method := { name := "put", desc := "([BIJ)V", sig := { parameters := [(.array .byte), .int, .long], returnType := none }, accessFlags := 10, code := some k1c1 }
def k1c2 : Code := { maxStack := 6, maxLocals := 18, code := code, exceptionTable := #[], attributes := #[] }
def k1m2 : Method := { name := "law", desc := "(JJJI)Z", sig := { parameters := [.long, .long, .long, .int], returnType := some .boolean }, accessFlags := 9, code := some k1c2 }
/-- com/example/kest/kest/codec/ReaderTimestampPinLaw -/
def k1 : Class := { plain "com/example/kest/kest/codec/ReaderTimestampPinLaw" (some 0) with
  accessFlags := 49
  interfaces := #[]
  cf := some (fileOf pool1 8 #[] #[{ accessFlags := 2, nameIndex := 5, descriptorIndex := 6, attributes := #[] }, { accessFlags := 10, nameIndex := 11, descriptorIndex := 12, attributes := #[] }, { accessFlags := 9, nameIndex := 30, descriptorIndex := 31, attributes := #[] }] 49 2 #[] #[])
  fields := #[]
  methods := #[k1m0, k1m1, k1m2]
  instanceTypes := #[]
  staticTypes := #[]
  resolved := Array.replicate 41 none
  statics := none }

def pool2 : Array CpInfo := pool [(1, .class_ 2), (0, u "com/example/kest/kest/codec/PointLog"), (0, .methodref 4 5), (0, .class_ 6), (0, .nameAndType 7 8), (0, u "java/lang/Object"), (0, u "<init>"), (0, u "()V"), (0, .fieldref 10 11), (0, .class_ 12), (0, .nameAndType 13 14), (0, u "com/example/kest/kest/codec/PointLog$Reader"), (0, u "series"), (0, u "I"), (0, .fieldref 10 16), (0, .nameAndType 17 18), (0, u "record"), (0, u "[B"), (0, .fieldref 10 20), (0, .nameAndType 21 14), (0, u "next"), (4, .fieldref 10 27), (0, .nameAndType 28 14), (0, u "seriesLength"), (33, u "timestamp"), (0, u "()J"), (6, u "([B)V"), (2, u "()Z")] 30

def k2c0 : Code := { maxStack := 2, maxLocals := 2, code := prog_32_method_1_code, exceptionTable := #[], attributes := #[] }
def k2m0 : Method := { name := "<init>", desc := "([B)V", sig := { parameters := [(.array .byte)], returnType := none }, accessFlags := 1, code := some k2c0 }
def k2c1 : Code := { maxStack := 4, maxLocals := 1, code := prog_32_method_2_code, exceptionTable := #[], attributes := #[] }
def k2m1 : Method := { name := "next", desc := "()Z", sig := { parameters := [], returnType := some .boolean }, accessFlags := 1, code := some k2c1 }
def k2c2 : Code := { maxStack := 5, maxLocals := 5, code := prog_32_method_6_code, exceptionTable := #[], attributes := #[] }
def k2m2 : Method := { name := "timestamp", desc := "()J", sig := { parameters := [], returnType := some .long }, accessFlags := 1, code := some k2c2 }
/-- com/example/kest/kest/codec/PointLog$Reader -/
def k2 : Class := { plain "com/example/kest/kest/codec/PointLog$Reader" (some 0) with
  accessFlags := 49
  interfaces := #[]
  cf := some (fileOf pool2 10 #[.nestHost 1] #[{ accessFlags := 1, nameIndex := 7, descriptorIndex := 70, attributes := #[] }, { accessFlags := 1, nameIndex := 21, descriptorIndex := 73, attributes := #[] }, { accessFlags := 1, nameIndex := 62, descriptorIndex := 63, attributes := #[] }] 49 4 #[] #[{ accessFlags := 18, nameIndex := 17, descriptorIndex := 18, attributes := #[] }, { accessFlags := 2, nameIndex := 21, descriptorIndex := 14, attributes := #[] }, { accessFlags := 2, nameIndex := 13, descriptorIndex := 14, attributes := #[] }, { accessFlags := 2, nameIndex := 28, descriptorIndex := 14, attributes := #[] }])
  fields := #[{ name := "record", type := (.array .byte), accessFlags := 18, slot := 0, constantValue := 0 }, { name := "next", type := .int, accessFlags := 2, slot := 1, constantValue := 0 }, { name := "series", type := .int, accessFlags := 2, slot := 2, constantValue := 0 }, { name := "seriesLength", type := .int, accessFlags := 2, slot := 3, constantValue := 0 }]
  methods := #[k2m0, k2m1, k2m2]
  instanceTypes := #[(.array .byte), .int, .int, .int]
  staticTypes := #[]
  resolved := Array.replicate 104 none
  statics := none }

def pool3 : Array CpInfo := pool [(1, u "java/lang/Cloneable"), (0, .class_ 1), (0, u "java/lang/Object"), (0, .class_ 3)] 3

/-- java/lang/Cloneable -/
def k3 : Class := { plain "java/lang/Cloneable" (some 0) with
  accessFlags := 1537
  interfaces := #[]
  cf := some (fileOf pool3 2 #[] #[] 1537 4 #[] #[])
  fields := #[]
  methods := #[]
  instanceTypes := #[]
  staticTypes := #[]
  resolved := Array.replicate 8 none
  statics := none }

def pool4 : Array CpInfo := pool [(1, u "java/io/Serializable"), (0, .class_ 1), (0, u "java/lang/Object"), (0, .class_ 3)] 3

/-- java/io/Serializable -/
def k4 : Class := { plain "java/io/Serializable" (some 0) with
  accessFlags := 1537
  interfaces := #[]
  cf := some (fileOf pool4 2 #[] #[] 1537 4 #[] #[])
  fields := #[]
  methods := #[]
  instanceTypes := #[]
  staticTypes := #[]
  resolved := Array.replicate 8 none
  statics := none }

/-- the primitive byte -/
def k5 : Class := { plain "byte" none with kind := .primitive 'B', accessFlags := 0x411 }
/-- [B -/
def k6 : Class := { plain "[B" (some 0) with kind := .array 5 .byte, interfaces := #[3, 4], accessFlags := 1041 }

/-- the primitive int -/
def k7 : Class := { plain "int" none with kind := .primitive 'I', accessFlags := 0x411 }
/-- [I -/
def k8 : Class := { plain "[I" (some 0) with kind := .array 7 .int, interfaces := #[3, 4], accessFlags := 1041 }

def heap : Heap := #[]
def classes : Array Class := #[k0, k1, k2, k3, k4, k5, k6, k7, k8]
def interned : List (Array UInt16 × Addr) := []
def slotsUsed : Nat := 0
def theMethod : MethodId := ⟨1, 2⟩
def args0 : Array Value := #[.long 5, .long 6, .long 7, .int 9]
def aboutOver (below : List Frame) : State where
  vm := { classes := classes, interned := interned.toArray }
  heap := heap
  slotsUsed := slotsUsed
  threads := #[{ frames := .invoking theMethod args0 :: below }]
def below0 : List Frame := [.native { method := ⟨0, 0⟩, args := #[] }]
def about1 : State := aboutOver below0
def p0 : Program := .bare "" "" ""
def e0 : Env := launch0.env 0 0 0
theorem w_frames : about1.frames = Frame.invoking theMethod args0 :: below0 := rfl
set_option maxRecDepth 65536 in
theorem w_args : argsFit about1.vm theMethod args0 = true := by decide +kernel
set_option maxRecDepth 65536 in
theorem w_heap : heapFits about1 = true := by decide +kernel
set_option maxRecDepth 65536 in
theorem w_runnable : about1.curStatus? = some .runnable := by decide +kernel
set_option maxRecDepth 65536 in
theorem w_alone : about1.alone = true := by decide +kernel
set_option maxRecDepth 65536 in
theorem w_named : about1.methodNamed? x = some theMethod := by decide +kernel
set_option maxRecDepth 65536 in
theorem w_hears : about1.hears theMethod below0 = true := by decide +kernel
set_option maxRecDepth 65536 in
theorem w_ripe : about1.ripe theMethod args0 below0 = true := by decide +kernel
theorem w_running : about1.status = .running := rfl
set_option maxRecDepth 65536 in
theorem w_room : about1.hasRoom e0.platform room_1 = true :=
  launch0.hasRoom_least _ room_1 (by decide +kernel) (by decide +kernel) (by decide +kernel) (by decide +kernel) (by decide +kernel) (by decide +kernel)
theorem allAtoms_all (ts : List Jvm.Cond) (a : Array Jvm.Value) (st : Jvm.State) : (allAtoms ts).before a st = ts.all (fun c => c.before a st) := by
  induction ts with
  | nil => rfl
  | cons c t ih =>
    show (Jvm.Cond.and c (allAtoms t)).before a st = _
    rw [Jvm.Cond.before_and, ih, List.all_cons]
def words1 : List Jvm.Cond := Jvm.Cond.code x code maxLocals ret :: tables_1
/-- a 'code' word, met by the world's own term for the bytes: nothing is compared byte by byte -/
theorem code_word {y : MethodName} {bytes : ByteArray} {mx : Nat} {rt : Option FieldType} {a : Array Value} {s : State} {m : MethodId} {meth : Method} {c : Code} (h1 : s.methodNamed? y = some m) (h2 : s.vm.method? m = some meth) (h3 : meth.code = some c) (h4 : c.code = bytes)
    (h5 : (c.maxLocals == mx && c.exceptionTable.isEmpty && decide (c.maxStack ≤ mostOperands) && decide (meth.sig.returnType = rt) && !meth.locks && decide (parseMethodDescriptor y.desc = some meth.sig)) = true) : (Jvm.Cond.code y bytes mx rt).before a s = true := by
  simp only [Bool.and_eq_true, beq_iff_eq, Bool.not_eq_true', decide_eq_true_eq] at h5
  obtain ⟨⟨⟨⟨⟨g1, g2⟩, g3⟩, g4⟩, g5⟩, g6⟩ := h5
  simp [Cond.before, Cond.holds, Cond.value, h1, h2, h3, h4, g1, g2, g3, g4, g5, g6]
def isCode : Jvm.Cond → Bool
  | .code _ _ _ _ => true
  | _ => false
theorem all_split {L : List Jvm.Cond} {P : Jvm.Cond → Bool} (h1 : L.all (fun c => isCode c || P c) = true) (h2 : ∀ c ∈ L.filter isCode, P c = true) : L.all P = true := by
  refine List.all_eq_true.mpr fun c hc => ?_
  have h := List.all_eq_true.mp h1 c hc
  rcases Bool.eq_false_or_eq_true (isCode c) with hi | hi
  · exact h2 c (List.mem_filter.mpr ⟨hc, hi⟩)
  · simpa [hi] using h
set_option maxRecDepth 65536 in
theorem w_c0 : (Jvm.Cond.code x code maxLocals ret).before args0 about1 = true := code_word (m := ⟨1, 2⟩) (meth := k1m2) (c := k1c2) (by decide +kernel) rfl rfl rfl (by decide +kernel)
set_option maxRecDepth 65536 in
theorem w_c1 : (Jvm.Cond.code ({ cls := "com/example/kest/kest/codec/ReaderTimestampPinLaw", name := "put", desc := "([BIJ)V" } : Jvm.MethodName) method_2_code (4 : Nat) (Option.none : Option Jvm.ClassFile.FieldType)).before args0 about1 = true := code_word (m := ⟨1, 1⟩) (meth := k1m1) (c := k1c1) (by decide +kernel) rfl rfl rfl (by decide +kernel)
set_option maxRecDepth 65536 in
theorem w_c2 : (Jvm.Cond.code ({ cls := "com/example/kest/kest/codec/PointLog$Reader", name := "<init>", desc := "([B)V" } : Jvm.MethodName) prog_32_method_1_code (2 : Nat) (Option.none : Option Jvm.ClassFile.FieldType)).before args0 about1 = true := code_word (m := ⟨2, 0⟩) (meth := k2m0) (c := k2c0) (by decide +kernel) rfl rfl rfl (by decide +kernel)
set_option maxRecDepth 65536 in
theorem w_c3 : (Jvm.Cond.code ({ cls := "java/lang/Object", name := "<init>", desc := "()V" } : Jvm.MethodName) object_method_1_code (1 : Nat) (Option.none : Option Jvm.ClassFile.FieldType)).before args0 about1 = true := code_word (m := ⟨0, 0⟩) (meth := k0m0) (c := k0c0) (by decide +kernel) rfl rfl rfl (by decide +kernel)
set_option maxRecDepth 65536 in
theorem w_c4 : (Jvm.Cond.code ({ cls := "com/example/kest/kest/codec/PointLog$Reader", name := "next", desc := "()Z" } : Jvm.MethodName) prog_32_method_2_code (1 : Nat) (Option.some Jvm.ClassFile.FieldType.boolean)).before args0 about1 = true := code_word (m := ⟨2, 1⟩) (meth := k2m1) (c := k2c1) (by decide +kernel) rfl rfl rfl (by decide +kernel)
set_option maxRecDepth 65536 in
theorem w_c5 : (Jvm.Cond.code ({ cls := "com/example/kest/kest/codec/PointLog$Reader", name := "timestamp", desc := "()J" } : Jvm.MethodName) prog_32_method_6_code (5 : Nat) (Option.some Jvm.ClassFile.FieldType.long)).before args0 about1 = true := code_word (m := ⟨2, 2⟩) (meth := k2m2) (c := k2c2) (by decide +kernel) rfl rfl rfl (by decide +kernel)
def codes1 : List Jvm.Cond := [Jvm.Cond.code x code maxLocals ret, Jvm.Cond.code ({ cls := "com/example/kest/kest/codec/ReaderTimestampPinLaw", name := "put", desc := "([BIJ)V" } : Jvm.MethodName) method_2_code (4 : Nat) (Option.none : Option Jvm.ClassFile.FieldType), Jvm.Cond.code ({ cls := "com/example/kest/kest/codec/PointLog$Reader", name := "<init>", desc := "([B)V" } : Jvm.MethodName) prog_32_method_1_code (2 : Nat) (Option.none : Option Jvm.ClassFile.FieldType), Jvm.Cond.code ({ cls := "java/lang/Object", name := "<init>", desc := "()V" } : Jvm.MethodName) object_method_1_code (1 : Nat) (Option.none : Option Jvm.ClassFile.FieldType), Jvm.Cond.code ({ cls := "com/example/kest/kest/codec/PointLog$Reader", name := "next", desc := "()Z" } : Jvm.MethodName) prog_32_method_2_code (1 : Nat) (Option.some Jvm.ClassFile.FieldType.boolean), Jvm.Cond.code ({ cls := "com/example/kest/kest/codec/PointLog$Reader", name := "timestamp", desc := "()J" } : Jvm.MethodName) prog_32_method_6_code (5 : Nat) (Option.some Jvm.ClassFile.FieldType.long)]
set_option maxRecDepth 65536 in
theorem codes_eq : words1.filter isCode = codes1 := rfl
theorem w_codes : ∀ c ∈ words1.filter isCode, c.before args0 about1 = true := by
  rw [codes_eq]
  intro c hc
  simp only [codes1, List.mem_cons, List.not_mem_nil, or_false] at hc
  rcases hc with rfl | rfl | rfl | rfl | rfl | rfl
  · exact w_c0
  · exact w_c1
  · exact w_c2
  · exact w_c3
  · exact w_c4
  · exact w_c5
set_option maxRecDepth 65536 in
theorem w_t1 : (words1.take 24).all (fun c => isCode c || c.before args0 about1) = true := by decide +kernel
set_option maxRecDepth 65536 in
theorem w_t2 : (words1.drop 24).all (fun c => isCode c || c.before args0 about1) = true := by decide +kernel
theorem w_tables : (allAtoms (Jvm.Cond.code x code maxLocals ret :: tables_1)).before args0 about1 = true := by
  rw [allAtoms_all]
  show words1.all (fun c => c.before args0 about1) = true
  refine all_split ?_ w_codes
  rw [← List.take_append_drop 24 words1, List.all_append, w_t1, w_t2]
  rfl
set_option maxRecDepth 65536 in
theorem w_case : (Jvm.Cond.and given_1 narrow_1).before args0 about1 = true := by decide +kernel
theorem w_applies : (headSpec (Jvm.Cond.code x code maxLocals ret :: tables_1) room_1).applies x e0.platform about1 = true :=
  (Spec.applies_iff w_frames).mpr ⟨w_running, w_runnable, w_alone, w_named, w_hears, w_ripe, w_room, w_tables⟩
theorem atStart : AtStart classFile x code maxLocals ret World_1 tables_1 room_1 Calls_1 rest_1 Pre_1 launch0 p0 e0 about1 theMethod args0 below0 :=
  ⟨lists_1, trivial, launch0.admits_env _ _ _, launch0.least_env, fairChoices_fair.cas, fairChoices_fair.clock, w_frames, w_args, w_heap, w_applies, trivial, trivial, w_case⟩
end start1
theorem witness_1 : WitnessClaimed_1 := ⟨start1.p0, start1.e0, start1.about1, start1.theMethod, start1.args0, start1.below0, start1.atStart⟩
end Jvm.Pilot.@@N@@
