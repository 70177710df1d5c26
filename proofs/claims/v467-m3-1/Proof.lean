import JvmDerived
import JvmDerived.Pilot.@@N@@Statement
import JvmDerived.Pilot.@@N@@Code
set_option linter.unusedVariables false
set_option linter.unusedSimpArgs false
namespace Jvm.Pilot.@@N@@
open Jvm Jvm.ClassFile Sem Op Lib Jvm.Free Jvm.Stand Jvm.LawKit Jvm.RoadKit Bundle Jvm.Free.Fl Jvm.Pilot.@@N@@.Jvm.D
theorem own_d1_0 : decode prog_46_method_1_code 0 = .ok (.lload_n 0, 1) := by decide +kernel
theorem own_d1_1 : decode prog_46_method_1_code 1 = .ok (.ldc2_w 3, 3) := by decide +kernel
theorem own_d1_4 : decode prog_46_method_1_code 4 = .ok (.lcmp, 1) := by decide +kernel
theorem own_d1_5 : decode prog_46_method_1_code 5 = .ok (.ifCond .ne 9, 3) := by decide +kernel
theorem own_d1_8 : decode prog_46_method_1_code 8 = .ok (.ldc2_w 7, 3) := by decide +kernel
theorem own_d1_11 : decode prog_46_method_1_code 11 = .ok (.goto 7, 3) := by decide +kernel
theorem own_d1_18 : decode prog_46_method_1_code 18 = .ok (.dreturn, 1) := by decide +kernel
theorem own_d1_14 : decode prog_46_method_1_code 14 = .ok (.lload_n 0, 1) := by decide +kernel
theorem own_d1_15 : decode prog_46_method_1_code 15 = .ok (.l2d, 1) := by decide +kernel
theorem own_d1_16 : decode prog_46_method_1_code 16 = .ok (.dload_n 2, 1) := by decide +kernel
theorem own_d1_17 : decode prog_46_method_1_code 17 = .ok (.dmul, 1) := by decide +kernel
theorem own_pn0 : plainName "com/example/rigid/rigid/engines/dllite/Lasso" = true := by first | (simp [plainName, overriddenIn]; done) | decide +kernel
theorem ef_wk (m : MethodId) (q0 : Int64) (d1 : UInt64) : entryFrame m #[(.long q0), (.double d1)] 4 = mkF m 0 #[.val (.long q0), .second, .val (.double d1), .second] [] := by first | (simp [entryFrame, mkF, argsToLocals, Value.category]; done) | rfl
def fn_wk (q0 : Int64) (d1 : UInt64) : UInt64 := (if (lcmpW q0 (9223372036854775807 : Int64)) = (0 : Int32) then (9218868437227405312 : UInt64) else (FP.dmul (FP.l2d q0) d1))
def Q_wk (Z : State) (q0 : Int64) (d1 : UInt64) (h0 : Heap) (n0 : Nat) (v : Option Value) (h : Heap) (L : List Loc) : Prop := v = some (.double (fn_wk q0 d1)) ∧ Fr n0 L ∧ h = h0
set_option maxRecDepth 65536 in
set_option maxHeartbeats 40000000 in
theorem rm_wk (l : Launch) (Z : State) (a0 : Array Value) (hw : ∀ d ∈ tables_1, d.before a0 Z = true) (ws : List Jvm.Cond) (q0 : Int64) (d1 : UInt64) (h0 : Heap) (n0 : Nat) (Z0 : n0 ≤ h0.size) (hnn : NoNaN64 (FP.dmul (FP.l2d q0) d1)) :
    MetFree l (⟨"com/example/rigid/rigid/engines/dllite/Lasso", "work", "(JD)D"⟩ : MethodName) (head1 (Jvm.Cond.code (⟨"com/example/rigid/rigid/engines/dllite/Lasso", "work", "(JD)D"⟩ : MethodName) prog_46_method_1_code 4 (some .double) :: ws) ({ frames := 0, cells := 0, slots := 0, locals := 0 } : Room)) (fun a U => a = #[(.long q0), (.double d1)] ∧ Z.Warmed39 U.vm ∧ U.heap = h0) (fun _ _ _ _ _ => True) (fun _ U o U' => ∃ v L, o = .returned v ∧ Q_wk Z q0 d1 h0 n0 v U'.heap L ∧ FrameEnd U o U' L ({ frames := 0, cells := 0, slots := 0, locals := 0 } : Room).cells ({ frames := 0, cells := 0, slots := 0, locals := 0 } : Room).slots) := by
  refine MetFree.of_bodySF (plainFor_of_name own_pn0) hisR ?_
  intro p e s m args below meth c s₁ Bd hml0 hP hK
  obtain ⟨rfl, hZ, hh⟩ := hP
  have hx := Bd.exec
  have hby := Bd.bytes
  have hml : c.maxLocals = 4 := hml0
  have hown : s.vm.findClass "com/example/rigid/rigid/engines/dllite/Lasso" = some m.cls := findClass_of_methodNamed Bd.named
  have hnm := (name_of_methodNamed Bd.named Bd.method).1
  have X0 : Stand p l e ({ frames := 0, cells := 0, slots := 0, locals := 0 } : Room) s m #[(.long q0), (.double d1)] below meth c s₁ [] 0 0 := Stand.of_body Bd
  have e0 : s₁.heap = h0 := by rw [← hh, Bd.state]; rfl
  have N0 := Fr.nil n0
  have pre0 : ∀ t, Steps p.tables e below (s₁.setTop (mkF m 0 #[.val (.long q0), .second, .val (.double d1), .second] [])) t → Steps p.tables e below (s₁.setTop (entryFrame m #[(.long q0), (.double d1)] 4)) t := fun t k => castTop (ef_wk m q0 d1) k
  have pre2 : ∀ t, Steps p.tables e below (s₁.setTop (mkF m 5 #[.val (.long q0), .second, .val (.double d1), .second] [(.int (lcmpW q0 (9223372036854775807 : Int64)))])) t → Steps p.tables e below (s₁.setTop (entryFrame m #[(.long q0), (.double d1)] 4)) t := fun t k => pre0 t (by
    show Steps p.tables e below (s₁.setTop (mkF m 0 #[.val (.long q0), .second, .val (.double d1), .second] [])) t
    refine XS.lloadN X0.here hx rfl (hb hby own_d1_0) rfl ?_
    show Steps p.tables e below (s₁.setTop (mkF m 1 #[.val (.long q0), .second, .val (.double d1), .second] [(.long q0)])) t
    refine X0.ldc2Long hx hown (mvT hZ (hw _ (List.mem_of_getElem? (i := 5) rfl))) (g := (mkF m 1 #[.val (.long q0), .second, .val (.double d1), .second] [(.long q0)])) rfl (hb hby own_d1_1) _ ?_
    show Steps p.tables e below (s₁.setTop (mkF m 4 #[.val (.long q0), .second, .val (.double d1), .second] [(.long (9223372036854775807 : Int64)), (.long q0)])) t
    refine XS.lcmp X0.here hx rfl (hb hby own_d1_4) rfl ?_
    exact k)
  by_cases hc1 : (lcmpW q0 (9223372036854775807 : Int64)) = (0 : Int32)
  · have hv : fn_wk q0 d1 = (9218868437227405312 : UInt64) := by simp only [fn_wk, if_pos hc1]
    obtain ⟨fs, hr, hrun, hended, hW, hsame⟩ := X0.leave (v := some (.double (9218868437227405312 : UInt64))) (fun h => by rw [Bd.returns] at h; cases h)
    refine ⟨_, _, pre2 _ ?_, hrun, hended, _, _, rfl, ?_, ⟨_, rfl⟩, hW, hsame.mono (by decide) (by decide)⟩
    · show Steps p.tables e below (s₁.setTop (mkF m 5 #[.val (.long q0), .second, .val (.double d1), .second] [(.int (lcmpW q0 (9223372036854775807 : Int64)))])) _
      refine XS.ifNo X0.here hx rfl (hb hby own_d1_5) rfl ((if0 _ _).trans (teq hc1).2) ?_
      show Steps p.tables e below (s₁.setTop (mkF m 8 #[.val (.long q0), .second, .val (.double d1), .second] [])) _
      refine X0.ldc2DoubleC hx hown (mvT hZ (hw _ (List.mem_of_getElem? (i := 10) rfl))) (g := (mkF m 8 #[.val (.long q0), .second, .val (.double d1), .second] [])) rfl (hb hby own_d1_8) _ ?_
      show Steps p.tables e below (s₁.setTop (mkF m 11 #[.val (.long q0), .second, .val (.double d1), .second] [(.double (9218868437227405312 : UInt64))])) _
      refine XS.goto X0.here hx rfl (pc0 := 11) (pc' := 18) rfl (hb hby own_d1_11) (by decide) (by decide) ?_
      show Steps p.tables e below (s₁.setTop (mkF m 18 #[.val (.long q0), .second, .val (.double d1), .second] [(.double (9218868437227405312 : UInt64))])) _
      jvm_step X0.here [X0.here.top, hx, (hb hby own_d1_18), X0.method', Bd.returns, narrow]
      first | (intro acts; rw [hr _ acts rfl rfl rfl]) | rw [hr _ _ rfl rfl rfl]
      exact Steps.refl _
    · show Q_wk Z q0 d1 h0 n0 _ s₁.heap _
      rw [e0]
      exact ⟨by rw [hv], N0, rfl⟩
  · have hv : fn_wk q0 d1 = (FP.dmul (FP.l2d q0) d1) := by simp only [fn_wk, if_neg hc1]
    obtain ⟨fs, hr, hrun, hended, hW, hsame⟩ := X0.leave (v := some (.double (FP.dmul (FP.l2d q0) d1))) (fun h => by rw [Bd.returns] at h; cases h)
    refine ⟨_, _, pre2 _ ?_, hrun, hended, _, _, rfl, ?_, ⟨_, rfl⟩, hW, hsame.mono (by decide) (by decide)⟩
    · show Steps p.tables e below (s₁.setTop (mkF m 5 #[.val (.long q0), .second, .val (.double d1), .second] [(.int (lcmpW q0 (9223372036854775807 : Int64)))])) _
      refine XS.ifYes X0.here hx rfl (pc0 := 5) (pc' := 14) rfl (hb hby own_d1_5) rfl ((if0 _ _).trans (feq hc1).2) (by decide) (by decide) ?_
      show Steps p.tables e below (s₁.setTop (mkF m 14 #[.val (.long q0), .second, .val (.double d1), .second] [])) _
      refine XS.lloadN X0.here hx rfl (hb hby own_d1_14) rfl ?_
      show Steps p.tables e below (s₁.setTop (mkF m 15 #[.val (.long q0), .second, .val (.double d1), .second] [(.long q0)])) _
      refine XS.l2dS X0.here hx rfl (hb hby own_d1_15) rfl rfl ?_
      show Steps p.tables e below (s₁.setTop (mkF m 16 #[.val (.long q0), .second, .val (.double d1), .second] [(.double (FP.l2d q0))])) _
      refine XS.dloadN X0.here hx rfl (hb hby own_d1_16) rfl ?_
      show Steps p.tables e below (s₁.setTop (mkF m 17 #[.val (.long q0), .second, .val (.double d1), .second] [(.double d1), (.double (FP.l2d q0))])) _
      refine XS.dmulS X0.here hx rfl (hb hby own_d1_17) rfl hnn rfl ?_
      show Steps p.tables e below (s₁.setTop (mkF m 18 #[.val (.long q0), .second, .val (.double d1), .second] [(.double (FP.dmul (FP.l2d q0) d1))])) _
      jvm_step X0.here [X0.here.top, hx, (hb hby own_d1_18), X0.method', Bd.returns, narrow]
      first | (intro acts; rw [hr _ acts rfl rfl rfl]) | rw [hr _ _ rfl rfl rfl]
      exact Steps.refl _
    · show Q_wk Z q0 d1 h0 n0 _ s₁.heap _
      rw [e0]
      exact ⟨by rw [hv], N0, rfl⟩
theorem own_f1 : Fin64 FP.dconst1 := by decide +kernel
theorem own_pd1 : parseMethodDescriptor "(JD)D" = some ⟨[.long, .double], some .double⟩ := by decide +kernel
theorem own_pn2 : plainName "com/example/rigid/rigid/engines/dllite/LassoWorkPinLaw" = true := by first | (simp [plainName, overriddenIn]; done) | decide +kernel
theorem ef_law (m : MethodId) (p0 : Int32) (q1 : Int64) (p2 : Int32) (p3 : Int32) : entryFrame m #[(.int p0), (.long q1), (.int p2), (.int p3)] maxLocals = mkF m 0 #[.val (.int p0), .val (.long q1), .second, .val (.int p2), .val (.int p3), .unset, .unset, .unset, .unset, .unset, .unset, .unset, .unset, .unset, .unset, .unset] [] := by first | (simp [entryFrame, mkF, argsToLocals, Value.category, maxLocals]; done) | rfl
def fn_law (p0 : Int32) (q1 : Int64) (p2 : Int32) (p3 : Int32) : Int32 := (if (p0 &&& (3 : Int32)) = (0 : Int32) then (if (lcmpW q1 (9223372036854775807 : Int64)) = (0 : Int32) then (if (cmpValue (FP.dcmp (fn_wk q1 FP.dconst1) (9218868437227405312 : UInt64)) .l) = (0 : Int32) then (1 : Int32) else (0 : Int32)) else (if (cmpValue (FP.dcmp (fn_wk q1 FP.dconst1) (FP.l2d q1)) .l) = (0 : Int32) then (1 : Int32) else (0 : Int32))) else (if (p0 &&& (3 : Int32)) = (1 : Int32) then (if (cmpValue (FP.dcmp (fn_wk (p2.toInt64) (FP.l2d ((p3 % (1048576 : Int32)).toInt64))) (FP.l2d ((p2.toInt64) * ((p3 % (1048576 : Int32)).toInt64)))) .l) = (0 : Int32) then (1 : Int32) else (0 : Int32)) else (if (p0 &&& (3 : Int32)) = (2 : Int32) then (if (cmpValue (FP.dcmp (fn_wk (9223372036854775807 : Int64) (FP.l2d ((p3 % (1048576 : Int32)).toInt64))) (9218868437227405312 : UInt64)) .l) = (0 : Int32) then (1 : Int32) else (0 : Int32)) else (if (p3 &&& (1 : Int32)) = (0 : Int32) then (if (cmpValue (FP.dcmp (fn_wk ((9223372036854775806 : Int64) - ((p2 &&& (65535 : Int32)).toInt64)) (FP.i2d (p3 &&& (1 : Int32)))) FP.dconst0) .l) = (0 : Int32) then (1 : Int32) else (0 : Int32)) else (if (cmpValue (FP.dcmp (fn_wk ((9223372036854775806 : Int64) - ((p2 &&& (65535 : Int32)).toInt64)) (FP.i2d (p3 &&& (1 : Int32)))) (FP.l2d ((9223372036854775806 : Int64) - ((p2 &&& (65535 : Int32)).toInt64)))) .l) = (0 : Int32) then (if (cmpValue (FP.dcmp (fn_wk ((9223372036854775806 : Int64) - ((p2 &&& (65535 : Int32)).toInt64)) (FP.i2d (p3 &&& (1 : Int32)))) (9218868437227405312 : UInt64)) .g) < (0 : Int32) then (1 : Int32) else (0 : Int32)) else (0 : Int32))))))
def Q_law (Z : State) (p0 : Int32) (q1 : Int64) (p2 : Int32) (p3 : Int32) (h0 : Heap) (n0 : Nat) (v : Option Value) (h : Heap) (L : List Loc) : Prop := v = some (.int (fn_law p0 q1 p2 p3)) ∧ Fr n0 L ∧ h = h0
set_option maxRecDepth 65536 in
set_option maxHeartbeats 40000000 in
theorem rm_law (l : Launch) (Z : State) (a0 : Array Value) (hw : ∀ d ∈ tables_1, d.before a0 Z = true) (ws : List Jvm.Cond) (p0 : Int32) (q1 : Int64) (p2 : Int32) (p3 : Int32) (h0 : Heap) (n0 : Nat) (Z0 : n0 ≤ h0.size) :
    MetFree l x (head1 (Jvm.Cond.code x code maxLocals ret :: ws) room_1) (fun a U => a = #[(.int p0), (.long q1), (.int p2), (.int p3)] ∧ Z.Warmed39 U.vm ∧ U.heap = h0) (fun _ _ _ _ _ => True) (fun _ U o U' => ∃ v L, o = .returned v ∧ Q_law Z p0 q1 p2 p3 h0 n0 v U'.heap L ∧ FrameEnd U o U' L 0 0) := by
  refine MetFree.of_bodySF (plainFor_of_name own_pn2) hisR ?_
  intro p e s m args below meth c s₁ Bd hml0 hP hK
  obtain ⟨rfl, hZ, hh⟩ := hP
  have hx := Bd.exec
  have hby := Bd.bytes
  have hml : c.maxLocals = 16 := hml0
  have hown : s.vm.findClass "com/example/rigid/rigid/engines/dllite/LassoWorkPinLaw" = some m.cls := findClass_of_methodNamed Bd.named
  have hnm := (name_of_methodNamed Bd.named Bd.method).1
  have X0 : Stand p l e room_1 s m #[(.int p0), (.long q1), (.int p2), (.int p3)] below meth c s₁ [] 0 0 := Stand.of_body Bd
  have e0 : s₁.heap = h0 := by rw [← hh, Bd.state]; rfl
  have N0 := Fr.nil n0
  have pre0 : ∀ t, Steps p.tables e below (s₁.setTop (mkF m 0 #[.val (.int p0), .val (.long q1), .second, .val (.int p2), .val (.int p3), .unset, .unset, .unset, .unset, .unset, .unset, .unset, .unset, .unset, .unset, .unset] [])) t → Steps p.tables e below (s₁.setTop (entryFrame m #[(.int p0), (.long q1), (.int p2), (.int p3)] maxLocals)) t := fun t k => castTop (ef_law m p0 q1 p2 p3) k
  have pre2 : ∀ t, Steps p.tables e below (s₁.setTop (mkF m 20 #[.val (.int p0), .val (.long q1), .second, .val (.int p2), .val (.int p3), .val (.int (p0 &&& (3 : Int32))), .val (.long ((p3 % (1048576 : Int32)).toInt64)), .second, .val (.double (FP.l2d ((p3 % (1048576 : Int32)).toInt64))), .second, .unset, .unset, .unset, .unset, .unset, .unset] [(.int (p0 &&& (3 : Int32)))])) t → Steps p.tables e below (s₁.setTop (entryFrame m #[(.int p0), (.long q1), (.int p2), (.int p3)] maxLocals)) t := fun t k => pre0 t (by
    show Steps p.tables e below (s₁.setTop (mkF m 0 #[.val (.int p0), .val (.long q1), .second, .val (.int p2), .val (.int p3), .unset, .unset, .unset, .unset, .unset, .unset, .unset, .unset, .unset, .unset, .unset] [])) t
    refine XS.iloadN X0.here hx rfl (hb hby at_0) rfl ?_
    show Steps p.tables e below (s₁.setTop (mkF m 1 #[.val (.int p0), .val (.long q1), .second, .val (.int p2), .val (.int p3), .unset, .unset, .unset, .unset, .unset, .unset, .unset, .unset, .unset, .unset, .unset] [(.int p0)])) t
    refine XS.iconst X0.here hx rfl (hb hby at_1) ?_
    show Steps p.tables e below (s₁.setTop (mkF m 2 #[.val (.int p0), .val (.long q1), .second, .val (.int p2), .val (.int p3), .unset, .unset, .unset, .unset, .unset, .unset, .unset, .unset, .unset, .unset, .unset] [(.int (3 : Int32)), (.int p0)])) t
    refine XS.iand X0.here hx rfl (hb hby at_2) rfl ?_
    show Steps p.tables e below (s₁.setTop (mkF m 3 #[.val (.int p0), .val (.long q1), .second, .val (.int p2), .val (.int p3), .unset, .unset, .unset, .unset, .unset, .unset, .unset, .unset, .unset, .unset, .unset] [(.int (p0 &&& (3 : Int32)))])) t
    refine XS.istore X0.here hx rfl (hb hby at_3) rfl (l' := #[.val (.int p0), .val (.long q1), .second, .val (.int p2), .val (.int p3), .val (.int (p0 &&& (3 : Int32))), .unset, .unset, .unset, .unset, .unset, .unset, .unset, .unset, .unset, .unset]) rfl ?_
    show Steps p.tables e below (s₁.setTop (mkF m 5 #[.val (.int p0), .val (.long q1), .second, .val (.int p2), .val (.int p3), .val (.int (p0 &&& (3 : Int32))), .unset, .unset, .unset, .unset, .unset, .unset, .unset, .unset, .unset, .unset] [])) t
    refine XS.iload X0.here hx rfl (hb hby at_5) rfl ?_
    show Steps p.tables e below (s₁.setTop (mkF m 7 #[.val (.int p0), .val (.long q1), .second, .val (.int p2), .val (.int p3), .val (.int (p0 &&& (3 : Int32))), .unset, .unset, .unset, .unset, .unset, .unset, .unset, .unset, .unset, .unset] [(.int p3)])) t
    refine X0.ldcInt hx hown (mvT hZ (hw _ (List.mem_of_getElem? (i := 0) rfl))) (g := (mkF m 7 #[.val (.int p0), .val (.long q1), .second, .val (.int p2), .val (.int p3), .val (.int (p0 &&& (3 : Int32))), .unset, .unset, .unset, .unset, .unset, .unset, .unset, .unset, .unset, .unset] [(.int p3)])) rfl (hb hby at_7) _ ?_
    show Steps p.tables e below (s₁.setTop (mkF m 9 #[.val (.int p0), .val (.long q1), .second, .val (.int p2), .val (.int p3), .val (.int (p0 &&& (3 : Int32))), .unset, .unset, .unset, .unset, .unset, .unset, .unset, .unset, .unset, .unset] [(.int (1048576 : Int32)), (.int p3)])) t
    refine iremM X0 hx rfl (hb hby at_9) rfl (by decide) ?_
    show Steps p.tables e below (s₁.setTop (mkF m 10 #[.val (.int p0), .val (.long q1), .second, .val (.int p2), .val (.int p3), .val (.int (p0 &&& (3 : Int32))), .unset, .unset, .unset, .unset, .unset, .unset, .unset, .unset, .unset, .unset] [(.int (p3 % (1048576 : Int32)))])) t
    refine XS.i2l X0.here hx rfl (hb hby at_10) rfl ?_
    show Steps p.tables e below (s₁.setTop (mkF m 11 #[.val (.int p0), .val (.long q1), .second, .val (.int p2), .val (.int p3), .val (.int (p0 &&& (3 : Int32))), .unset, .unset, .unset, .unset, .unset, .unset, .unset, .unset, .unset, .unset] [(.long ((p3 % (1048576 : Int32)).toInt64))])) t
    refine XS.lstore X0.here hx rfl (hb hby at_11) rfl (l' := #[.val (.int p0), .val (.long q1), .second, .val (.int p2), .val (.int p3), .val (.int (p0 &&& (3 : Int32))), .val (.long ((p3 % (1048576 : Int32)).toInt64)), .second, .unset, .unset, .unset, .unset, .unset, .unset, .unset, .unset]) rfl ?_
    show Steps p.tables e below (s₁.setTop (mkF m 13 #[.val (.int p0), .val (.long q1), .second, .val (.int p2), .val (.int p3), .val (.int (p0 &&& (3 : Int32))), .val (.long ((p3 % (1048576 : Int32)).toInt64)), .second, .unset, .unset, .unset, .unset, .unset, .unset, .unset, .unset] [])) t
    refine XS.lload X0.here hx rfl (hb hby at_13) rfl ?_
    show Steps p.tables e below (s₁.setTop (mkF m 15 #[.val (.int p0), .val (.long q1), .second, .val (.int p2), .val (.int p3), .val (.int (p0 &&& (3 : Int32))), .val (.long ((p3 % (1048576 : Int32)).toInt64)), .second, .unset, .unset, .unset, .unset, .unset, .unset, .unset, .unset] [(.long ((p3 % (1048576 : Int32)).toInt64))])) t
    refine XS.l2dS X0.here hx rfl (hb hby at_15) rfl rfl ?_
    show Steps p.tables e below (s₁.setTop (mkF m 16 #[.val (.int p0), .val (.long q1), .second, .val (.int p2), .val (.int p3), .val (.int (p0 &&& (3 : Int32))), .val (.long ((p3 % (1048576 : Int32)).toInt64)), .second, .unset, .unset, .unset, .unset, .unset, .unset, .unset, .unset] [(.double (FP.l2d ((p3 % (1048576 : Int32)).toInt64)))])) t
    refine XS.dstore X0.here hx rfl (hb hby at_16) rfl (l' := #[.val (.int p0), .val (.long q1), .second, .val (.int p2), .val (.int p3), .val (.int (p0 &&& (3 : Int32))), .val (.long ((p3 % (1048576 : Int32)).toInt64)), .second, .val (.double (FP.l2d ((p3 % (1048576 : Int32)).toInt64))), .second, .unset, .unset, .unset, .unset, .unset, .unset]) rfl ?_
    show Steps p.tables e below (s₁.setTop (mkF m 18 #[.val (.int p0), .val (.long q1), .second, .val (.int p2), .val (.int p3), .val (.int (p0 &&& (3 : Int32))), .val (.long ((p3 % (1048576 : Int32)).toInt64)), .second, .val (.double (FP.l2d ((p3 % (1048576 : Int32)).toInt64))), .second, .unset, .unset, .unset, .unset, .unset, .unset] [])) t
    refine XS.iload X0.here hx rfl (hb hby at_18) rfl ?_
    exact k)
  by_cases hc1 : (p0 &&& (3 : Int32)) = (0 : Int32)
  · obtain ⟨_, _, ⟨T3, L3, k3, n3⟩, -, X3, ⟨Lc3, hQ3, l3, y3, z3⟩, st3⟩ := Jvm.LawKit.callS X0 hx (y := (⟨"com/example/rigid/rigid/engines/dllite/Lasso", "work", "(JD)D"⟩ : MethodName)) hown (mvT hZ (hw _ (List.mem_of_getElem? (i := 1) rfl))) (mvT hZ (hw _ (List.mem_of_getElem? (i := 2) rfl))) (mvT hZ (hw _ (List.mem_of_getElem? (i := 3) rfl))) (mvT hZ (hw _ (List.mem_of_getElem? (i := 4) rfl))) (by decide) (backOf (W := 0) (rm_wk l Z a0 hw [] q1 FP.dconst1 h0 n0 Z0 (dmul_out (l2d_fin _) own_f1)) hZ (hw _ (List.mem_of_getElem? (i := 4) rfl)) (hw _ (List.mem_of_getElem? (i := 3) rfl)) (by decide) (by decide)) (g := (mkF m 25 #[.val (.int p0), .val (.long q1), .second, .val (.int p2), .val (.int p3), .val (.int (p0 &&& (3 : Int32))), .val (.long ((p3 % (1048576 : Int32)).toInt64)), .second, .val (.double (FP.l2d ((p3 % (1048576 : Int32)).toInt64))), .second, .unset, .unset, .unset, .unset, .unset, .unset] [(.double FP.dconst1), (.long q1)])) rfl (by rw [hml]; rfl) (argsL := [(.long q1), (.double FP.dconst1)]) (rest := []) (lenOf own_pd1 rfl) rfl (by show 2 * 0 + _ ≤ _; exact Nat.le_of_eq rfl) (hb hby at_25) (fun _ _ => ⟨rfl, e0, (by decide : 0 + 0 ≤ _), (by decide : 0 + 0 ≤ _)⟩)
    dsimp only [Pt.U, Pt.locs, Pt.cells, Pt.slots] at X3 l3 y3 z3 st3 hQ3
    subst l3 y3 z3
    obtain ⟨rfl, N3q, e3⟩ := hQ3
    have N3 := Fr.app N0 N3q
    have pre5 : ∀ t, Steps p.tables e below (T3.setTop (mkF m 35 #[.val (.int p0), .val (.long q1), .second, .val (.int p2), .val (.int p3), .val (.int (p0 &&& (3 : Int32))), .val (.long ((p3 % (1048576 : Int32)).toInt64)), .second, .val (.double (FP.l2d ((p3 % (1048576 : Int32)).toInt64))), .second, .val (.double (fn_wk q1 FP.dconst1)), .second, .unset, .unset, .unset, .unset] [(.int (lcmpW q1 (9223372036854775807 : Int64)))])) t → Steps p.tables e below (s₁.setTop (entryFrame m #[(.int p0), (.long q1), (.int p2), (.int p3)] maxLocals)) t := fun t k => pre2 t (by
      show Steps p.tables e below (s₁.setTop (mkF m 20 #[.val (.int p0), .val (.long q1), .second, .val (.int p2), .val (.int p3), .val (.int (p0 &&& (3 : Int32))), .val (.long ((p3 % (1048576 : Int32)).toInt64)), .second, .val (.double (FP.l2d ((p3 % (1048576 : Int32)).toInt64))), .second, .unset, .unset, .unset, .unset, .unset, .unset] [(.int (p0 &&& (3 : Int32)))])) t
      refine XS.ifNo X0.here hx rfl (hb hby at_20) rfl ((if0 _ _).trans (teq hc1).2) ?_
      show Steps p.tables e below (s₁.setTop (mkF m 23 #[.val (.int p0), .val (.long q1), .second, .val (.int p2), .val (.int p3), .val (.int (p0 &&& (3 : Int32))), .val (.long ((p3 % (1048576 : Int32)).toInt64)), .second, .val (.double (FP.l2d ((p3 % (1048576 : Int32)).toInt64))), .second, .unset, .unset, .unset, .unset, .unset, .unset] [])) t
      refine XS.lloadN X0.here hx rfl (hb hby at_23) rfl ?_
      show Steps p.tables e below (s₁.setTop (mkF m 24 #[.val (.int p0), .val (.long q1), .second, .val (.int p2), .val (.int p3), .val (.int (p0 &&& (3 : Int32))), .val (.long ((p3 % (1048576 : Int32)).toInt64)), .second, .val (.double (FP.l2d ((p3 % (1048576 : Int32)).toInt64))), .second, .unset, .unset, .unset, .unset, .unset, .unset] [(.long q1)])) t
      refine XS.dconst1 X0.here hx rfl (hb hby at_24) rfl ?_
      show Steps p.tables e below (s₁.setTop (mkF m 25 #[.val (.int p0), .val (.long q1), .second, .val (.int p2), .val (.int p3), .val (.int (p0 &&& (3 : Int32))), .val (.long ((p3 % (1048576 : Int32)).toInt64)), .second, .val (.double (FP.l2d ((p3 % (1048576 : Int32)).toInt64))), .second, .unset, .unset, .unset, .unset, .unset, .unset] [(.double FP.dconst1), (.long q1)])) t
      refine st3 _ ?_
      show Steps p.tables e below (T3.setTop (mkF m 28 #[.val (.int p0), .val (.long q1), .second, .val (.int p2), .val (.int p3), .val (.int (p0 &&& (3 : Int32))), .val (.long ((p3 % (1048576 : Int32)).toInt64)), .second, .val (.double (FP.l2d ((p3 % (1048576 : Int32)).toInt64))), .second, .unset, .unset, .unset, .unset, .unset, .unset] [(.double (fn_wk q1 FP.dconst1))])) t
      refine XS.dstore X3.here hx rfl (hb hby at_28) rfl (l' := #[.val (.int p0), .val (.long q1), .second, .val (.int p2), .val (.int p3), .val (.int (p0 &&& (3 : Int32))), .val (.long ((p3 % (1048576 : Int32)).toInt64)), .second, .val (.double (FP.l2d ((p3 % (1048576 : Int32)).toInt64))), .second, .val (.double (fn_wk q1 FP.dconst1)), .second, .unset, .unset, .unset, .unset]) rfl ?_
      show Steps p.tables e below (T3.setTop (mkF m 30 #[.val (.int p0), .val (.long q1), .second, .val (.int p2), .val (.int p3), .val (.int (p0 &&& (3 : Int32))), .val (.long ((p3 % (1048576 : Int32)).toInt64)), .second, .val (.double (FP.l2d ((p3 % (1048576 : Int32)).toInt64))), .second, .val (.double (fn_wk q1 FP.dconst1)), .second, .unset, .unset, .unset, .unset] [])) t
      refine XS.lloadN X3.here hx rfl (hb hby at_30) rfl ?_
      show Steps p.tables e below (T3.setTop (mkF m 31 #[.val (.int p0), .val (.long q1), .second, .val (.int p2), .val (.int p3), .val (.int (p0 &&& (3 : Int32))), .val (.long ((p3 % (1048576 : Int32)).toInt64)), .second, .val (.double (FP.l2d ((p3 % (1048576 : Int32)).toInt64))), .second, .val (.double (fn_wk q1 FP.dconst1)), .second, .unset, .unset, .unset, .unset] [(.long q1)])) t
      refine X3.ldc2Long hx hown (mvT hZ (hw _ (List.mem_of_getElem? (i := 6) rfl))) (g := (mkF m 31 #[.val (.int p0), .val (.long q1), .second, .val (.int p2), .val (.int p3), .val (.int (p0 &&& (3 : Int32))), .val (.long ((p3 % (1048576 : Int32)).toInt64)), .second, .val (.double (FP.l2d ((p3 % (1048576 : Int32)).toInt64))), .second, .val (.double (fn_wk q1 FP.dconst1)), .second, .unset, .unset, .unset, .unset] [(.long q1)])) rfl (hb hby at_31) _ ?_
      show Steps p.tables e below (T3.setTop (mkF m 34 #[.val (.int p0), .val (.long q1), .second, .val (.int p2), .val (.int p3), .val (.int (p0 &&& (3 : Int32))), .val (.long ((p3 % (1048576 : Int32)).toInt64)), .second, .val (.double (FP.l2d ((p3 % (1048576 : Int32)).toInt64))), .second, .val (.double (fn_wk q1 FP.dconst1)), .second, .unset, .unset, .unset, .unset] [(.long (9223372036854775807 : Int64)), (.long q1)])) t
      refine XS.lcmp X3.here hx rfl (hb hby at_34) rfl ?_
      exact k)
    by_cases hc4 : (lcmpW q1 (9223372036854775807 : Int64)) = (0 : Int32)
    · have pre7 : ∀ t, Steps p.tables e below (T3.setTop (mkF m 44 #[.val (.int p0), .val (.long q1), .second, .val (.int p2), .val (.int p3), .val (.int (p0 &&& (3 : Int32))), .val (.long ((p3 % (1048576 : Int32)).toInt64)), .second, .val (.double (FP.l2d ((p3 % (1048576 : Int32)).toInt64))), .second, .val (.double (fn_wk q1 FP.dconst1)), .second, .unset, .unset, .unset, .unset] [(.int (cmpValue (FP.dcmp (fn_wk q1 FP.dconst1) (9218868437227405312 : UInt64)) .l))])) t → Steps p.tables e below (s₁.setTop (entryFrame m #[(.int p0), (.long q1), (.int p2), (.int p3)] maxLocals)) t := fun t k => pre5 t (by
        show Steps p.tables e below (T3.setTop (mkF m 35 #[.val (.int p0), .val (.long q1), .second, .val (.int p2), .val (.int p3), .val (.int (p0 &&& (3 : Int32))), .val (.long ((p3 % (1048576 : Int32)).toInt64)), .second, .val (.double (FP.l2d ((p3 % (1048576 : Int32)).toInt64))), .second, .val (.double (fn_wk q1 FP.dconst1)), .second, .unset, .unset, .unset, .unset] [(.int (lcmpW q1 (9223372036854775807 : Int64)))])) t
        refine XS.ifNo X3.here hx rfl (hb hby at_35) rfl ((if0 _ _).trans (teq hc4).2) ?_
        show Steps p.tables e below (T3.setTop (mkF m 38 #[.val (.int p0), .val (.long q1), .second, .val (.int p2), .val (.int p3), .val (.int (p0 &&& (3 : Int32))), .val (.long ((p3 % (1048576 : Int32)).toInt64)), .second, .val (.double (FP.l2d ((p3 % (1048576 : Int32)).toInt64))), .second, .val (.double (fn_wk q1 FP.dconst1)), .second, .unset, .unset, .unset, .unset] [])) t
        refine XS.dload X3.here hx rfl (hb hby at_38) rfl ?_
        show Steps p.tables e below (T3.setTop (mkF m 40 #[.val (.int p0), .val (.long q1), .second, .val (.int p2), .val (.int p3), .val (.int (p0 &&& (3 : Int32))), .val (.long ((p3 % (1048576 : Int32)).toInt64)), .second, .val (.double (FP.l2d ((p3 % (1048576 : Int32)).toInt64))), .second, .val (.double (fn_wk q1 FP.dconst1)), .second, .unset, .unset, .unset, .unset] [(.double (fn_wk q1 FP.dconst1))])) t
        refine X3.ldc2DoubleC hx hown (mvT hZ (hw _ (List.mem_of_getElem? (i := 9) rfl))) (g := (mkF m 40 #[.val (.int p0), .val (.long q1), .second, .val (.int p2), .val (.int p3), .val (.int (p0 &&& (3 : Int32))), .val (.long ((p3 % (1048576 : Int32)).toInt64)), .second, .val (.double (FP.l2d ((p3 % (1048576 : Int32)).toInt64))), .second, .val (.double (fn_wk q1 FP.dconst1)), .second, .unset, .unset, .unset, .unset] [(.double (fn_wk q1 FP.dconst1))])) rfl (hb hby at_40) _ ?_
        show Steps p.tables e below (T3.setTop (mkF m 43 #[.val (.int p0), .val (.long q1), .second, .val (.int p2), .val (.int p3), .val (.int (p0 &&& (3 : Int32))), .val (.long ((p3 % (1048576 : Int32)).toInt64)), .second, .val (.double (FP.l2d ((p3 % (1048576 : Int32)).toInt64))), .second, .val (.double (fn_wk q1 FP.dconst1)), .second, .unset, .unset, .unset, .unset] [(.double (9218868437227405312 : UInt64)), (.double (fn_wk q1 FP.dconst1))])) t
        refine XS.dcmpS X3.here hx rfl (hb hby at_43) rfl rfl ?_
        exact k)
      by_cases hc6 : (cmpValue (FP.dcmp (fn_wk q1 FP.dconst1) (9218868437227405312 : UInt64)) .l) = (0 : Int32)
      · have hv : fn_law p0 q1 p2 p3 = (1 : Int32) := by simp only [fn_law, if_pos hc1, if_pos hc4, if_pos hc6]
        obtain ⟨fs, hr, hrun, hended, hW, hsame⟩ := X3.leave (v := some (.int (1 : Int32))) (fun h => by rw [Bd.returns] at h; cases h)
        refine ⟨_, _, pre7 _ ?_, hrun, hended, _, _, rfl, ?_, ⟨_, rfl⟩, hW, hsame.mono (by decide) (by decide)⟩
        · show Steps p.tables e below (T3.setTop (mkF m 44 #[.val (.int p0), .val (.long q1), .second, .val (.int p2), .val (.int p3), .val (.int (p0 &&& (3 : Int32))), .val (.long ((p3 % (1048576 : Int32)).toInt64)), .second, .val (.double (FP.l2d ((p3 % (1048576 : Int32)).toInt64))), .second, .val (.double (fn_wk q1 FP.dconst1)), .second, .unset, .unset, .unset, .unset] [(.int (cmpValue (FP.dcmp (fn_wk q1 FP.dconst1) (9218868437227405312 : UInt64)) .l))])) _
          refine XS.ifNo X3.here hx rfl (hb hby at_44) rfl ((if0 _ _).trans (teq hc6).2) ?_
          show Steps p.tables e below (T3.setTop (mkF m 47 #[.val (.int p0), .val (.long q1), .second, .val (.int p2), .val (.int p3), .val (.int (p0 &&& (3 : Int32))), .val (.long ((p3 % (1048576 : Int32)).toInt64)), .second, .val (.double (FP.l2d ((p3 % (1048576 : Int32)).toInt64))), .second, .val (.double (fn_wk q1 FP.dconst1)), .second, .unset, .unset, .unset, .unset] [])) _
          refine XS.iconst X3.here hx rfl (hb hby at_47) ?_
          show Steps p.tables e below (T3.setTop (mkF m 48 #[.val (.int p0), .val (.long q1), .second, .val (.int p2), .val (.int p3), .val (.int (p0 &&& (3 : Int32))), .val (.long ((p3 % (1048576 : Int32)).toInt64)), .second, .val (.double (FP.l2d ((p3 % (1048576 : Int32)).toInt64))), .second, .val (.double (fn_wk q1 FP.dconst1)), .second, .unset, .unset, .unset, .unset] [(.int (1 : Int32))])) _
          refine XS.goto X3.here hx rfl (pc0 := 48) (pc' := 68) rfl (hb hby at_48) (by decide) (by decide) ?_
          show Steps p.tables e below (T3.setTop (mkF m 68 #[.val (.int p0), .val (.long q1), .second, .val (.int p2), .val (.int p3), .val (.int (p0 &&& (3 : Int32))), .val (.long ((p3 % (1048576 : Int32)).toInt64)), .second, .val (.double (FP.l2d ((p3 % (1048576 : Int32)).toInt64))), .second, .val (.double (fn_wk q1 FP.dconst1)), .second, .unset, .unset, .unset, .unset] [(.int (1 : Int32))])) _
          exact retN X3 hx (t := .boolean) Bd.returns (by simp) (hb hby at_68) hr
        · show Q_law Z p0 q1 p2 p3 h0 n0 _ T3.heap _
          rw [e3]
          exact ⟨by rw [hv], N3, rfl⟩
      · have hv : fn_law p0 q1 p2 p3 = (0 : Int32) := by simp only [fn_law, if_pos hc1, if_pos hc4, if_neg hc6]
        obtain ⟨fs, hr, hrun, hended, hW, hsame⟩ := X3.leave (v := some (.int (0 : Int32))) (fun h => by rw [Bd.returns] at h; cases h)
        refine ⟨_, _, pre7 _ ?_, hrun, hended, _, _, rfl, ?_, ⟨_, rfl⟩, hW, hsame.mono (by decide) (by decide)⟩
        · show Steps p.tables e below (T3.setTop (mkF m 44 #[.val (.int p0), .val (.long q1), .second, .val (.int p2), .val (.int p3), .val (.int (p0 &&& (3 : Int32))), .val (.long ((p3 % (1048576 : Int32)).toInt64)), .second, .val (.double (FP.l2d ((p3 % (1048576 : Int32)).toInt64))), .second, .val (.double (fn_wk q1 FP.dconst1)), .second, .unset, .unset, .unset, .unset] [(.int (cmpValue (FP.dcmp (fn_wk q1 FP.dconst1) (9218868437227405312 : UInt64)) .l))])) _
          refine XS.ifYes X3.here hx rfl (pc0 := 44) (pc' := 51) rfl (hb hby at_44) rfl ((if0 _ _).trans (feq hc6).2) (by decide) (by decide) ?_
          show Steps p.tables e below (T3.setTop (mkF m 51 #[.val (.int p0), .val (.long q1), .second, .val (.int p2), .val (.int p3), .val (.int (p0 &&& (3 : Int32))), .val (.long ((p3 % (1048576 : Int32)).toInt64)), .second, .val (.double (FP.l2d ((p3 % (1048576 : Int32)).toInt64))), .second, .val (.double (fn_wk q1 FP.dconst1)), .second, .unset, .unset, .unset, .unset] [])) _
          refine XS.iconst X3.here hx rfl (hb hby at_51) ?_
          show Steps p.tables e below (T3.setTop (mkF m 52 #[.val (.int p0), .val (.long q1), .second, .val (.int p2), .val (.int p3), .val (.int (p0 &&& (3 : Int32))), .val (.long ((p3 % (1048576 : Int32)).toInt64)), .second, .val (.double (FP.l2d ((p3 % (1048576 : Int32)).toInt64))), .second, .val (.double (fn_wk q1 FP.dconst1)), .second, .unset, .unset, .unset, .unset] [(.int (0 : Int32))])) _
          refine XS.goto X3.here hx rfl (pc0 := 52) (pc' := 68) rfl (hb hby at_52) (by decide) (by decide) ?_
          show Steps p.tables e below (T3.setTop (mkF m 68 #[.val (.int p0), .val (.long q1), .second, .val (.int p2), .val (.int p3), .val (.int (p0 &&& (3 : Int32))), .val (.long ((p3 % (1048576 : Int32)).toInt64)), .second, .val (.double (FP.l2d ((p3 % (1048576 : Int32)).toInt64))), .second, .val (.double (fn_wk q1 FP.dconst1)), .second, .unset, .unset, .unset, .unset] [(.int (0 : Int32))])) _
          exact retN X3 hx (t := .boolean) Bd.returns (by simp) (hb hby at_68) hr
        · show Q_law Z p0 q1 p2 p3 h0 n0 _ T3.heap _
          rw [e3]
          exact ⟨by rw [hv], N3, rfl⟩
    · have pre9 : ∀ t, Steps p.tables e below (T3.setTop (mkF m 60 #[.val (.int p0), .val (.long q1), .second, .val (.int p2), .val (.int p3), .val (.int (p0 &&& (3 : Int32))), .val (.long ((p3 % (1048576 : Int32)).toInt64)), .second, .val (.double (FP.l2d ((p3 % (1048576 : Int32)).toInt64))), .second, .val (.double (fn_wk q1 FP.dconst1)), .second, .unset, .unset, .unset, .unset] [(.int (cmpValue (FP.dcmp (fn_wk q1 FP.dconst1) (FP.l2d q1)) .l))])) t → Steps p.tables e below (s₁.setTop (entryFrame m #[(.int p0), (.long q1), (.int p2), (.int p3)] maxLocals)) t := fun t k => pre5 t (by
        show Steps p.tables e below (T3.setTop (mkF m 35 #[.val (.int p0), .val (.long q1), .second, .val (.int p2), .val (.int p3), .val (.int (p0 &&& (3 : Int32))), .val (.long ((p3 % (1048576 : Int32)).toInt64)), .second, .val (.double (FP.l2d ((p3 % (1048576 : Int32)).toInt64))), .second, .val (.double (fn_wk q1 FP.dconst1)), .second, .unset, .unset, .unset, .unset] [(.int (lcmpW q1 (9223372036854775807 : Int64)))])) t
        refine XS.ifYes X3.here hx rfl (pc0 := 35) (pc' := 55) rfl (hb hby at_35) rfl ((if0 _ _).trans (feq hc4).2) (by decide) (by decide) ?_
        show Steps p.tables e below (T3.setTop (mkF m 55 #[.val (.int p0), .val (.long q1), .second, .val (.int p2), .val (.int p3), .val (.int (p0 &&& (3 : Int32))), .val (.long ((p3 % (1048576 : Int32)).toInt64)), .second, .val (.double (FP.l2d ((p3 % (1048576 : Int32)).toInt64))), .second, .val (.double (fn_wk q1 FP.dconst1)), .second, .unset, .unset, .unset, .unset] [])) t
        refine XS.dload X3.here hx rfl (hb hby at_55) rfl ?_
        show Steps p.tables e below (T3.setTop (mkF m 57 #[.val (.int p0), .val (.long q1), .second, .val (.int p2), .val (.int p3), .val (.int (p0 &&& (3 : Int32))), .val (.long ((p3 % (1048576 : Int32)).toInt64)), .second, .val (.double (FP.l2d ((p3 % (1048576 : Int32)).toInt64))), .second, .val (.double (fn_wk q1 FP.dconst1)), .second, .unset, .unset, .unset, .unset] [(.double (fn_wk q1 FP.dconst1))])) t
        refine XS.lloadN X3.here hx rfl (hb hby at_57) rfl ?_
        show Steps p.tables e below (T3.setTop (mkF m 58 #[.val (.int p0), .val (.long q1), .second, .val (.int p2), .val (.int p3), .val (.int (p0 &&& (3 : Int32))), .val (.long ((p3 % (1048576 : Int32)).toInt64)), .second, .val (.double (FP.l2d ((p3 % (1048576 : Int32)).toInt64))), .second, .val (.double (fn_wk q1 FP.dconst1)), .second, .unset, .unset, .unset, .unset] [(.long q1), (.double (fn_wk q1 FP.dconst1))])) t
        refine XS.l2dS X3.here hx rfl (hb hby at_58) rfl rfl ?_
        show Steps p.tables e below (T3.setTop (mkF m 59 #[.val (.int p0), .val (.long q1), .second, .val (.int p2), .val (.int p3), .val (.int (p0 &&& (3 : Int32))), .val (.long ((p3 % (1048576 : Int32)).toInt64)), .second, .val (.double (FP.l2d ((p3 % (1048576 : Int32)).toInt64))), .second, .val (.double (fn_wk q1 FP.dconst1)), .second, .unset, .unset, .unset, .unset] [(.double (FP.l2d q1)), (.double (fn_wk q1 FP.dconst1))])) t
        refine XS.dcmpS X3.here hx rfl (hb hby at_59) rfl rfl ?_
        exact k)
      by_cases hc8 : (cmpValue (FP.dcmp (fn_wk q1 FP.dconst1) (FP.l2d q1)) .l) = (0 : Int32)
      · have hv : fn_law p0 q1 p2 p3 = (1 : Int32) := by simp only [fn_law, if_pos hc1, if_neg hc4, if_pos hc8]
        obtain ⟨fs, hr, hrun, hended, hW, hsame⟩ := X3.leave (v := some (.int (1 : Int32))) (fun h => by rw [Bd.returns] at h; cases h)
        refine ⟨_, _, pre9 _ ?_, hrun, hended, _, _, rfl, ?_, ⟨_, rfl⟩, hW, hsame.mono (by decide) (by decide)⟩
        · show Steps p.tables e below (T3.setTop (mkF m 60 #[.val (.int p0), .val (.long q1), .second, .val (.int p2), .val (.int p3), .val (.int (p0 &&& (3 : Int32))), .val (.long ((p3 % (1048576 : Int32)).toInt64)), .second, .val (.double (FP.l2d ((p3 % (1048576 : Int32)).toInt64))), .second, .val (.double (fn_wk q1 FP.dconst1)), .second, .unset, .unset, .unset, .unset] [(.int (cmpValue (FP.dcmp (fn_wk q1 FP.dconst1) (FP.l2d q1)) .l))])) _
          refine XS.ifNo X3.here hx rfl (hb hby at_60) rfl ((if0 _ _).trans (teq hc8).2) ?_
          show Steps p.tables e below (T3.setTop (mkF m 63 #[.val (.int p0), .val (.long q1), .second, .val (.int p2), .val (.int p3), .val (.int (p0 &&& (3 : Int32))), .val (.long ((p3 % (1048576 : Int32)).toInt64)), .second, .val (.double (FP.l2d ((p3 % (1048576 : Int32)).toInt64))), .second, .val (.double (fn_wk q1 FP.dconst1)), .second, .unset, .unset, .unset, .unset] [])) _
          refine XS.iconst X3.here hx rfl (hb hby at_63) ?_
          show Steps p.tables e below (T3.setTop (mkF m 64 #[.val (.int p0), .val (.long q1), .second, .val (.int p2), .val (.int p3), .val (.int (p0 &&& (3 : Int32))), .val (.long ((p3 % (1048576 : Int32)).toInt64)), .second, .val (.double (FP.l2d ((p3 % (1048576 : Int32)).toInt64))), .second, .val (.double (fn_wk q1 FP.dconst1)), .second, .unset, .unset, .unset, .unset] [(.int (1 : Int32))])) _
          refine XS.goto X3.here hx rfl (pc0 := 64) (pc' := 68) rfl (hb hby at_64) (by decide) (by decide) ?_
          show Steps p.tables e below (T3.setTop (mkF m 68 #[.val (.int p0), .val (.long q1), .second, .val (.int p2), .val (.int p3), .val (.int (p0 &&& (3 : Int32))), .val (.long ((p3 % (1048576 : Int32)).toInt64)), .second, .val (.double (FP.l2d ((p3 % (1048576 : Int32)).toInt64))), .second, .val (.double (fn_wk q1 FP.dconst1)), .second, .unset, .unset, .unset, .unset] [(.int (1 : Int32))])) _
          exact retN X3 hx (t := .boolean) Bd.returns (by simp) (hb hby at_68) hr
        · show Q_law Z p0 q1 p2 p3 h0 n0 _ T3.heap _
          rw [e3]
          exact ⟨by rw [hv], N3, rfl⟩
      · have hv : fn_law p0 q1 p2 p3 = (0 : Int32) := by simp only [fn_law, if_pos hc1, if_neg hc4, if_neg hc8]
        obtain ⟨fs, hr, hrun, hended, hW, hsame⟩ := X3.leave (v := some (.int (0 : Int32))) (fun h => by rw [Bd.returns] at h; cases h)
        refine ⟨_, _, pre9 _ ?_, hrun, hended, _, _, rfl, ?_, ⟨_, rfl⟩, hW, hsame.mono (by decide) (by decide)⟩
        · show Steps p.tables e below (T3.setTop (mkF m 60 #[.val (.int p0), .val (.long q1), .second, .val (.int p2), .val (.int p3), .val (.int (p0 &&& (3 : Int32))), .val (.long ((p3 % (1048576 : Int32)).toInt64)), .second, .val (.double (FP.l2d ((p3 % (1048576 : Int32)).toInt64))), .second, .val (.double (fn_wk q1 FP.dconst1)), .second, .unset, .unset, .unset, .unset] [(.int (cmpValue (FP.dcmp (fn_wk q1 FP.dconst1) (FP.l2d q1)) .l))])) _
          refine XS.ifYes X3.here hx rfl (pc0 := 60) (pc' := 67) rfl (hb hby at_60) rfl ((if0 _ _).trans (feq hc8).2) (by decide) (by decide) ?_
          show Steps p.tables e below (T3.setTop (mkF m 67 #[.val (.int p0), .val (.long q1), .second, .val (.int p2), .val (.int p3), .val (.int (p0 &&& (3 : Int32))), .val (.long ((p3 % (1048576 : Int32)).toInt64)), .second, .val (.double (FP.l2d ((p3 % (1048576 : Int32)).toInt64))), .second, .val (.double (fn_wk q1 FP.dconst1)), .second, .unset, .unset, .unset, .unset] [])) _
          refine XS.iconst X3.here hx rfl (hb hby at_67) ?_
          show Steps p.tables e below (T3.setTop (mkF m 68 #[.val (.int p0), .val (.long q1), .second, .val (.int p2), .val (.int p3), .val (.int (p0 &&& (3 : Int32))), .val (.long ((p3 % (1048576 : Int32)).toInt64)), .second, .val (.double (FP.l2d ((p3 % (1048576 : Int32)).toInt64))), .second, .val (.double (fn_wk q1 FP.dconst1)), .second, .unset, .unset, .unset, .unset] [(.int (0 : Int32))])) _
          exact retN X3 hx (t := .boolean) Bd.returns (by simp) (hb hby at_68) hr
        · show Q_law Z p0 q1 p2 p3 h0 n0 _ T3.heap _
          rw [e3]
          exact ⟨by rw [hv], N3, rfl⟩
  · have pre11 : ∀ t, Steps p.tables e below (s₁.setTop (mkF m 72 #[.val (.int p0), .val (.long q1), .second, .val (.int p2), .val (.int p3), .val (.int (p0 &&& (3 : Int32))), .val (.long ((p3 % (1048576 : Int32)).toInt64)), .second, .val (.double (FP.l2d ((p3 % (1048576 : Int32)).toInt64))), .second, .unset, .unset, .unset, .unset, .unset, .unset] [(.int (1 : Int32)), (.int (p0 &&& (3 : Int32)))])) t → Steps p.tables e below (s₁.setTop (entryFrame m #[(.int p0), (.long q1), (.int p2), (.int p3)] maxLocals)) t := fun t k => pre2 t (by
      show Steps p.tables e below (s₁.setTop (mkF m 20 #[.val (.int p0), .val (.long q1), .second, .val (.int p2), .val (.int p3), .val (.int (p0 &&& (3 : Int32))), .val (.long ((p3 % (1048576 : Int32)).toInt64)), .second, .val (.double (FP.l2d ((p3 % (1048576 : Int32)).toInt64))), .second, .unset, .unset, .unset, .unset, .unset, .unset] [(.int (p0 &&& (3 : Int32)))])) t
      refine XS.ifYes X0.here hx rfl (pc0 := 20) (pc' := 69) rfl (hb hby at_20) rfl ((if0 _ _).trans (feq hc1).2) (by decide) (by decide) ?_
      show Steps p.tables e below (s₁.setTop (mkF m 69 #[.val (.int p0), .val (.long q1), .second, .val (.int p2), .val (.int p3), .val (.int (p0 &&& (3 : Int32))), .val (.long ((p3 % (1048576 : Int32)).toInt64)), .second, .val (.double (FP.l2d ((p3 % (1048576 : Int32)).toInt64))), .second, .unset, .unset, .unset, .unset, .unset, .unset] [])) t
      refine XS.iload X0.here hx rfl (hb hby at_69) rfl ?_
      show Steps p.tables e below (s₁.setTop (mkF m 71 #[.val (.int p0), .val (.long q1), .second, .val (.int p2), .val (.int p3), .val (.int (p0 &&& (3 : Int32))), .val (.long ((p3 % (1048576 : Int32)).toInt64)), .second, .val (.double (FP.l2d ((p3 % (1048576 : Int32)).toInt64))), .second, .unset, .unset, .unset, .unset, .unset, .unset] [(.int (p0 &&& (3 : Int32)))])) t
      refine XS.iconst X0.here hx rfl (hb hby at_71) ?_
      exact k)
    by_cases hc10 : (p0 &&& (3 : Int32)) = (1 : Int32)
    · obtain ⟨_, _, ⟨T12, L12, k12, n12⟩, -, X12, ⟨Lc12, hQ12, l12, y12, z12⟩, st12⟩ := Jvm.LawKit.callS X0 hx (y := (⟨"com/example/rigid/rigid/engines/dllite/Lasso", "work", "(JD)D"⟩ : MethodName)) hown (mvT hZ (hw _ (List.mem_of_getElem? (i := 1) rfl))) (mvT hZ (hw _ (List.mem_of_getElem? (i := 2) rfl))) (mvT hZ (hw _ (List.mem_of_getElem? (i := 3) rfl))) (mvT hZ (hw _ (List.mem_of_getElem? (i := 4) rfl))) (by decide) (backOf (W := 0) (rm_wk l Z a0 hw [] (p2.toInt64) (FP.l2d ((p3 % (1048576 : Int32)).toInt64)) h0 n0 Z0 (dmul_out (l2d_fin _) (l2d_fin _))) hZ (hw _ (List.mem_of_getElem? (i := 4) rfl)) (hw _ (List.mem_of_getElem? (i := 3) rfl)) (by decide) (by decide)) (g := (mkF m 79 #[.val (.int p0), .val (.long q1), .second, .val (.int p2), .val (.int p3), .val (.int (p0 &&& (3 : Int32))), .val (.long ((p3 % (1048576 : Int32)).toInt64)), .second, .val (.double (FP.l2d ((p3 % (1048576 : Int32)).toInt64))), .second, .unset, .unset, .unset, .unset, .unset, .unset] [(.double (FP.l2d ((p3 % (1048576 : Int32)).toInt64))), (.long (p2.toInt64))])) rfl (by rw [hml]; rfl) (argsL := [(.long (p2.toInt64)), (.double (FP.l2d ((p3 % (1048576 : Int32)).toInt64)))]) (rest := []) (lenOf own_pd1 rfl) rfl (by show 2 * 0 + _ ≤ _; exact Nat.le_of_eq rfl) (hb hby at_79) (fun _ _ => ⟨rfl, e0, (by decide : 0 + 0 ≤ _), (by decide : 0 + 0 ≤ _)⟩)
      dsimp only [Pt.U, Pt.locs, Pt.cells, Pt.slots] at X12 l12 y12 z12 st12 hQ12
      subst l12 y12 z12
      obtain ⟨rfl, N12q, e12⟩ := hQ12
      have N12 := Fr.app N0 N12q
      have pre14 : ∀ t, Steps p.tables e below (T12.setTop (mkF m 93 #[.val (.int p0), .val (.long q1), .second, .val (.int p2), .val (.int p3), .val (.int (p0 &&& (3 : Int32))), .val (.long ((p3 % (1048576 : Int32)).toInt64)), .second, .val (.double (FP.l2d ((p3 % (1048576 : Int32)).toInt64))), .second, .val (.double (fn_wk (p2.toInt64) (FP.l2d ((p3 % (1048576 : Int32)).toInt64)))), .second, .unset, .unset, .unset, .unset] [(.int (cmpValue (FP.dcmp (fn_wk (p2.toInt64) (FP.l2d ((p3 % (1048576 : Int32)).toInt64))) (FP.l2d ((p2.toInt64) * ((p3 % (1048576 : Int32)).toInt64)))) .l))])) t → Steps p.tables e below (s₁.setTop (entryFrame m #[(.int p0), (.long q1), (.int p2), (.int p3)] maxLocals)) t := fun t k => pre11 t (by
        show Steps p.tables e below (s₁.setTop (mkF m 72 #[.val (.int p0), .val (.long q1), .second, .val (.int p2), .val (.int p3), .val (.int (p0 &&& (3 : Int32))), .val (.long ((p3 % (1048576 : Int32)).toInt64)), .second, .val (.double (FP.l2d ((p3 % (1048576 : Int32)).toInt64))), .second, .unset, .unset, .unset, .unset, .unset, .unset] [(.int (1 : Int32)), (.int (p0 &&& (3 : Int32)))])) t
        refine XS.icmpNo X0.here hx rfl (hb hby at_72) rfl (teq hc10).2 ?_
        show Steps p.tables e below (s₁.setTop (mkF m 75 #[.val (.int p0), .val (.long q1), .second, .val (.int p2), .val (.int p3), .val (.int (p0 &&& (3 : Int32))), .val (.long ((p3 % (1048576 : Int32)).toInt64)), .second, .val (.double (FP.l2d ((p3 % (1048576 : Int32)).toInt64))), .second, .unset, .unset, .unset, .unset, .unset, .unset] [])) t
        refine XS.iloadN X0.here hx rfl (hb hby at_75) rfl ?_
        show Steps p.tables e below (s₁.setTop (mkF m 76 #[.val (.int p0), .val (.long q1), .second, .val (.int p2), .val (.int p3), .val (.int (p0 &&& (3 : Int32))), .val (.long ((p3 % (1048576 : Int32)).toInt64)), .second, .val (.double (FP.l2d ((p3 % (1048576 : Int32)).toInt64))), .second, .unset, .unset, .unset, .unset, .unset, .unset] [(.int p2)])) t
        refine XS.i2l X0.here hx rfl (hb hby at_76) rfl ?_
        show Steps p.tables e below (s₁.setTop (mkF m 77 #[.val (.int p0), .val (.long q1), .second, .val (.int p2), .val (.int p3), .val (.int (p0 &&& (3 : Int32))), .val (.long ((p3 % (1048576 : Int32)).toInt64)), .second, .val (.double (FP.l2d ((p3 % (1048576 : Int32)).toInt64))), .second, .unset, .unset, .unset, .unset, .unset, .unset] [(.long (p2.toInt64))])) t
        refine XS.dload X0.here hx rfl (hb hby at_77) rfl ?_
        show Steps p.tables e below (s₁.setTop (mkF m 79 #[.val (.int p0), .val (.long q1), .second, .val (.int p2), .val (.int p3), .val (.int (p0 &&& (3 : Int32))), .val (.long ((p3 % (1048576 : Int32)).toInt64)), .second, .val (.double (FP.l2d ((p3 % (1048576 : Int32)).toInt64))), .second, .unset, .unset, .unset, .unset, .unset, .unset] [(.double (FP.l2d ((p3 % (1048576 : Int32)).toInt64))), (.long (p2.toInt64))])) t
        refine st12 _ ?_
        show Steps p.tables e below (T12.setTop (mkF m 82 #[.val (.int p0), .val (.long q1), .second, .val (.int p2), .val (.int p3), .val (.int (p0 &&& (3 : Int32))), .val (.long ((p3 % (1048576 : Int32)).toInt64)), .second, .val (.double (FP.l2d ((p3 % (1048576 : Int32)).toInt64))), .second, .unset, .unset, .unset, .unset, .unset, .unset] [(.double (fn_wk (p2.toInt64) (FP.l2d ((p3 % (1048576 : Int32)).toInt64))))])) t
        refine XS.dstore X12.here hx rfl (hb hby at_82) rfl (l' := #[.val (.int p0), .val (.long q1), .second, .val (.int p2), .val (.int p3), .val (.int (p0 &&& (3 : Int32))), .val (.long ((p3 % (1048576 : Int32)).toInt64)), .second, .val (.double (FP.l2d ((p3 % (1048576 : Int32)).toInt64))), .second, .val (.double (fn_wk (p2.toInt64) (FP.l2d ((p3 % (1048576 : Int32)).toInt64)))), .second, .unset, .unset, .unset, .unset]) rfl ?_
        show Steps p.tables e below (T12.setTop (mkF m 84 #[.val (.int p0), .val (.long q1), .second, .val (.int p2), .val (.int p3), .val (.int (p0 &&& (3 : Int32))), .val (.long ((p3 % (1048576 : Int32)).toInt64)), .second, .val (.double (FP.l2d ((p3 % (1048576 : Int32)).toInt64))), .second, .val (.double (fn_wk (p2.toInt64) (FP.l2d ((p3 % (1048576 : Int32)).toInt64)))), .second, .unset, .unset, .unset, .unset] [])) t
        refine XS.dload X12.here hx rfl (hb hby at_84) rfl ?_
        show Steps p.tables e below (T12.setTop (mkF m 86 #[.val (.int p0), .val (.long q1), .second, .val (.int p2), .val (.int p3), .val (.int (p0 &&& (3 : Int32))), .val (.long ((p3 % (1048576 : Int32)).toInt64)), .second, .val (.double (FP.l2d ((p3 % (1048576 : Int32)).toInt64))), .second, .val (.double (fn_wk (p2.toInt64) (FP.l2d ((p3 % (1048576 : Int32)).toInt64)))), .second, .unset, .unset, .unset, .unset] [(.double (fn_wk (p2.toInt64) (FP.l2d ((p3 % (1048576 : Int32)).toInt64))))])) t
        refine XS.iloadN X12.here hx rfl (hb hby at_86) rfl ?_
        show Steps p.tables e below (T12.setTop (mkF m 87 #[.val (.int p0), .val (.long q1), .second, .val (.int p2), .val (.int p3), .val (.int (p0 &&& (3 : Int32))), .val (.long ((p3 % (1048576 : Int32)).toInt64)), .second, .val (.double (FP.l2d ((p3 % (1048576 : Int32)).toInt64))), .second, .val (.double (fn_wk (p2.toInt64) (FP.l2d ((p3 % (1048576 : Int32)).toInt64)))), .second, .unset, .unset, .unset, .unset] [(.int p2), (.double (fn_wk (p2.toInt64) (FP.l2d ((p3 % (1048576 : Int32)).toInt64))))])) t
        refine XS.i2l X12.here hx rfl (hb hby at_87) rfl ?_
        show Steps p.tables e below (T12.setTop (mkF m 88 #[.val (.int p0), .val (.long q1), .second, .val (.int p2), .val (.int p3), .val (.int (p0 &&& (3 : Int32))), .val (.long ((p3 % (1048576 : Int32)).toInt64)), .second, .val (.double (FP.l2d ((p3 % (1048576 : Int32)).toInt64))), .second, .val (.double (fn_wk (p2.toInt64) (FP.l2d ((p3 % (1048576 : Int32)).toInt64)))), .second, .unset, .unset, .unset, .unset] [(.long (p2.toInt64)), (.double (fn_wk (p2.toInt64) (FP.l2d ((p3 % (1048576 : Int32)).toInt64))))])) t
        refine XS.lload X12.here hx rfl (hb hby at_88) rfl ?_
        show Steps p.tables e below (T12.setTop (mkF m 90 #[.val (.int p0), .val (.long q1), .second, .val (.int p2), .val (.int p3), .val (.int (p0 &&& (3 : Int32))), .val (.long ((p3 % (1048576 : Int32)).toInt64)), .second, .val (.double (FP.l2d ((p3 % (1048576 : Int32)).toInt64))), .second, .val (.double (fn_wk (p2.toInt64) (FP.l2d ((p3 % (1048576 : Int32)).toInt64)))), .second, .unset, .unset, .unset, .unset] [(.long ((p3 % (1048576 : Int32)).toInt64)), (.long (p2.toInt64)), (.double (fn_wk (p2.toInt64) (FP.l2d ((p3 % (1048576 : Int32)).toInt64))))])) t
        refine XS.lmul X12.here hx rfl (hb hby at_90) rfl ?_
        show Steps p.tables e below (T12.setTop (mkF m 91 #[.val (.int p0), .val (.long q1), .second, .val (.int p2), .val (.int p3), .val (.int (p0 &&& (3 : Int32))), .val (.long ((p3 % (1048576 : Int32)).toInt64)), .second, .val (.double (FP.l2d ((p3 % (1048576 : Int32)).toInt64))), .second, .val (.double (fn_wk (p2.toInt64) (FP.l2d ((p3 % (1048576 : Int32)).toInt64)))), .second, .unset, .unset, .unset, .unset] [(.long ((p2.toInt64) * ((p3 % (1048576 : Int32)).toInt64))), (.double (fn_wk (p2.toInt64) (FP.l2d ((p3 % (1048576 : Int32)).toInt64))))])) t
        refine XS.l2dS X12.here hx rfl (hb hby at_91) rfl rfl ?_
        show Steps p.tables e below (T12.setTop (mkF m 92 #[.val (.int p0), .val (.long q1), .second, .val (.int p2), .val (.int p3), .val (.int (p0 &&& (3 : Int32))), .val (.long ((p3 % (1048576 : Int32)).toInt64)), .second, .val (.double (FP.l2d ((p3 % (1048576 : Int32)).toInt64))), .second, .val (.double (fn_wk (p2.toInt64) (FP.l2d ((p3 % (1048576 : Int32)).toInt64)))), .second, .unset, .unset, .unset, .unset] [(.double (FP.l2d ((p2.toInt64) * ((p3 % (1048576 : Int32)).toInt64)))), (.double (fn_wk (p2.toInt64) (FP.l2d ((p3 % (1048576 : Int32)).toInt64))))])) t
        refine XS.dcmpS X12.here hx rfl (hb hby at_92) rfl rfl ?_
        exact k)
      by_cases hc13 : (cmpValue (FP.dcmp (fn_wk (p2.toInt64) (FP.l2d ((p3 % (1048576 : Int32)).toInt64))) (FP.l2d ((p2.toInt64) * ((p3 % (1048576 : Int32)).toInt64)))) .l) = (0 : Int32)
      · have hv : fn_law p0 q1 p2 p3 = (1 : Int32) := by simp only [fn_law, if_neg hc1, if_pos hc10, if_pos hc13]
        obtain ⟨fs, hr, hrun, hended, hW, hsame⟩ := X12.leave (v := some (.int (1 : Int32))) (fun h => by rw [Bd.returns] at h; cases h)
        refine ⟨_, _, pre14 _ ?_, hrun, hended, _, _, rfl, ?_, ⟨_, rfl⟩, hW, hsame.mono (by decide) (by decide)⟩
        · show Steps p.tables e below (T12.setTop (mkF m 93 #[.val (.int p0), .val (.long q1), .second, .val (.int p2), .val (.int p3), .val (.int (p0 &&& (3 : Int32))), .val (.long ((p3 % (1048576 : Int32)).toInt64)), .second, .val (.double (FP.l2d ((p3 % (1048576 : Int32)).toInt64))), .second, .val (.double (fn_wk (p2.toInt64) (FP.l2d ((p3 % (1048576 : Int32)).toInt64)))), .second, .unset, .unset, .unset, .unset] [(.int (cmpValue (FP.dcmp (fn_wk (p2.toInt64) (FP.l2d ((p3 % (1048576 : Int32)).toInt64))) (FP.l2d ((p2.toInt64) * ((p3 % (1048576 : Int32)).toInt64)))) .l))])) _
          refine XS.ifNo X12.here hx rfl (hb hby at_93) rfl ((if0 _ _).trans (teq hc13).2) ?_
          show Steps p.tables e below (T12.setTop (mkF m 96 #[.val (.int p0), .val (.long q1), .second, .val (.int p2), .val (.int p3), .val (.int (p0 &&& (3 : Int32))), .val (.long ((p3 % (1048576 : Int32)).toInt64)), .second, .val (.double (FP.l2d ((p3 % (1048576 : Int32)).toInt64))), .second, .val (.double (fn_wk (p2.toInt64) (FP.l2d ((p3 % (1048576 : Int32)).toInt64)))), .second, .unset, .unset, .unset, .unset] [])) _
          refine XS.iconst X12.here hx rfl (hb hby at_96) ?_
          show Steps p.tables e below (T12.setTop (mkF m 97 #[.val (.int p0), .val (.long q1), .second, .val (.int p2), .val (.int p3), .val (.int (p0 &&& (3 : Int32))), .val (.long ((p3 % (1048576 : Int32)).toInt64)), .second, .val (.double (FP.l2d ((p3 % (1048576 : Int32)).toInt64))), .second, .val (.double (fn_wk (p2.toInt64) (FP.l2d ((p3 % (1048576 : Int32)).toInt64)))), .second, .unset, .unset, .unset, .unset] [(.int (1 : Int32))])) _
          refine XS.goto X12.here hx rfl (pc0 := 97) (pc' := 101) rfl (hb hby at_97) (by decide) (by decide) ?_
          show Steps p.tables e below (T12.setTop (mkF m 101 #[.val (.int p0), .val (.long q1), .second, .val (.int p2), .val (.int p3), .val (.int (p0 &&& (3 : Int32))), .val (.long ((p3 % (1048576 : Int32)).toInt64)), .second, .val (.double (FP.l2d ((p3 % (1048576 : Int32)).toInt64))), .second, .val (.double (fn_wk (p2.toInt64) (FP.l2d ((p3 % (1048576 : Int32)).toInt64)))), .second, .unset, .unset, .unset, .unset] [(.int (1 : Int32))])) _
          exact retN X12 hx (t := .boolean) Bd.returns (by simp) (hb hby at_101) hr
        · show Q_law Z p0 q1 p2 p3 h0 n0 _ T12.heap _
          rw [e12]
          exact ⟨by rw [hv], N12, rfl⟩
      · have hv : fn_law p0 q1 p2 p3 = (0 : Int32) := by simp only [fn_law, if_neg hc1, if_pos hc10, if_neg hc13]
        obtain ⟨fs, hr, hrun, hended, hW, hsame⟩ := X12.leave (v := some (.int (0 : Int32))) (fun h => by rw [Bd.returns] at h; cases h)
        refine ⟨_, _, pre14 _ ?_, hrun, hended, _, _, rfl, ?_, ⟨_, rfl⟩, hW, hsame.mono (by decide) (by decide)⟩
        · show Steps p.tables e below (T12.setTop (mkF m 93 #[.val (.int p0), .val (.long q1), .second, .val (.int p2), .val (.int p3), .val (.int (p0 &&& (3 : Int32))), .val (.long ((p3 % (1048576 : Int32)).toInt64)), .second, .val (.double (FP.l2d ((p3 % (1048576 : Int32)).toInt64))), .second, .val (.double (fn_wk (p2.toInt64) (FP.l2d ((p3 % (1048576 : Int32)).toInt64)))), .second, .unset, .unset, .unset, .unset] [(.int (cmpValue (FP.dcmp (fn_wk (p2.toInt64) (FP.l2d ((p3 % (1048576 : Int32)).toInt64))) (FP.l2d ((p2.toInt64) * ((p3 % (1048576 : Int32)).toInt64)))) .l))])) _
          refine XS.ifYes X12.here hx rfl (pc0 := 93) (pc' := 100) rfl (hb hby at_93) rfl ((if0 _ _).trans (feq hc13).2) (by decide) (by decide) ?_
          show Steps p.tables e below (T12.setTop (mkF m 100 #[.val (.int p0), .val (.long q1), .second, .val (.int p2), .val (.int p3), .val (.int (p0 &&& (3 : Int32))), .val (.long ((p3 % (1048576 : Int32)).toInt64)), .second, .val (.double (FP.l2d ((p3 % (1048576 : Int32)).toInt64))), .second, .val (.double (fn_wk (p2.toInt64) (FP.l2d ((p3 % (1048576 : Int32)).toInt64)))), .second, .unset, .unset, .unset, .unset] [])) _
          refine XS.iconst X12.here hx rfl (hb hby at_100) ?_
          show Steps p.tables e below (T12.setTop (mkF m 101 #[.val (.int p0), .val (.long q1), .second, .val (.int p2), .val (.int p3), .val (.int (p0 &&& (3 : Int32))), .val (.long ((p3 % (1048576 : Int32)).toInt64)), .second, .val (.double (FP.l2d ((p3 % (1048576 : Int32)).toInt64))), .second, .val (.double (fn_wk (p2.toInt64) (FP.l2d ((p3 % (1048576 : Int32)).toInt64)))), .second, .unset, .unset, .unset, .unset] [(.int (0 : Int32))])) _
          exact retN X12 hx (t := .boolean) Bd.returns (by simp) (hb hby at_101) hr
        · show Q_law Z p0 q1 p2 p3 h0 n0 _ T12.heap _
          rw [e12]
          exact ⟨by rw [hv], N12, rfl⟩
    · have pre16 : ∀ t, Steps p.tables e below (s₁.setTop (mkF m 105 #[.val (.int p0), .val (.long q1), .second, .val (.int p2), .val (.int p3), .val (.int (p0 &&& (3 : Int32))), .val (.long ((p3 % (1048576 : Int32)).toInt64)), .second, .val (.double (FP.l2d ((p3 % (1048576 : Int32)).toInt64))), .second, .unset, .unset, .unset, .unset, .unset, .unset] [(.int (2 : Int32)), (.int (p0 &&& (3 : Int32)))])) t → Steps p.tables e below (s₁.setTop (entryFrame m #[(.int p0), (.long q1), (.int p2), (.int p3)] maxLocals)) t := fun t k => pre11 t (by
        show Steps p.tables e below (s₁.setTop (mkF m 72 #[.val (.int p0), .val (.long q1), .second, .val (.int p2), .val (.int p3), .val (.int (p0 &&& (3 : Int32))), .val (.long ((p3 % (1048576 : Int32)).toInt64)), .second, .val (.double (FP.l2d ((p3 % (1048576 : Int32)).toInt64))), .second, .unset, .unset, .unset, .unset, .unset, .unset] [(.int (1 : Int32)), (.int (p0 &&& (3 : Int32)))])) t
        refine XS.icmpYes X0.here hx rfl (pc0 := 72) (pc' := 102) rfl (hb hby at_72) rfl (feq hc10).2 (by decide) (by decide) ?_
        show Steps p.tables e below (s₁.setTop (mkF m 102 #[.val (.int p0), .val (.long q1), .second, .val (.int p2), .val (.int p3), .val (.int (p0 &&& (3 : Int32))), .val (.long ((p3 % (1048576 : Int32)).toInt64)), .second, .val (.double (FP.l2d ((p3 % (1048576 : Int32)).toInt64))), .second, .unset, .unset, .unset, .unset, .unset, .unset] [])) t
        refine XS.iload X0.here hx rfl (hb hby at_102) rfl ?_
        show Steps p.tables e below (s₁.setTop (mkF m 104 #[.val (.int p0), .val (.long q1), .second, .val (.int p2), .val (.int p3), .val (.int (p0 &&& (3 : Int32))), .val (.long ((p3 % (1048576 : Int32)).toInt64)), .second, .val (.double (FP.l2d ((p3 % (1048576 : Int32)).toInt64))), .second, .unset, .unset, .unset, .unset, .unset, .unset] [(.int (p0 &&& (3 : Int32)))])) t
        refine XS.iconst X0.here hx rfl (hb hby at_104) ?_
        exact k)
      by_cases hc15 : (p0 &&& (3 : Int32)) = (2 : Int32)
      · obtain ⟨_, _, ⟨T17, L17, k17, n17⟩, -, X17, ⟨Lc17, hQ17, l17, y17, z17⟩, st17⟩ := Jvm.LawKit.callS X0 hx (y := (⟨"com/example/rigid/rigid/engines/dllite/Lasso", "work", "(JD)D"⟩ : MethodName)) hown (mvT hZ (hw _ (List.mem_of_getElem? (i := 1) rfl))) (mvT hZ (hw _ (List.mem_of_getElem? (i := 2) rfl))) (mvT hZ (hw _ (List.mem_of_getElem? (i := 3) rfl))) (mvT hZ (hw _ (List.mem_of_getElem? (i := 4) rfl))) (by decide) (backOf (W := 0) (rm_wk l Z a0 hw [] (9223372036854775807 : Int64) (FP.l2d ((p3 % (1048576 : Int32)).toInt64)) h0 n0 Z0 (dmul_out (l2d_fin _) (l2d_fin _))) hZ (hw _ (List.mem_of_getElem? (i := 4) rfl)) (hw _ (List.mem_of_getElem? (i := 3) rfl)) (by decide) (by decide)) (g := (mkF m 113 #[.val (.int p0), .val (.long q1), .second, .val (.int p2), .val (.int p3), .val (.int (p0 &&& (3 : Int32))), .val (.long ((p3 % (1048576 : Int32)).toInt64)), .second, .val (.double (FP.l2d ((p3 % (1048576 : Int32)).toInt64))), .second, .unset, .unset, .unset, .unset, .unset, .unset] [(.double (FP.l2d ((p3 % (1048576 : Int32)).toInt64))), (.long (9223372036854775807 : Int64))])) rfl (by rw [hml]; rfl) (argsL := [(.long (9223372036854775807 : Int64)), (.double (FP.l2d ((p3 % (1048576 : Int32)).toInt64)))]) (rest := []) (lenOf own_pd1 rfl) rfl (by show 2 * 0 + _ ≤ _; exact Nat.le_of_eq rfl) (hb hby at_113) (fun _ _ => ⟨rfl, e0, (by decide : 0 + 0 ≤ _), (by decide : 0 + 0 ≤ _)⟩)
        dsimp only [Pt.U, Pt.locs, Pt.cells, Pt.slots] at X17 l17 y17 z17 st17 hQ17
        subst l17 y17 z17
        obtain ⟨rfl, N17q, e17⟩ := hQ17
        have N17 := Fr.app N0 N17q
        have pre19 : ∀ t, Steps p.tables e below (T17.setTop (mkF m 120 #[.val (.int p0), .val (.long q1), .second, .val (.int p2), .val (.int p3), .val (.int (p0 &&& (3 : Int32))), .val (.long ((p3 % (1048576 : Int32)).toInt64)), .second, .val (.double (FP.l2d ((p3 % (1048576 : Int32)).toInt64))), .second, .unset, .unset, .unset, .unset, .unset, .unset] [(.int (cmpValue (FP.dcmp (fn_wk (9223372036854775807 : Int64) (FP.l2d ((p3 % (1048576 : Int32)).toInt64))) (9218868437227405312 : UInt64)) .l))])) t → Steps p.tables e below (s₁.setTop (entryFrame m #[(.int p0), (.long q1), (.int p2), (.int p3)] maxLocals)) t := fun t k => pre16 t (by
          show Steps p.tables e below (s₁.setTop (mkF m 105 #[.val (.int p0), .val (.long q1), .second, .val (.int p2), .val (.int p3), .val (.int (p0 &&& (3 : Int32))), .val (.long ((p3 % (1048576 : Int32)).toInt64)), .second, .val (.double (FP.l2d ((p3 % (1048576 : Int32)).toInt64))), .second, .unset, .unset, .unset, .unset, .unset, .unset] [(.int (2 : Int32)), (.int (p0 &&& (3 : Int32)))])) t
          refine XS.icmpNo X0.here hx rfl (hb hby at_105) rfl (teq hc15).2 ?_
          show Steps p.tables e below (s₁.setTop (mkF m 108 #[.val (.int p0), .val (.long q1), .second, .val (.int p2), .val (.int p3), .val (.int (p0 &&& (3 : Int32))), .val (.long ((p3 % (1048576 : Int32)).toInt64)), .second, .val (.double (FP.l2d ((p3 % (1048576 : Int32)).toInt64))), .second, .unset, .unset, .unset, .unset, .unset, .unset] [])) t
          refine X0.ldc2Long hx hown (mvT hZ (hw _ (List.mem_of_getElem? (i := 6) rfl))) (g := (mkF m 108 #[.val (.int p0), .val (.long q1), .second, .val (.int p2), .val (.int p3), .val (.int (p0 &&& (3 : Int32))), .val (.long ((p3 % (1048576 : Int32)).toInt64)), .second, .val (.double (FP.l2d ((p3 % (1048576 : Int32)).toInt64))), .second, .unset, .unset, .unset, .unset, .unset, .unset] [])) rfl (hb hby at_108) _ ?_
          show Steps p.tables e below (s₁.setTop (mkF m 111 #[.val (.int p0), .val (.long q1), .second, .val (.int p2), .val (.int p3), .val (.int (p0 &&& (3 : Int32))), .val (.long ((p3 % (1048576 : Int32)).toInt64)), .second, .val (.double (FP.l2d ((p3 % (1048576 : Int32)).toInt64))), .second, .unset, .unset, .unset, .unset, .unset, .unset] [(.long (9223372036854775807 : Int64))])) t
          refine XS.dload X0.here hx rfl (hb hby at_111) rfl ?_
          show Steps p.tables e below (s₁.setTop (mkF m 113 #[.val (.int p0), .val (.long q1), .second, .val (.int p2), .val (.int p3), .val (.int (p0 &&& (3 : Int32))), .val (.long ((p3 % (1048576 : Int32)).toInt64)), .second, .val (.double (FP.l2d ((p3 % (1048576 : Int32)).toInt64))), .second, .unset, .unset, .unset, .unset, .unset, .unset] [(.double (FP.l2d ((p3 % (1048576 : Int32)).toInt64))), (.long (9223372036854775807 : Int64))])) t
          refine st17 _ ?_
          show Steps p.tables e below (T17.setTop (mkF m 116 #[.val (.int p0), .val (.long q1), .second, .val (.int p2), .val (.int p3), .val (.int (p0 &&& (3 : Int32))), .val (.long ((p3 % (1048576 : Int32)).toInt64)), .second, .val (.double (FP.l2d ((p3 % (1048576 : Int32)).toInt64))), .second, .unset, .unset, .unset, .unset, .unset, .unset] [(.double (fn_wk (9223372036854775807 : Int64) (FP.l2d ((p3 % (1048576 : Int32)).toInt64))))])) t
          refine X17.ldc2DoubleC hx hown (mvT hZ (hw _ (List.mem_of_getElem? (i := 9) rfl))) (g := (mkF m 116 #[.val (.int p0), .val (.long q1), .second, .val (.int p2), .val (.int p3), .val (.int (p0 &&& (3 : Int32))), .val (.long ((p3 % (1048576 : Int32)).toInt64)), .second, .val (.double (FP.l2d ((p3 % (1048576 : Int32)).toInt64))), .second, .unset, .unset, .unset, .unset, .unset, .unset] [(.double (fn_wk (9223372036854775807 : Int64) (FP.l2d ((p3 % (1048576 : Int32)).toInt64))))])) rfl (hb hby at_116) _ ?_
          show Steps p.tables e below (T17.setTop (mkF m 119 #[.val (.int p0), .val (.long q1), .second, .val (.int p2), .val (.int p3), .val (.int (p0 &&& (3 : Int32))), .val (.long ((p3 % (1048576 : Int32)).toInt64)), .second, .val (.double (FP.l2d ((p3 % (1048576 : Int32)).toInt64))), .second, .unset, .unset, .unset, .unset, .unset, .unset] [(.double (9218868437227405312 : UInt64)), (.double (fn_wk (9223372036854775807 : Int64) (FP.l2d ((p3 % (1048576 : Int32)).toInt64))))])) t
          refine XS.dcmpS X17.here hx rfl (hb hby at_119) rfl rfl ?_
          exact k)
        by_cases hc18 : (cmpValue (FP.dcmp (fn_wk (9223372036854775807 : Int64) (FP.l2d ((p3 % (1048576 : Int32)).toInt64))) (9218868437227405312 : UInt64)) .l) = (0 : Int32)
        · have hv : fn_law p0 q1 p2 p3 = (1 : Int32) := by simp only [fn_law, if_neg hc1, if_neg hc10, if_pos hc15, if_pos hc18]
          obtain ⟨fs, hr, hrun, hended, hW, hsame⟩ := X17.leave (v := some (.int (1 : Int32))) (fun h => by rw [Bd.returns] at h; cases h)
          refine ⟨_, _, pre19 _ ?_, hrun, hended, _, _, rfl, ?_, ⟨_, rfl⟩, hW, hsame.mono (by decide) (by decide)⟩
          · show Steps p.tables e below (T17.setTop (mkF m 120 #[.val (.int p0), .val (.long q1), .second, .val (.int p2), .val (.int p3), .val (.int (p0 &&& (3 : Int32))), .val (.long ((p3 % (1048576 : Int32)).toInt64)), .second, .val (.double (FP.l2d ((p3 % (1048576 : Int32)).toInt64))), .second, .unset, .unset, .unset, .unset, .unset, .unset] [(.int (cmpValue (FP.dcmp (fn_wk (9223372036854775807 : Int64) (FP.l2d ((p3 % (1048576 : Int32)).toInt64))) (9218868437227405312 : UInt64)) .l))])) _
            refine XS.ifNo X17.here hx rfl (hb hby at_120) rfl ((if0 _ _).trans (teq hc18).2) ?_
            show Steps p.tables e below (T17.setTop (mkF m 123 #[.val (.int p0), .val (.long q1), .second, .val (.int p2), .val (.int p3), .val (.int (p0 &&& (3 : Int32))), .val (.long ((p3 % (1048576 : Int32)).toInt64)), .second, .val (.double (FP.l2d ((p3 % (1048576 : Int32)).toInt64))), .second, .unset, .unset, .unset, .unset, .unset, .unset] [])) _
            refine XS.iconst X17.here hx rfl (hb hby at_123) ?_
            show Steps p.tables e below (T17.setTop (mkF m 124 #[.val (.int p0), .val (.long q1), .second, .val (.int p2), .val (.int p3), .val (.int (p0 &&& (3 : Int32))), .val (.long ((p3 % (1048576 : Int32)).toInt64)), .second, .val (.double (FP.l2d ((p3 % (1048576 : Int32)).toInt64))), .second, .unset, .unset, .unset, .unset, .unset, .unset] [(.int (1 : Int32))])) _
            refine XS.goto X17.here hx rfl (pc0 := 124) (pc' := 128) rfl (hb hby at_124) (by decide) (by decide) ?_
            show Steps p.tables e below (T17.setTop (mkF m 128 #[.val (.int p0), .val (.long q1), .second, .val (.int p2), .val (.int p3), .val (.int (p0 &&& (3 : Int32))), .val (.long ((p3 % (1048576 : Int32)).toInt64)), .second, .val (.double (FP.l2d ((p3 % (1048576 : Int32)).toInt64))), .second, .unset, .unset, .unset, .unset, .unset, .unset] [(.int (1 : Int32))])) _
            exact retN X17 hx (t := .boolean) Bd.returns (by simp) (hb hby at_128) hr
          · show Q_law Z p0 q1 p2 p3 h0 n0 _ T17.heap _
            rw [e17]
            exact ⟨by rw [hv], N17, rfl⟩
        · have hv : fn_law p0 q1 p2 p3 = (0 : Int32) := by simp only [fn_law, if_neg hc1, if_neg hc10, if_pos hc15, if_neg hc18]
          obtain ⟨fs, hr, hrun, hended, hW, hsame⟩ := X17.leave (v := some (.int (0 : Int32))) (fun h => by rw [Bd.returns] at h; cases h)
          refine ⟨_, _, pre19 _ ?_, hrun, hended, _, _, rfl, ?_, ⟨_, rfl⟩, hW, hsame.mono (by decide) (by decide)⟩
          · show Steps p.tables e below (T17.setTop (mkF m 120 #[.val (.int p0), .val (.long q1), .second, .val (.int p2), .val (.int p3), .val (.int (p0 &&& (3 : Int32))), .val (.long ((p3 % (1048576 : Int32)).toInt64)), .second, .val (.double (FP.l2d ((p3 % (1048576 : Int32)).toInt64))), .second, .unset, .unset, .unset, .unset, .unset, .unset] [(.int (cmpValue (FP.dcmp (fn_wk (9223372036854775807 : Int64) (FP.l2d ((p3 % (1048576 : Int32)).toInt64))) (9218868437227405312 : UInt64)) .l))])) _
            refine XS.ifYes X17.here hx rfl (pc0 := 120) (pc' := 127) rfl (hb hby at_120) rfl ((if0 _ _).trans (feq hc18).2) (by decide) (by decide) ?_
            show Steps p.tables e below (T17.setTop (mkF m 127 #[.val (.int p0), .val (.long q1), .second, .val (.int p2), .val (.int p3), .val (.int (p0 &&& (3 : Int32))), .val (.long ((p3 % (1048576 : Int32)).toInt64)), .second, .val (.double (FP.l2d ((p3 % (1048576 : Int32)).toInt64))), .second, .unset, .unset, .unset, .unset, .unset, .unset] [])) _
            refine XS.iconst X17.here hx rfl (hb hby at_127) ?_
            show Steps p.tables e below (T17.setTop (mkF m 128 #[.val (.int p0), .val (.long q1), .second, .val (.int p2), .val (.int p3), .val (.int (p0 &&& (3 : Int32))), .val (.long ((p3 % (1048576 : Int32)).toInt64)), .second, .val (.double (FP.l2d ((p3 % (1048576 : Int32)).toInt64))), .second, .unset, .unset, .unset, .unset, .unset, .unset] [(.int (0 : Int32))])) _
            exact retN X17 hx (t := .boolean) Bd.returns (by simp) (hb hby at_128) hr
          · show Q_law Z p0 q1 p2 p3 h0 n0 _ T17.heap _
            rw [e17]
            exact ⟨by rw [hv], N17, rfl⟩
      · obtain ⟨_, _, ⟨T20, L20, k20, n20⟩, -, X20, ⟨Lc20, hQ20, l20, y20, z20⟩, st20⟩ := Jvm.LawKit.callS X0 hx (y := (⟨"com/example/rigid/rigid/engines/dllite/Lasso", "work", "(JD)D"⟩ : MethodName)) hown (mvT hZ (hw _ (List.mem_of_getElem? (i := 1) rfl))) (mvT hZ (hw _ (List.mem_of_getElem? (i := 2) rfl))) (mvT hZ (hw _ (List.mem_of_getElem? (i := 3) rfl))) (mvT hZ (hw _ (List.mem_of_getElem? (i := 4) rfl))) (by decide) (backOf (W := 0) (rm_wk l Z a0 hw [] ((9223372036854775806 : Int64) - ((p2 &&& (65535 : Int32)).toInt64)) (FP.i2d (p3 &&& (1 : Int32))) h0 n0 Z0 (dmul_out (l2d_fin _) (i2d_fin _))) hZ (hw _ (List.mem_of_getElem? (i := 4) rfl)) (hw _ (List.mem_of_getElem? (i := 3) rfl)) (by decide) (by decide)) (g := (mkF m 151 #[.val (.int p0), .val (.long q1), .second, .val (.int p2), .val (.int p3), .val (.int (p0 &&& (3 : Int32))), .val (.long ((p3 % (1048576 : Int32)).toInt64)), .second, .val (.double (FP.l2d ((p3 % (1048576 : Int32)).toInt64))), .second, .val (.long ((9223372036854775806 : Int64) - ((p2 &&& (65535 : Int32)).toInt64))), .second, .val (.double (FP.i2d (p3 &&& (1 : Int32)))), .second, .unset, .unset] [(.double (FP.i2d (p3 &&& (1 : Int32)))), (.long ((9223372036854775806 : Int64) - ((p2 &&& (65535 : Int32)).toInt64)))])) rfl (by rw [hml]; rfl) (argsL := [(.long ((9223372036854775806 : Int64) - ((p2 &&& (65535 : Int32)).toInt64))), (.double (FP.i2d (p3 &&& (1 : Int32))))]) (rest := []) (lenOf own_pd1 rfl) rfl (by show 2 * 0 + _ ≤ _; exact Nat.le_of_eq rfl) (hb hby at_151) (fun _ _ => ⟨rfl, e0, (by decide : 0 + 0 ≤ _), (by decide : 0 + 0 ≤ _)⟩)
        dsimp only [Pt.U, Pt.locs, Pt.cells, Pt.slots] at X20 l20 y20 z20 st20 hQ20
        subst l20 y20 z20
        obtain ⟨rfl, N20q, e20⟩ := hQ20
        have N20 := Fr.app N0 N20q
        have pre22 : ∀ t, Steps p.tables e below (T20.setTop (mkF m 160 #[.val (.int p0), .val (.long q1), .second, .val (.int p2), .val (.int p3), .val (.int (p0 &&& (3 : Int32))), .val (.long ((p3 % (1048576 : Int32)).toInt64)), .second, .val (.double (FP.l2d ((p3 % (1048576 : Int32)).toInt64))), .second, .val (.long ((9223372036854775806 : Int64) - ((p2 &&& (65535 : Int32)).toInt64))), .second, .val (.double (FP.i2d (p3 &&& (1 : Int32)))), .second, .val (.double (fn_wk ((9223372036854775806 : Int64) - ((p2 &&& (65535 : Int32)).toInt64)) (FP.i2d (p3 &&& (1 : Int32))))), .second] [(.int (p3 &&& (1 : Int32)))])) t → Steps p.tables e below (s₁.setTop (entryFrame m #[(.int p0), (.long q1), (.int p2), (.int p3)] maxLocals)) t := fun t k => pre16 t (by
          show Steps p.tables e below (s₁.setTop (mkF m 105 #[.val (.int p0), .val (.long q1), .second, .val (.int p2), .val (.int p3), .val (.int (p0 &&& (3 : Int32))), .val (.long ((p3 % (1048576 : Int32)).toInt64)), .second, .val (.double (FP.l2d ((p3 % (1048576 : Int32)).toInt64))), .second, .unset, .unset, .unset, .unset, .unset, .unset] [(.int (2 : Int32)), (.int (p0 &&& (3 : Int32)))])) t
          refine XS.icmpYes X0.here hx rfl (pc0 := 105) (pc' := 129) rfl (hb hby at_105) rfl (feq hc15).2 (by decide) (by decide) ?_
          show Steps p.tables e below (s₁.setTop (mkF m 129 #[.val (.int p0), .val (.long q1), .second, .val (.int p2), .val (.int p3), .val (.int (p0 &&& (3 : Int32))), .val (.long ((p3 % (1048576 : Int32)).toInt64)), .second, .val (.double (FP.l2d ((p3 % (1048576 : Int32)).toInt64))), .second, .unset, .unset, .unset, .unset, .unset, .unset] [])) t
          refine X0.ldc2Long hx hown (mvT hZ (hw _ (List.mem_of_getElem? (i := 7) rfl))) (g := (mkF m 129 #[.val (.int p0), .val (.long q1), .second, .val (.int p2), .val (.int p3), .val (.int (p0 &&& (3 : Int32))), .val (.long ((p3 % (1048576 : Int32)).toInt64)), .second, .val (.double (FP.l2d ((p3 % (1048576 : Int32)).toInt64))), .second, .unset, .unset, .unset, .unset, .unset, .unset] [])) rfl (hb hby at_129) _ ?_
          show Steps p.tables e below (s₁.setTop (mkF m 132 #[.val (.int p0), .val (.long q1), .second, .val (.int p2), .val (.int p3), .val (.int (p0 &&& (3 : Int32))), .val (.long ((p3 % (1048576 : Int32)).toInt64)), .second, .val (.double (FP.l2d ((p3 % (1048576 : Int32)).toInt64))), .second, .unset, .unset, .unset, .unset, .unset, .unset] [(.long (9223372036854775806 : Int64))])) t
          refine XS.iloadN X0.here hx rfl (hb hby at_132) rfl ?_
          show Steps p.tables e below (s₁.setTop (mkF m 133 #[.val (.int p0), .val (.long q1), .second, .val (.int p2), .val (.int p3), .val (.int (p0 &&& (3 : Int32))), .val (.long ((p3 % (1048576 : Int32)).toInt64)), .second, .val (.double (FP.l2d ((p3 % (1048576 : Int32)).toInt64))), .second, .unset, .unset, .unset, .unset, .unset, .unset] [(.int p2), (.long (9223372036854775806 : Int64))])) t
          refine X0.ldcInt hx hown (mvT hZ (hw _ (List.mem_of_getElem? (i := 8) rfl))) (g := (mkF m 133 #[.val (.int p0), .val (.long q1), .second, .val (.int p2), .val (.int p3), .val (.int (p0 &&& (3 : Int32))), .val (.long ((p3 % (1048576 : Int32)).toInt64)), .second, .val (.double (FP.l2d ((p3 % (1048576 : Int32)).toInt64))), .second, .unset, .unset, .unset, .unset, .unset, .unset] [(.int p2), (.long (9223372036854775806 : Int64))])) rfl (hb hby at_133) _ ?_
          show Steps p.tables e below (s₁.setTop (mkF m 135 #[.val (.int p0), .val (.long q1), .second, .val (.int p2), .val (.int p3), .val (.int (p0 &&& (3 : Int32))), .val (.long ((p3 % (1048576 : Int32)).toInt64)), .second, .val (.double (FP.l2d ((p3 % (1048576 : Int32)).toInt64))), .second, .unset, .unset, .unset, .unset, .unset, .unset] [(.int (65535 : Int32)), (.int p2), (.long (9223372036854775806 : Int64))])) t
          refine XS.iand X0.here hx rfl (hb hby at_135) rfl ?_
          show Steps p.tables e below (s₁.setTop (mkF m 136 #[.val (.int p0), .val (.long q1), .second, .val (.int p2), .val (.int p3), .val (.int (p0 &&& (3 : Int32))), .val (.long ((p3 % (1048576 : Int32)).toInt64)), .second, .val (.double (FP.l2d ((p3 % (1048576 : Int32)).toInt64))), .second, .unset, .unset, .unset, .unset, .unset, .unset] [(.int (p2 &&& (65535 : Int32))), (.long (9223372036854775806 : Int64))])) t
          refine XS.i2l X0.here hx rfl (hb hby at_136) rfl ?_
          show Steps p.tables e below (s₁.setTop (mkF m 137 #[.val (.int p0), .val (.long q1), .second, .val (.int p2), .val (.int p3), .val (.int (p0 &&& (3 : Int32))), .val (.long ((p3 % (1048576 : Int32)).toInt64)), .second, .val (.double (FP.l2d ((p3 % (1048576 : Int32)).toInt64))), .second, .unset, .unset, .unset, .unset, .unset, .unset] [(.long ((p2 &&& (65535 : Int32)).toInt64)), (.long (9223372036854775806 : Int64))])) t
          refine XS.lsub X0.here hx rfl (hb hby at_137) rfl ?_
          show Steps p.tables e below (s₁.setTop (mkF m 138 #[.val (.int p0), .val (.long q1), .second, .val (.int p2), .val (.int p3), .val (.int (p0 &&& (3 : Int32))), .val (.long ((p3 % (1048576 : Int32)).toInt64)), .second, .val (.double (FP.l2d ((p3 % (1048576 : Int32)).toInt64))), .second, .unset, .unset, .unset, .unset, .unset, .unset] [(.long ((9223372036854775806 : Int64) - ((p2 &&& (65535 : Int32)).toInt64)))])) t
          refine XS.lstore X0.here hx rfl (hb hby at_138) rfl (l' := #[.val (.int p0), .val (.long q1), .second, .val (.int p2), .val (.int p3), .val (.int (p0 &&& (3 : Int32))), .val (.long ((p3 % (1048576 : Int32)).toInt64)), .second, .val (.double (FP.l2d ((p3 % (1048576 : Int32)).toInt64))), .second, .val (.long ((9223372036854775806 : Int64) - ((p2 &&& (65535 : Int32)).toInt64))), .second, .unset, .unset, .unset, .unset]) rfl ?_
          show Steps p.tables e below (s₁.setTop (mkF m 140 #[.val (.int p0), .val (.long q1), .second, .val (.int p2), .val (.int p3), .val (.int (p0 &&& (3 : Int32))), .val (.long ((p3 % (1048576 : Int32)).toInt64)), .second, .val (.double (FP.l2d ((p3 % (1048576 : Int32)).toInt64))), .second, .val (.long ((9223372036854775806 : Int64) - ((p2 &&& (65535 : Int32)).toInt64))), .second, .unset, .unset, .unset, .unset] [])) t
          refine XS.iload X0.here hx rfl (hb hby at_140) rfl ?_
          show Steps p.tables e below (s₁.setTop (mkF m 142 #[.val (.int p0), .val (.long q1), .second, .val (.int p2), .val (.int p3), .val (.int (p0 &&& (3 : Int32))), .val (.long ((p3 % (1048576 : Int32)).toInt64)), .second, .val (.double (FP.l2d ((p3 % (1048576 : Int32)).toInt64))), .second, .val (.long ((9223372036854775806 : Int64) - ((p2 &&& (65535 : Int32)).toInt64))), .second, .unset, .unset, .unset, .unset] [(.int p3)])) t
          refine XS.iconst X0.here hx rfl (hb hby at_142) ?_
          show Steps p.tables e below (s₁.setTop (mkF m 143 #[.val (.int p0), .val (.long q1), .second, .val (.int p2), .val (.int p3), .val (.int (p0 &&& (3 : Int32))), .val (.long ((p3 % (1048576 : Int32)).toInt64)), .second, .val (.double (FP.l2d ((p3 % (1048576 : Int32)).toInt64))), .second, .val (.long ((9223372036854775806 : Int64) - ((p2 &&& (65535 : Int32)).toInt64))), .second, .unset, .unset, .unset, .unset] [(.int (1 : Int32)), (.int p3)])) t
          refine XS.iand X0.here hx rfl (hb hby at_143) rfl ?_
          show Steps p.tables e below (s₁.setTop (mkF m 144 #[.val (.int p0), .val (.long q1), .second, .val (.int p2), .val (.int p3), .val (.int (p0 &&& (3 : Int32))), .val (.long ((p3 % (1048576 : Int32)).toInt64)), .second, .val (.double (FP.l2d ((p3 % (1048576 : Int32)).toInt64))), .second, .val (.long ((9223372036854775806 : Int64) - ((p2 &&& (65535 : Int32)).toInt64))), .second, .unset, .unset, .unset, .unset] [(.int (p3 &&& (1 : Int32)))])) t
          refine XS.i2dS X0.here hx rfl (hb hby at_144) rfl rfl ?_
          show Steps p.tables e below (s₁.setTop (mkF m 145 #[.val (.int p0), .val (.long q1), .second, .val (.int p2), .val (.int p3), .val (.int (p0 &&& (3 : Int32))), .val (.long ((p3 % (1048576 : Int32)).toInt64)), .second, .val (.double (FP.l2d ((p3 % (1048576 : Int32)).toInt64))), .second, .val (.long ((9223372036854775806 : Int64) - ((p2 &&& (65535 : Int32)).toInt64))), .second, .unset, .unset, .unset, .unset] [(.double (FP.i2d (p3 &&& (1 : Int32))))])) t
          refine XS.dstore X0.here hx rfl (hb hby at_145) rfl (l' := #[.val (.int p0), .val (.long q1), .second, .val (.int p2), .val (.int p3), .val (.int (p0 &&& (3 : Int32))), .val (.long ((p3 % (1048576 : Int32)).toInt64)), .second, .val (.double (FP.l2d ((p3 % (1048576 : Int32)).toInt64))), .second, .val (.long ((9223372036854775806 : Int64) - ((p2 &&& (65535 : Int32)).toInt64))), .second, .val (.double (FP.i2d (p3 &&& (1 : Int32)))), .second, .unset, .unset]) rfl ?_
          show Steps p.tables e below (s₁.setTop (mkF m 147 #[.val (.int p0), .val (.long q1), .second, .val (.int p2), .val (.int p3), .val (.int (p0 &&& (3 : Int32))), .val (.long ((p3 % (1048576 : Int32)).toInt64)), .second, .val (.double (FP.l2d ((p3 % (1048576 : Int32)).toInt64))), .second, .val (.long ((9223372036854775806 : Int64) - ((p2 &&& (65535 : Int32)).toInt64))), .second, .val (.double (FP.i2d (p3 &&& (1 : Int32)))), .second, .unset, .unset] [])) t
          refine XS.lload X0.here hx rfl (hb hby at_147) rfl ?_
          show Steps p.tables e below (s₁.setTop (mkF m 149 #[.val (.int p0), .val (.long q1), .second, .val (.int p2), .val (.int p3), .val (.int (p0 &&& (3 : Int32))), .val (.long ((p3 % (1048576 : Int32)).toInt64)), .second, .val (.double (FP.l2d ((p3 % (1048576 : Int32)).toInt64))), .second, .val (.long ((9223372036854775806 : Int64) - ((p2 &&& (65535 : Int32)).toInt64))), .second, .val (.double (FP.i2d (p3 &&& (1 : Int32)))), .second, .unset, .unset] [(.long ((9223372036854775806 : Int64) - ((p2 &&& (65535 : Int32)).toInt64)))])) t
          refine XS.dload X0.here hx rfl (hb hby at_149) rfl ?_
          show Steps p.tables e below (s₁.setTop (mkF m 151 #[.val (.int p0), .val (.long q1), .second, .val (.int p2), .val (.int p3), .val (.int (p0 &&& (3 : Int32))), .val (.long ((p3 % (1048576 : Int32)).toInt64)), .second, .val (.double (FP.l2d ((p3 % (1048576 : Int32)).toInt64))), .second, .val (.long ((9223372036854775806 : Int64) - ((p2 &&& (65535 : Int32)).toInt64))), .second, .val (.double (FP.i2d (p3 &&& (1 : Int32)))), .second, .unset, .unset] [(.double (FP.i2d (p3 &&& (1 : Int32)))), (.long ((9223372036854775806 : Int64) - ((p2 &&& (65535 : Int32)).toInt64)))])) t
          refine st20 _ ?_
          show Steps p.tables e below (T20.setTop (mkF m 154 #[.val (.int p0), .val (.long q1), .second, .val (.int p2), .val (.int p3), .val (.int (p0 &&& (3 : Int32))), .val (.long ((p3 % (1048576 : Int32)).toInt64)), .second, .val (.double (FP.l2d ((p3 % (1048576 : Int32)).toInt64))), .second, .val (.long ((9223372036854775806 : Int64) - ((p2 &&& (65535 : Int32)).toInt64))), .second, .val (.double (FP.i2d (p3 &&& (1 : Int32)))), .second, .unset, .unset] [(.double (fn_wk ((9223372036854775806 : Int64) - ((p2 &&& (65535 : Int32)).toInt64)) (FP.i2d (p3 &&& (1 : Int32)))))])) t
          refine XS.dstore X20.here hx rfl (hb hby at_154) rfl (l' := #[.val (.int p0), .val (.long q1), .second, .val (.int p2), .val (.int p3), .val (.int (p0 &&& (3 : Int32))), .val (.long ((p3 % (1048576 : Int32)).toInt64)), .second, .val (.double (FP.l2d ((p3 % (1048576 : Int32)).toInt64))), .second, .val (.long ((9223372036854775806 : Int64) - ((p2 &&& (65535 : Int32)).toInt64))), .second, .val (.double (FP.i2d (p3 &&& (1 : Int32)))), .second, .val (.double (fn_wk ((9223372036854775806 : Int64) - ((p2 &&& (65535 : Int32)).toInt64)) (FP.i2d (p3 &&& (1 : Int32))))), .second]) rfl ?_
          show Steps p.tables e below (T20.setTop (mkF m 156 #[.val (.int p0), .val (.long q1), .second, .val (.int p2), .val (.int p3), .val (.int (p0 &&& (3 : Int32))), .val (.long ((p3 % (1048576 : Int32)).toInt64)), .second, .val (.double (FP.l2d ((p3 % (1048576 : Int32)).toInt64))), .second, .val (.long ((9223372036854775806 : Int64) - ((p2 &&& (65535 : Int32)).toInt64))), .second, .val (.double (FP.i2d (p3 &&& (1 : Int32)))), .second, .val (.double (fn_wk ((9223372036854775806 : Int64) - ((p2 &&& (65535 : Int32)).toInt64)) (FP.i2d (p3 &&& (1 : Int32))))), .second] [])) t
          refine XS.iload X20.here hx rfl (hb hby at_156) rfl ?_
          show Steps p.tables e below (T20.setTop (mkF m 158 #[.val (.int p0), .val (.long q1), .second, .val (.int p2), .val (.int p3), .val (.int (p0 &&& (3 : Int32))), .val (.long ((p3 % (1048576 : Int32)).toInt64)), .second, .val (.double (FP.l2d ((p3 % (1048576 : Int32)).toInt64))), .second, .val (.long ((9223372036854775806 : Int64) - ((p2 &&& (65535 : Int32)).toInt64))), .second, .val (.double (FP.i2d (p3 &&& (1 : Int32)))), .second, .val (.double (fn_wk ((9223372036854775806 : Int64) - ((p2 &&& (65535 : Int32)).toInt64)) (FP.i2d (p3 &&& (1 : Int32))))), .second] [(.int p3)])) t
          refine XS.iconst X20.here hx rfl (hb hby at_158) ?_
          show Steps p.tables e below (T20.setTop (mkF m 159 #[.val (.int p0), .val (.long q1), .second, .val (.int p2), .val (.int p3), .val (.int (p0 &&& (3 : Int32))), .val (.long ((p3 % (1048576 : Int32)).toInt64)), .second, .val (.double (FP.l2d ((p3 % (1048576 : Int32)).toInt64))), .second, .val (.long ((9223372036854775806 : Int64) - ((p2 &&& (65535 : Int32)).toInt64))), .second, .val (.double (FP.i2d (p3 &&& (1 : Int32)))), .second, .val (.double (fn_wk ((9223372036854775806 : Int64) - ((p2 &&& (65535 : Int32)).toInt64)) (FP.i2d (p3 &&& (1 : Int32))))), .second] [(.int (1 : Int32)), (.int p3)])) t
          refine XS.iand X20.here hx rfl (hb hby at_159) rfl ?_
          exact k)
        by_cases hc21 : (p3 &&& (1 : Int32)) = (0 : Int32)
        · have pre24 : ∀ t, Steps p.tables e below (T20.setTop (mkF m 167 #[.val (.int p0), .val (.long q1), .second, .val (.int p2), .val (.int p3), .val (.int (p0 &&& (3 : Int32))), .val (.long ((p3 % (1048576 : Int32)).toInt64)), .second, .val (.double (FP.l2d ((p3 % (1048576 : Int32)).toInt64))), .second, .val (.long ((9223372036854775806 : Int64) - ((p2 &&& (65535 : Int32)).toInt64))), .second, .val (.double (FP.i2d (p3 &&& (1 : Int32)))), .second, .val (.double (fn_wk ((9223372036854775806 : Int64) - ((p2 &&& (65535 : Int32)).toInt64)) (FP.i2d (p3 &&& (1 : Int32))))), .second] [(.int (cmpValue (FP.dcmp (fn_wk ((9223372036854775806 : Int64) - ((p2 &&& (65535 : Int32)).toInt64)) (FP.i2d (p3 &&& (1 : Int32)))) FP.dconst0) .l))])) t → Steps p.tables e below (s₁.setTop (entryFrame m #[(.int p0), (.long q1), (.int p2), (.int p3)] maxLocals)) t := fun t k => pre22 t (by
            show Steps p.tables e below (T20.setTop (mkF m 160 #[.val (.int p0), .val (.long q1), .second, .val (.int p2), .val (.int p3), .val (.int (p0 &&& (3 : Int32))), .val (.long ((p3 % (1048576 : Int32)).toInt64)), .second, .val (.double (FP.l2d ((p3 % (1048576 : Int32)).toInt64))), .second, .val (.long ((9223372036854775806 : Int64) - ((p2 &&& (65535 : Int32)).toInt64))), .second, .val (.double (FP.i2d (p3 &&& (1 : Int32)))), .second, .val (.double (fn_wk ((9223372036854775806 : Int64) - ((p2 &&& (65535 : Int32)).toInt64)) (FP.i2d (p3 &&& (1 : Int32))))), .second] [(.int (p3 &&& (1 : Int32)))])) t
            refine XS.ifNo X20.here hx rfl (hb hby at_160) rfl ((if0 _ _).trans (teq hc21).2) ?_
            show Steps p.tables e below (T20.setTop (mkF m 163 #[.val (.int p0), .val (.long q1), .second, .val (.int p2), .val (.int p3), .val (.int (p0 &&& (3 : Int32))), .val (.long ((p3 % (1048576 : Int32)).toInt64)), .second, .val (.double (FP.l2d ((p3 % (1048576 : Int32)).toInt64))), .second, .val (.long ((9223372036854775806 : Int64) - ((p2 &&& (65535 : Int32)).toInt64))), .second, .val (.double (FP.i2d (p3 &&& (1 : Int32)))), .second, .val (.double (fn_wk ((9223372036854775806 : Int64) - ((p2 &&& (65535 : Int32)).toInt64)) (FP.i2d (p3 &&& (1 : Int32))))), .second] [])) t
            refine XS.dload X20.here hx rfl (hb hby at_163) rfl ?_
            show Steps p.tables e below (T20.setTop (mkF m 165 #[.val (.int p0), .val (.long q1), .second, .val (.int p2), .val (.int p3), .val (.int (p0 &&& (3 : Int32))), .val (.long ((p3 % (1048576 : Int32)).toInt64)), .second, .val (.double (FP.l2d ((p3 % (1048576 : Int32)).toInt64))), .second, .val (.long ((9223372036854775806 : Int64) - ((p2 &&& (65535 : Int32)).toInt64))), .second, .val (.double (FP.i2d (p3 &&& (1 : Int32)))), .second, .val (.double (fn_wk ((9223372036854775806 : Int64) - ((p2 &&& (65535 : Int32)).toInt64)) (FP.i2d (p3 &&& (1 : Int32))))), .second] [(.double (fn_wk ((9223372036854775806 : Int64) - ((p2 &&& (65535 : Int32)).toInt64)) (FP.i2d (p3 &&& (1 : Int32)))))])) t
            refine XS.dconst0 X20.here hx rfl (hb hby at_165) rfl ?_
            show Steps p.tables e below (T20.setTop (mkF m 166 #[.val (.int p0), .val (.long q1), .second, .val (.int p2), .val (.int p3), .val (.int (p0 &&& (3 : Int32))), .val (.long ((p3 % (1048576 : Int32)).toInt64)), .second, .val (.double (FP.l2d ((p3 % (1048576 : Int32)).toInt64))), .second, .val (.long ((9223372036854775806 : Int64) - ((p2 &&& (65535 : Int32)).toInt64))), .second, .val (.double (FP.i2d (p3 &&& (1 : Int32)))), .second, .val (.double (fn_wk ((9223372036854775806 : Int64) - ((p2 &&& (65535 : Int32)).toInt64)) (FP.i2d (p3 &&& (1 : Int32))))), .second] [(.double FP.dconst0), (.double (fn_wk ((9223372036854775806 : Int64) - ((p2 &&& (65535 : Int32)).toInt64)) (FP.i2d (p3 &&& (1 : Int32)))))])) t
            refine XS.dcmpS X20.here hx rfl (hb hby at_166) rfl rfl ?_
            exact k)
          by_cases hc23 : (cmpValue (FP.dcmp (fn_wk ((9223372036854775806 : Int64) - ((p2 &&& (65535 : Int32)).toInt64)) (FP.i2d (p3 &&& (1 : Int32)))) FP.dconst0) .l) = (0 : Int32)
          · have hv : fn_law p0 q1 p2 p3 = (1 : Int32) := by simp only [fn_law, if_neg hc1, if_neg hc10, if_neg hc15, if_pos hc21, if_pos hc23]
            obtain ⟨fs, hr, hrun, hended, hW, hsame⟩ := X20.leave (v := some (.int (1 : Int32))) (fun h => by rw [Bd.returns] at h; cases h)
            refine ⟨_, _, pre24 _ ?_, hrun, hended, _, _, rfl, ?_, ⟨_, rfl⟩, hW, hsame.mono (by decide) (by decide)⟩
            · show Steps p.tables e below (T20.setTop (mkF m 167 #[.val (.int p0), .val (.long q1), .second, .val (.int p2), .val (.int p3), .val (.int (p0 &&& (3 : Int32))), .val (.long ((p3 % (1048576 : Int32)).toInt64)), .second, .val (.double (FP.l2d ((p3 % (1048576 : Int32)).toInt64))), .second, .val (.long ((9223372036854775806 : Int64) - ((p2 &&& (65535 : Int32)).toInt64))), .second, .val (.double (FP.i2d (p3 &&& (1 : Int32)))), .second, .val (.double (fn_wk ((9223372036854775806 : Int64) - ((p2 &&& (65535 : Int32)).toInt64)) (FP.i2d (p3 &&& (1 : Int32))))), .second] [(.int (cmpValue (FP.dcmp (fn_wk ((9223372036854775806 : Int64) - ((p2 &&& (65535 : Int32)).toInt64)) (FP.i2d (p3 &&& (1 : Int32)))) FP.dconst0) .l))])) _
              refine XS.ifNo X20.here hx rfl (hb hby at_167) rfl ((if0 _ _).trans (teq hc23).2) ?_
              show Steps p.tables e below (T20.setTop (mkF m 170 #[.val (.int p0), .val (.long q1), .second, .val (.int p2), .val (.int p3), .val (.int (p0 &&& (3 : Int32))), .val (.long ((p3 % (1048576 : Int32)).toInt64)), .second, .val (.double (FP.l2d ((p3 % (1048576 : Int32)).toInt64))), .second, .val (.long ((9223372036854775806 : Int64) - ((p2 &&& (65535 : Int32)).toInt64))), .second, .val (.double (FP.i2d (p3 &&& (1 : Int32)))), .second, .val (.double (fn_wk ((9223372036854775806 : Int64) - ((p2 &&& (65535 : Int32)).toInt64)) (FP.i2d (p3 &&& (1 : Int32))))), .second] [])) _
              refine XS.iconst X20.here hx rfl (hb hby at_170) ?_
              show Steps p.tables e below (T20.setTop (mkF m 171 #[.val (.int p0), .val (.long q1), .second, .val (.int p2), .val (.int p3), .val (.int (p0 &&& (3 : Int32))), .val (.long ((p3 % (1048576 : Int32)).toInt64)), .second, .val (.double (FP.l2d ((p3 % (1048576 : Int32)).toInt64))), .second, .val (.long ((9223372036854775806 : Int64) - ((p2 &&& (65535 : Int32)).toInt64))), .second, .val (.double (FP.i2d (p3 &&& (1 : Int32)))), .second, .val (.double (fn_wk ((9223372036854775806 : Int64) - ((p2 &&& (65535 : Int32)).toInt64)) (FP.i2d (p3 &&& (1 : Int32))))), .second] [(.int (1 : Int32))])) _
              refine XS.goto X20.here hx rfl (pc0 := 171) (pc' := 175) rfl (hb hby at_171) (by decide) (by decide) ?_
              show Steps p.tables e below (T20.setTop (mkF m 175 #[.val (.int p0), .val (.long q1), .second, .val (.int p2), .val (.int p3), .val (.int (p0 &&& (3 : Int32))), .val (.long ((p3 % (1048576 : Int32)).toInt64)), .second, .val (.double (FP.l2d ((p3 % (1048576 : Int32)).toInt64))), .second, .val (.long ((9223372036854775806 : Int64) - ((p2 &&& (65535 : Int32)).toInt64))), .second, .val (.double (FP.i2d (p3 &&& (1 : Int32)))), .second, .val (.double (fn_wk ((9223372036854775806 : Int64) - ((p2 &&& (65535 : Int32)).toInt64)) (FP.i2d (p3 &&& (1 : Int32))))), .second] [(.int (1 : Int32))])) _
              exact retN X20 hx (t := .boolean) Bd.returns (by simp) (hb hby at_175) hr
            · show Q_law Z p0 q1 p2 p3 h0 n0 _ T20.heap _
              rw [e20]
              exact ⟨by rw [hv], N20, rfl⟩
          · have hv : fn_law p0 q1 p2 p3 = (0 : Int32) := by simp only [fn_law, if_neg hc1, if_neg hc10, if_neg hc15, if_pos hc21, if_neg hc23]
            obtain ⟨fs, hr, hrun, hended, hW, hsame⟩ := X20.leave (v := some (.int (0 : Int32))) (fun h => by rw [Bd.returns] at h; cases h)
            refine ⟨_, _, pre24 _ ?_, hrun, hended, _, _, rfl, ?_, ⟨_, rfl⟩, hW, hsame.mono (by decide) (by decide)⟩
            · show Steps p.tables e below (T20.setTop (mkF m 167 #[.val (.int p0), .val (.long q1), .second, .val (.int p2), .val (.int p3), .val (.int (p0 &&& (3 : Int32))), .val (.long ((p3 % (1048576 : Int32)).toInt64)), .second, .val (.double (FP.l2d ((p3 % (1048576 : Int32)).toInt64))), .second, .val (.long ((9223372036854775806 : Int64) - ((p2 &&& (65535 : Int32)).toInt64))), .second, .val (.double (FP.i2d (p3 &&& (1 : Int32)))), .second, .val (.double (fn_wk ((9223372036854775806 : Int64) - ((p2 &&& (65535 : Int32)).toInt64)) (FP.i2d (p3 &&& (1 : Int32))))), .second] [(.int (cmpValue (FP.dcmp (fn_wk ((9223372036854775806 : Int64) - ((p2 &&& (65535 : Int32)).toInt64)) (FP.i2d (p3 &&& (1 : Int32)))) FP.dconst0) .l))])) _
              refine XS.ifYes X20.here hx rfl (pc0 := 167) (pc' := 174) rfl (hb hby at_167) rfl ((if0 _ _).trans (feq hc23).2) (by decide) (by decide) ?_
              show Steps p.tables e below (T20.setTop (mkF m 174 #[.val (.int p0), .val (.long q1), .second, .val (.int p2), .val (.int p3), .val (.int (p0 &&& (3 : Int32))), .val (.long ((p3 % (1048576 : Int32)).toInt64)), .second, .val (.double (FP.l2d ((p3 % (1048576 : Int32)).toInt64))), .second, .val (.long ((9223372036854775806 : Int64) - ((p2 &&& (65535 : Int32)).toInt64))), .second, .val (.double (FP.i2d (p3 &&& (1 : Int32)))), .second, .val (.double (fn_wk ((9223372036854775806 : Int64) - ((p2 &&& (65535 : Int32)).toInt64)) (FP.i2d (p3 &&& (1 : Int32))))), .second] [])) _
              refine XS.iconst X20.here hx rfl (hb hby at_174) ?_
              show Steps p.tables e below (T20.setTop (mkF m 175 #[.val (.int p0), .val (.long q1), .second, .val (.int p2), .val (.int p3), .val (.int (p0 &&& (3 : Int32))), .val (.long ((p3 % (1048576 : Int32)).toInt64)), .second, .val (.double (FP.l2d ((p3 % (1048576 : Int32)).toInt64))), .second, .val (.long ((9223372036854775806 : Int64) - ((p2 &&& (65535 : Int32)).toInt64))), .second, .val (.double (FP.i2d (p3 &&& (1 : Int32)))), .second, .val (.double (fn_wk ((9223372036854775806 : Int64) - ((p2 &&& (65535 : Int32)).toInt64)) (FP.i2d (p3 &&& (1 : Int32))))), .second] [(.int (0 : Int32))])) _
              exact retN X20 hx (t := .boolean) Bd.returns (by simp) (hb hby at_175) hr
            · show Q_law Z p0 q1 p2 p3 h0 n0 _ T20.heap _
              rw [e20]
              exact ⟨by rw [hv], N20, rfl⟩
        · have pre26 : ∀ t, Steps p.tables e below (T20.setTop (mkF m 182 #[.val (.int p0), .val (.long q1), .second, .val (.int p2), .val (.int p3), .val (.int (p0 &&& (3 : Int32))), .val (.long ((p3 % (1048576 : Int32)).toInt64)), .second, .val (.double (FP.l2d ((p3 % (1048576 : Int32)).toInt64))), .second, .val (.long ((9223372036854775806 : Int64) - ((p2 &&& (65535 : Int32)).toInt64))), .second, .val (.double (FP.i2d (p3 &&& (1 : Int32)))), .second, .val (.double (fn_wk ((9223372036854775806 : Int64) - ((p2 &&& (65535 : Int32)).toInt64)) (FP.i2d (p3 &&& (1 : Int32))))), .second] [(.int (cmpValue (FP.dcmp (fn_wk ((9223372036854775806 : Int64) - ((p2 &&& (65535 : Int32)).toInt64)) (FP.i2d (p3 &&& (1 : Int32)))) (FP.l2d ((9223372036854775806 : Int64) - ((p2 &&& (65535 : Int32)).toInt64)))) .l))])) t → Steps p.tables e below (s₁.setTop (entryFrame m #[(.int p0), (.long q1), (.int p2), (.int p3)] maxLocals)) t := fun t k => pre22 t (by
            show Steps p.tables e below (T20.setTop (mkF m 160 #[.val (.int p0), .val (.long q1), .second, .val (.int p2), .val (.int p3), .val (.int (p0 &&& (3 : Int32))), .val (.long ((p3 % (1048576 : Int32)).toInt64)), .second, .val (.double (FP.l2d ((p3 % (1048576 : Int32)).toInt64))), .second, .val (.long ((9223372036854775806 : Int64) - ((p2 &&& (65535 : Int32)).toInt64))), .second, .val (.double (FP.i2d (p3 &&& (1 : Int32)))), .second, .val (.double (fn_wk ((9223372036854775806 : Int64) - ((p2 &&& (65535 : Int32)).toInt64)) (FP.i2d (p3 &&& (1 : Int32))))), .second] [(.int (p3 &&& (1 : Int32)))])) t
            refine XS.ifYes X20.here hx rfl (pc0 := 160) (pc' := 176) rfl (hb hby at_160) rfl ((if0 _ _).trans (feq hc21).2) (by decide) (by decide) ?_
            show Steps p.tables e below (T20.setTop (mkF m 176 #[.val (.int p0), .val (.long q1), .second, .val (.int p2), .val (.int p3), .val (.int (p0 &&& (3 : Int32))), .val (.long ((p3 % (1048576 : Int32)).toInt64)), .second, .val (.double (FP.l2d ((p3 % (1048576 : Int32)).toInt64))), .second, .val (.long ((9223372036854775806 : Int64) - ((p2 &&& (65535 : Int32)).toInt64))), .second, .val (.double (FP.i2d (p3 &&& (1 : Int32)))), .second, .val (.double (fn_wk ((9223372036854775806 : Int64) - ((p2 &&& (65535 : Int32)).toInt64)) (FP.i2d (p3 &&& (1 : Int32))))), .second] [])) t
            refine XS.dload X20.here hx rfl (hb hby at_176) rfl ?_
            show Steps p.tables e below (T20.setTop (mkF m 178 #[.val (.int p0), .val (.long q1), .second, .val (.int p2), .val (.int p3), .val (.int (p0 &&& (3 : Int32))), .val (.long ((p3 % (1048576 : Int32)).toInt64)), .second, .val (.double (FP.l2d ((p3 % (1048576 : Int32)).toInt64))), .second, .val (.long ((9223372036854775806 : Int64) - ((p2 &&& (65535 : Int32)).toInt64))), .second, .val (.double (FP.i2d (p3 &&& (1 : Int32)))), .second, .val (.double (fn_wk ((9223372036854775806 : Int64) - ((p2 &&& (65535 : Int32)).toInt64)) (FP.i2d (p3 &&& (1 : Int32))))), .second] [(.double (fn_wk ((9223372036854775806 : Int64) - ((p2 &&& (65535 : Int32)).toInt64)) (FP.i2d (p3 &&& (1 : Int32)))))])) t
            refine XS.lload X20.here hx rfl (hb hby at_178) rfl ?_
            show Steps p.tables e below (T20.setTop (mkF m 180 #[.val (.int p0), .val (.long q1), .second, .val (.int p2), .val (.int p3), .val (.int (p0 &&& (3 : Int32))), .val (.long ((p3 % (1048576 : Int32)).toInt64)), .second, .val (.double (FP.l2d ((p3 % (1048576 : Int32)).toInt64))), .second, .val (.long ((9223372036854775806 : Int64) - ((p2 &&& (65535 : Int32)).toInt64))), .second, .val (.double (FP.i2d (p3 &&& (1 : Int32)))), .second, .val (.double (fn_wk ((9223372036854775806 : Int64) - ((p2 &&& (65535 : Int32)).toInt64)) (FP.i2d (p3 &&& (1 : Int32))))), .second] [(.long ((9223372036854775806 : Int64) - ((p2 &&& (65535 : Int32)).toInt64))), (.double (fn_wk ((9223372036854775806 : Int64) - ((p2 &&& (65535 : Int32)).toInt64)) (FP.i2d (p3 &&& (1 : Int32)))))])) t
            refine XS.l2dS X20.here hx rfl (hb hby at_180) rfl rfl ?_
            show Steps p.tables e below (T20.setTop (mkF m 181 #[.val (.int p0), .val (.long q1), .second, .val (.int p2), .val (.int p3), .val (.int (p0 &&& (3 : Int32))), .val (.long ((p3 % (1048576 : Int32)).toInt64)), .second, .val (.double (FP.l2d ((p3 % (1048576 : Int32)).toInt64))), .second, .val (.long ((9223372036854775806 : Int64) - ((p2 &&& (65535 : Int32)).toInt64))), .second, .val (.double (FP.i2d (p3 &&& (1 : Int32)))), .second, .val (.double (fn_wk ((9223372036854775806 : Int64) - ((p2 &&& (65535 : Int32)).toInt64)) (FP.i2d (p3 &&& (1 : Int32))))), .second] [(.double (FP.l2d ((9223372036854775806 : Int64) - ((p2 &&& (65535 : Int32)).toInt64)))), (.double (fn_wk ((9223372036854775806 : Int64) - ((p2 &&& (65535 : Int32)).toInt64)) (FP.i2d (p3 &&& (1 : Int32)))))])) t
            refine XS.dcmpS X20.here hx rfl (hb hby at_181) rfl rfl ?_
            exact k)
          by_cases hc25 : (cmpValue (FP.dcmp (fn_wk ((9223372036854775806 : Int64) - ((p2 &&& (65535 : Int32)).toInt64)) (FP.i2d (p3 &&& (1 : Int32)))) (FP.l2d ((9223372036854775806 : Int64) - ((p2 &&& (65535 : Int32)).toInt64)))) .l) = (0 : Int32)
          · have pre28 : ∀ t, Steps p.tables e below (T20.setTop (mkF m 191 #[.val (.int p0), .val (.long q1), .second, .val (.int p2), .val (.int p3), .val (.int (p0 &&& (3 : Int32))), .val (.long ((p3 % (1048576 : Int32)).toInt64)), .second, .val (.double (FP.l2d ((p3 % (1048576 : Int32)).toInt64))), .second, .val (.long ((9223372036854775806 : Int64) - ((p2 &&& (65535 : Int32)).toInt64))), .second, .val (.double (FP.i2d (p3 &&& (1 : Int32)))), .second, .val (.double (fn_wk ((9223372036854775806 : Int64) - ((p2 &&& (65535 : Int32)).toInt64)) (FP.i2d (p3 &&& (1 : Int32))))), .second] [(.int (cmpValue (FP.dcmp (fn_wk ((9223372036854775806 : Int64) - ((p2 &&& (65535 : Int32)).toInt64)) (FP.i2d (p3 &&& (1 : Int32)))) (9218868437227405312 : UInt64)) .g))])) t → Steps p.tables e below (s₁.setTop (entryFrame m #[(.int p0), (.long q1), (.int p2), (.int p3)] maxLocals)) t := fun t k => pre26 t (by
              show Steps p.tables e below (T20.setTop (mkF m 182 #[.val (.int p0), .val (.long q1), .second, .val (.int p2), .val (.int p3), .val (.int (p0 &&& (3 : Int32))), .val (.long ((p3 % (1048576 : Int32)).toInt64)), .second, .val (.double (FP.l2d ((p3 % (1048576 : Int32)).toInt64))), .second, .val (.long ((9223372036854775806 : Int64) - ((p2 &&& (65535 : Int32)).toInt64))), .second, .val (.double (FP.i2d (p3 &&& (1 : Int32)))), .second, .val (.double (fn_wk ((9223372036854775806 : Int64) - ((p2 &&& (65535 : Int32)).toInt64)) (FP.i2d (p3 &&& (1 : Int32))))), .second] [(.int (cmpValue (FP.dcmp (fn_wk ((9223372036854775806 : Int64) - ((p2 &&& (65535 : Int32)).toInt64)) (FP.i2d (p3 &&& (1 : Int32)))) (FP.l2d ((9223372036854775806 : Int64) - ((p2 &&& (65535 : Int32)).toInt64)))) .l))])) t
              refine XS.ifNo X20.here hx rfl (hb hby at_182) rfl ((if0 _ _).trans (teq hc25).2) ?_
              show Steps p.tables e below (T20.setTop (mkF m 185 #[.val (.int p0), .val (.long q1), .second, .val (.int p2), .val (.int p3), .val (.int (p0 &&& (3 : Int32))), .val (.long ((p3 % (1048576 : Int32)).toInt64)), .second, .val (.double (FP.l2d ((p3 % (1048576 : Int32)).toInt64))), .second, .val (.long ((9223372036854775806 : Int64) - ((p2 &&& (65535 : Int32)).toInt64))), .second, .val (.double (FP.i2d (p3 &&& (1 : Int32)))), .second, .val (.double (fn_wk ((9223372036854775806 : Int64) - ((p2 &&& (65535 : Int32)).toInt64)) (FP.i2d (p3 &&& (1 : Int32))))), .second] [])) t
              refine XS.dload X20.here hx rfl (hb hby at_185) rfl ?_
              show Steps p.tables e below (T20.setTop (mkF m 187 #[.val (.int p0), .val (.long q1), .second, .val (.int p2), .val (.int p3), .val (.int (p0 &&& (3 : Int32))), .val (.long ((p3 % (1048576 : Int32)).toInt64)), .second, .val (.double (FP.l2d ((p3 % (1048576 : Int32)).toInt64))), .second, .val (.long ((9223372036854775806 : Int64) - ((p2 &&& (65535 : Int32)).toInt64))), .second, .val (.double (FP.i2d (p3 &&& (1 : Int32)))), .second, .val (.double (fn_wk ((9223372036854775806 : Int64) - ((p2 &&& (65535 : Int32)).toInt64)) (FP.i2d (p3 &&& (1 : Int32))))), .second] [(.double (fn_wk ((9223372036854775806 : Int64) - ((p2 &&& (65535 : Int32)).toInt64)) (FP.i2d (p3 &&& (1 : Int32)))))])) t
              refine X20.ldc2DoubleC hx hown (mvT hZ (hw _ (List.mem_of_getElem? (i := 9) rfl))) (g := (mkF m 187 #[.val (.int p0), .val (.long q1), .second, .val (.int p2), .val (.int p3), .val (.int (p0 &&& (3 : Int32))), .val (.long ((p3 % (1048576 : Int32)).toInt64)), .second, .val (.double (FP.l2d ((p3 % (1048576 : Int32)).toInt64))), .second, .val (.long ((9223372036854775806 : Int64) - ((p2 &&& (65535 : Int32)).toInt64))), .second, .val (.double (FP.i2d (p3 &&& (1 : Int32)))), .second, .val (.double (fn_wk ((9223372036854775806 : Int64) - ((p2 &&& (65535 : Int32)).toInt64)) (FP.i2d (p3 &&& (1 : Int32))))), .second] [(.double (fn_wk ((9223372036854775806 : Int64) - ((p2 &&& (65535 : Int32)).toInt64)) (FP.i2d (p3 &&& (1 : Int32)))))])) rfl (hb hby at_187) _ ?_
              show Steps p.tables e below (T20.setTop (mkF m 190 #[.val (.int p0), .val (.long q1), .second, .val (.int p2), .val (.int p3), .val (.int (p0 &&& (3 : Int32))), .val (.long ((p3 % (1048576 : Int32)).toInt64)), .second, .val (.double (FP.l2d ((p3 % (1048576 : Int32)).toInt64))), .second, .val (.long ((9223372036854775806 : Int64) - ((p2 &&& (65535 : Int32)).toInt64))), .second, .val (.double (FP.i2d (p3 &&& (1 : Int32)))), .second, .val (.double (fn_wk ((9223372036854775806 : Int64) - ((p2 &&& (65535 : Int32)).toInt64)) (FP.i2d (p3 &&& (1 : Int32))))), .second] [(.double (9218868437227405312 : UInt64)), (.double (fn_wk ((9223372036854775806 : Int64) - ((p2 &&& (65535 : Int32)).toInt64)) (FP.i2d (p3 &&& (1 : Int32)))))])) t
              refine XS.dcmpS X20.here hx rfl (hb hby at_190) rfl rfl ?_
              exact k)
            by_cases hc27 : (cmpValue (FP.dcmp (fn_wk ((9223372036854775806 : Int64) - ((p2 &&& (65535 : Int32)).toInt64)) (FP.i2d (p3 &&& (1 : Int32)))) (9218868437227405312 : UInt64)) .g) < (0 : Int32)
            · have hv : fn_law p0 q1 p2 p3 = (1 : Int32) := by simp only [fn_law, if_neg hc1, if_neg hc10, if_neg hc15, if_neg hc21, if_pos hc25, if_pos hc27]
              obtain ⟨fs, hr, hrun, hended, hW, hsame⟩ := X20.leave (v := some (.int (1 : Int32))) (fun h => by rw [Bd.returns] at h; cases h)
              refine ⟨_, _, pre28 _ ?_, hrun, hended, _, _, rfl, ?_, ⟨_, rfl⟩, hW, hsame.mono (by decide) (by decide)⟩
              · show Steps p.tables e below (T20.setTop (mkF m 191 #[.val (.int p0), .val (.long q1), .second, .val (.int p2), .val (.int p3), .val (.int (p0 &&& (3 : Int32))), .val (.long ((p3 % (1048576 : Int32)).toInt64)), .second, .val (.double (FP.l2d ((p3 % (1048576 : Int32)).toInt64))), .second, .val (.long ((9223372036854775806 : Int64) - ((p2 &&& (65535 : Int32)).toInt64))), .second, .val (.double (FP.i2d (p3 &&& (1 : Int32)))), .second, .val (.double (fn_wk ((9223372036854775806 : Int64) - ((p2 &&& (65535 : Int32)).toInt64)) (FP.i2d (p3 &&& (1 : Int32))))), .second] [(.int (cmpValue (FP.dcmp (fn_wk ((9223372036854775806 : Int64) - ((p2 &&& (65535 : Int32)).toInt64)) (FP.i2d (p3 &&& (1 : Int32)))) (9218868437227405312 : UInt64)) .g))])) _
                refine XS.ifNo X20.here hx rfl (hb hby at_191) rfl ((if0 _ _).trans (tlt hc27).2.1) ?_
                show Steps p.tables e below (T20.setTop (mkF m 194 #[.val (.int p0), .val (.long q1), .second, .val (.int p2), .val (.int p3), .val (.int (p0 &&& (3 : Int32))), .val (.long ((p3 % (1048576 : Int32)).toInt64)), .second, .val (.double (FP.l2d ((p3 % (1048576 : Int32)).toInt64))), .second, .val (.long ((9223372036854775806 : Int64) - ((p2 &&& (65535 : Int32)).toInt64))), .second, .val (.double (FP.i2d (p3 &&& (1 : Int32)))), .second, .val (.double (fn_wk ((9223372036854775806 : Int64) - ((p2 &&& (65535 : Int32)).toInt64)) (FP.i2d (p3 &&& (1 : Int32))))), .second] [])) _
                refine XS.iconst X20.here hx rfl (hb hby at_194) ?_
                show Steps p.tables e below (T20.setTop (mkF m 195 #[.val (.int p0), .val (.long q1), .second, .val (.int p2), .val (.int p3), .val (.int (p0 &&& (3 : Int32))), .val (.long ((p3 % (1048576 : Int32)).toInt64)), .second, .val (.double (FP.l2d ((p3 % (1048576 : Int32)).toInt64))), .second, .val (.long ((9223372036854775806 : Int64) - ((p2 &&& (65535 : Int32)).toInt64))), .second, .val (.double (FP.i2d (p3 &&& (1 : Int32)))), .second, .val (.double (fn_wk ((9223372036854775806 : Int64) - ((p2 &&& (65535 : Int32)).toInt64)) (FP.i2d (p3 &&& (1 : Int32))))), .second] [(.int (1 : Int32))])) _
                refine XS.goto X20.here hx rfl (pc0 := 195) (pc' := 199) rfl (hb hby at_195) (by decide) (by decide) ?_
                show Steps p.tables e below (T20.setTop (mkF m 199 #[.val (.int p0), .val (.long q1), .second, .val (.int p2), .val (.int p3), .val (.int (p0 &&& (3 : Int32))), .val (.long ((p3 % (1048576 : Int32)).toInt64)), .second, .val (.double (FP.l2d ((p3 % (1048576 : Int32)).toInt64))), .second, .val (.long ((9223372036854775806 : Int64) - ((p2 &&& (65535 : Int32)).toInt64))), .second, .val (.double (FP.i2d (p3 &&& (1 : Int32)))), .second, .val (.double (fn_wk ((9223372036854775806 : Int64) - ((p2 &&& (65535 : Int32)).toInt64)) (FP.i2d (p3 &&& (1 : Int32))))), .second] [(.int (1 : Int32))])) _
                exact retN X20 hx (t := .boolean) Bd.returns (by simp) (hb hby at_199) hr
              · show Q_law Z p0 q1 p2 p3 h0 n0 _ T20.heap _
                rw [e20]
                exact ⟨by rw [hv], N20, rfl⟩
            · have hv : fn_law p0 q1 p2 p3 = (0 : Int32) := by simp only [fn_law, if_neg hc1, if_neg hc10, if_neg hc15, if_neg hc21, if_pos hc25, if_neg hc27]
              obtain ⟨fs, hr, hrun, hended, hW, hsame⟩ := X20.leave (v := some (.int (0 : Int32))) (fun h => by rw [Bd.returns] at h; cases h)
              refine ⟨_, _, pre28 _ ?_, hrun, hended, _, _, rfl, ?_, ⟨_, rfl⟩, hW, hsame.mono (by decide) (by decide)⟩
              · show Steps p.tables e below (T20.setTop (mkF m 191 #[.val (.int p0), .val (.long q1), .second, .val (.int p2), .val (.int p3), .val (.int (p0 &&& (3 : Int32))), .val (.long ((p3 % (1048576 : Int32)).toInt64)), .second, .val (.double (FP.l2d ((p3 % (1048576 : Int32)).toInt64))), .second, .val (.long ((9223372036854775806 : Int64) - ((p2 &&& (65535 : Int32)).toInt64))), .second, .val (.double (FP.i2d (p3 &&& (1 : Int32)))), .second, .val (.double (fn_wk ((9223372036854775806 : Int64) - ((p2 &&& (65535 : Int32)).toInt64)) (FP.i2d (p3 &&& (1 : Int32))))), .second] [(.int (cmpValue (FP.dcmp (fn_wk ((9223372036854775806 : Int64) - ((p2 &&& (65535 : Int32)).toInt64)) (FP.i2d (p3 &&& (1 : Int32)))) (9218868437227405312 : UInt64)) .g))])) _
                refine XS.ifYes X20.here hx rfl (pc0 := 191) (pc' := 198) rfl (hb hby at_191) rfl ((if0 _ _).trans (flt hc27).2.1) (by decide) (by decide) ?_
                show Steps p.tables e below (T20.setTop (mkF m 198 #[.val (.int p0), .val (.long q1), .second, .val (.int p2), .val (.int p3), .val (.int (p0 &&& (3 : Int32))), .val (.long ((p3 % (1048576 : Int32)).toInt64)), .second, .val (.double (FP.l2d ((p3 % (1048576 : Int32)).toInt64))), .second, .val (.long ((9223372036854775806 : Int64) - ((p2 &&& (65535 : Int32)).toInt64))), .second, .val (.double (FP.i2d (p3 &&& (1 : Int32)))), .second, .val (.double (fn_wk ((9223372036854775806 : Int64) - ((p2 &&& (65535 : Int32)).toInt64)) (FP.i2d (p3 &&& (1 : Int32))))), .second] [])) _
                refine XS.iconst X20.here hx rfl (hb hby at_198) ?_
                show Steps p.tables e below (T20.setTop (mkF m 199 #[.val (.int p0), .val (.long q1), .second, .val (.int p2), .val (.int p3), .val (.int (p0 &&& (3 : Int32))), .val (.long ((p3 % (1048576 : Int32)).toInt64)), .second, .val (.double (FP.l2d ((p3 % (1048576 : Int32)).toInt64))), .second, .val (.long ((9223372036854775806 : Int64) - ((p2 &&& (65535 : Int32)).toInt64))), .second, .val (.double (FP.i2d (p3 &&& (1 : Int32)))), .second, .val (.double (fn_wk ((9223372036854775806 : Int64) - ((p2 &&& (65535 : Int32)).toInt64)) (FP.i2d (p3 &&& (1 : Int32))))), .second] [(.int (0 : Int32))])) _
                exact retN X20 hx (t := .boolean) Bd.returns (by simp) (hb hby at_199) hr
              · show Q_law Z p0 q1 p2 p3 h0 n0 _ T20.heap _
                rw [e20]
                exact ⟨by rw [hv], N20, rfl⟩
          · have hv : fn_law p0 q1 p2 p3 = (0 : Int32) := by simp only [fn_law, if_neg hc1, if_neg hc10, if_neg hc15, if_neg hc21, if_neg hc25]
            obtain ⟨fs, hr, hrun, hended, hW, hsame⟩ := X20.leave (v := some (.int (0 : Int32))) (fun h => by rw [Bd.returns] at h; cases h)
            refine ⟨_, _, pre26 _ ?_, hrun, hended, _, _, rfl, ?_, ⟨_, rfl⟩, hW, hsame.mono (by decide) (by decide)⟩
            · show Steps p.tables e below (T20.setTop (mkF m 182 #[.val (.int p0), .val (.long q1), .second, .val (.int p2), .val (.int p3), .val (.int (p0 &&& (3 : Int32))), .val (.long ((p3 % (1048576 : Int32)).toInt64)), .second, .val (.double (FP.l2d ((p3 % (1048576 : Int32)).toInt64))), .second, .val (.long ((9223372036854775806 : Int64) - ((p2 &&& (65535 : Int32)).toInt64))), .second, .val (.double (FP.i2d (p3 &&& (1 : Int32)))), .second, .val (.double (fn_wk ((9223372036854775806 : Int64) - ((p2 &&& (65535 : Int32)).toInt64)) (FP.i2d (p3 &&& (1 : Int32))))), .second] [(.int (cmpValue (FP.dcmp (fn_wk ((9223372036854775806 : Int64) - ((p2 &&& (65535 : Int32)).toInt64)) (FP.i2d (p3 &&& (1 : Int32)))) (FP.l2d ((9223372036854775806 : Int64) - ((p2 &&& (65535 : Int32)).toInt64)))) .l))])) _
              refine XS.ifYes X20.here hx rfl (pc0 := 182) (pc' := 198) rfl (hb hby at_182) rfl ((if0 _ _).trans (feq hc25).2) (by decide) (by decide) ?_
              show Steps p.tables e below (T20.setTop (mkF m 198 #[.val (.int p0), .val (.long q1), .second, .val (.int p2), .val (.int p3), .val (.int (p0 &&& (3 : Int32))), .val (.long ((p3 % (1048576 : Int32)).toInt64)), .second, .val (.double (FP.l2d ((p3 % (1048576 : Int32)).toInt64))), .second, .val (.long ((9223372036854775806 : Int64) - ((p2 &&& (65535 : Int32)).toInt64))), .second, .val (.double (FP.i2d (p3 &&& (1 : Int32)))), .second, .val (.double (fn_wk ((9223372036854775806 : Int64) - ((p2 &&& (65535 : Int32)).toInt64)) (FP.i2d (p3 &&& (1 : Int32))))), .second] [])) _
              refine XS.iconst X20.here hx rfl (hb hby at_198) ?_
              show Steps p.tables e below (T20.setTop (mkF m 199 #[.val (.int p0), .val (.long q1), .second, .val (.int p2), .val (.int p3), .val (.int (p0 &&& (3 : Int32))), .val (.long ((p3 % (1048576 : Int32)).toInt64)), .second, .val (.double (FP.l2d ((p3 % (1048576 : Int32)).toInt64))), .second, .val (.long ((9223372036854775806 : Int64) - ((p2 &&& (65535 : Int32)).toInt64))), .second, .val (.double (FP.i2d (p3 &&& (1 : Int32)))), .second, .val (.double (fn_wk ((9223372036854775806 : Int64) - ((p2 &&& (65535 : Int32)).toInt64)) (FP.i2d (p3 &&& (1 : Int32))))), .second] [(.int (0 : Int32))])) _
              exact retN X20 hx (t := .boolean) Bd.returns (by simp) (hb hby at_199) hr
            · show Q_law Z p0 q1 p2 p3 h0 n0 _ T20.heap _
              rw [e20]
              exact ⟨by rw [hv], N20, rfl⟩
theorem own_one (a : UInt64) (h : Fin64 a) : FP.dmul a FP.dconst1 = a := Jvm.FP.Core.dmul_one (fin64_core.mp h).ne_nan
theorem own_big (q : Int64) (d : UInt64) (h : ¬ (lcmpW q (9223372036854775807 : Int64)) = (0 : Int32)) : fn_wk q d = FP.dmul (FP.l2d q) d := by
  unfold fn_wk; rw [if_neg h]
theorem own_inf (q : Int64) (d : UInt64) (h : (lcmpW q (9223372036854775807 : Int64)) = (0 : Int32)) : fn_wk q d = (9218868437227405312 : UInt64) := by
  unfold fn_wk; rw [if_pos h]
theorem own_ii : (cmpValue (FP.dcmp (9218868437227405312 : UInt64) (9218868437227405312 : UInt64)) .l) = (0 : Int32) := by decide +kernel
theorem own_not (q : Int64) (h : q.toInt < 9223372036854775807) : ¬ (lcmpW q (9223372036854775807 : Int64)) = (0 : Int32) := by
  rw [lw_eq]
  intro z
  rw [z] at h
  exact absurd h (by decide)
theorem own_z (a b : Int64) (ha : B53 a) (hb : B53 b) (h1 : -9223372036854775808 ≤ a.toInt * b.toInt) (h2 : a.toInt * b.toInt < 9223372036854775808) : (cmpValue (FP.dcmp (FP.dmul (FP.l2d a) (FP.l2d b)) (FP.l2d (a * b))) .l) = (0 : Int32) := by
  by_cases z : a = 0 ∨ b = 0
  · have e : a * b = 0 := by
      rcases z with rfl | rfl
      · exact Int64.zero_mul
      · exact Int64.mul_zero
    rw [dmul_z ha hb z, e]
    split
    · decide +kernel
    · decide +kernel
  · rw [dmul_w ha hb (fun q => z (Or.inl q)) (fun q => z (Or.inr q)) h1 h2]
    exact dcmpV_self (l2d_fin _).noNaN _
theorem own_zero (r : UInt64) (h : Jvm.FP.Core.DZero r) : (cmpValue (FP.dcmp r FP.dconst0) .l) = (0 : Int32) := by
  have hb := (Jvm.FP.Core.zero_bits2 r).mp h
  have hr : r = 0 ∨ r = 9223372036854775808 := by
    have hl := r.toNat_lt
    have h3 : r.toNat = 0 ∨ r.toNat = 9223372036854775808 := by omega
    rcases h3 with h3 | h3
    · left; exact UInt64.toNat_inj.mp h3
    · right; exact UInt64.toNat_inj.mp h3
  rcases hr with rfl | rfl <;> decide +kernel
set_option maxHeartbeats 2000000 in
theorem own_c1 (x2 x3 : Int32) : (cmpValue (FP.dcmp (fn_wk (x2.toInt64) (FP.l2d ((x3 % (1048576 : Int32)).toInt64))) (FP.l2d ((x2.toInt64) * ((x3 % (1048576 : Int32)).toInt64)))) .l) = (0 : Int32) := by
  have e1 : (1048576 : Int32).toInt = 1048576 := by decide
  have k1 := c_irem x3 1048576 1048576 e1
  have k2 := c_i2l (x3 % 1048576)
  have k3 := c_i2l x2
  have k4 := rng32 x2
  have k5 := rng32 x3
  have k6 : -1048576 < (x3 % 1048576).toInt ∧ (x3 % 1048576).toInt < 1048576 := by
    by_cases hs : 0 ≤ x3.toInt
    · have := k1.1 hs; omega
    · have := k1.2 (by omega); omega
  generalize ((x3 % (1048576 : Int32)).toInt64) = kk at *
  generalize x2.toInt64 = aa at *
  rw [own_big _ _ (own_not _ (by omega))]
  have hb : (aa.toInt * kk.toInt).natAbs ≤ 2147483648 * 1048576 := by
    rw [Int.natAbs_mul]
    exact Nat.mul_le_mul (by omega) (by omega)
  exact own_z _ _ ⟨by omega, by omega⟩ ⟨by omega, by omega⟩ (by omega) (by omega)
theorem own_n3 (x2 : Int32) : ¬ (lcmpW ((9223372036854775806 : Int64) - ((x2 &&& (65535 : Int32)).toInt64)) (9223372036854775807 : Int64)) = (0 : Int32) := by
  have m1 : (x2 &&& (65535 : Int32)).toInt = x2.toInt % (2 ^ 16 : Nat) := c_mask x2 65535 16 (by decide) (by decide)
  have m2 := c_i2l (x2 &&& (65535 : Int32))
  have m3 := c_lsub 9223372036854775806 ((x2 &&& (65535 : Int32)).toInt64)
  have m4 := rng64 ((9223372036854775806 : Int64) - ((x2 &&& (65535 : Int32)).toInt64))
  have m5 : (9223372036854775806 : Int64).toInt = 9223372036854775806 := by decide
  exact own_not _ (by omega)
theorem own_i0 : FP.i2d (0 : Int32) = FP.dconst0 := by decide +kernel
theorem own_i1 : FP.i2d (1 : Int32) = FP.dconst1 := by decide +kernel
theorem own_dz : Jvm.FP.Core.DZero FP.dconst0 := (Jvm.FP.Core.zero_bits2 _).mpr (by decide +kernel)
theorem own_mx : (lcmpW (9223372036854775807 : Int64) (9223372036854775807 : Int64)) = (0 : Int32) := by decide
theorem own_c0a (q : Int64) (h : (lcmpW q (9223372036854775807 : Int64)) = (0 : Int32)) (d : UInt64) : (cmpValue (FP.dcmp (fn_wk q d) (9218868437227405312 : UInt64)) .l) = (0 : Int32) := by
  rw [own_inf _ _ h]; exact own_ii
theorem own_c0b (q : Int64) (h : ¬ (lcmpW q (9223372036854775807 : Int64)) = (0 : Int32)) : (cmpValue (FP.dcmp (fn_wk q FP.dconst1) (FP.l2d q)) .l) = (0 : Int32) := by
  rw [own_big _ _ h, own_one _ (l2d_fin _)]; exact dcmpV_self (l2d_fin _).noNaN _
theorem own_c3a (q : Int64) (h : ¬ (lcmpW q (9223372036854775807 : Int64)) = (0 : Int32)) : (cmpValue (FP.dcmp (fn_wk q (FP.i2d (0 : Int32))) FP.dconst0) .l) = (0 : Int32) := by
  rw [own_big _ _ h, own_i0]; exact own_zero _ (Jvm.FP.Core.dmul_zero (fin64_core.mp (l2d_fin _)) own_dz)
theorem own_c3b (q : Int64) (h : ¬ (lcmpW q (9223372036854775807 : Int64)) = (0 : Int32)) : (cmpValue (FP.dcmp (fn_wk q (FP.i2d (1 : Int32))) (FP.l2d q)) .l) = (0 : Int32) := by
  rw [own_i1]; exact own_c0b q h
theorem own_c3c (q : Int64) (h : ¬ (lcmpW q (9223372036854775807 : Int64)) = (0 : Int32)) : (cmpValue (FP.dcmp (fn_wk q (FP.i2d (1 : Int32))) (9218868437227405312 : UInt64)) .g) < (0 : Int32) := by
  rw [own_big _ _ h, own_i1, own_one _ (l2d_fin _), dcmp_pinf (l2d_fin _)]; decide
theorem own_law (x0 : Int32) (x1 : Int64) (x2 x3 : Int32) : fn_law x0 x1 x2 x3 = 1 := by
  unfold fn_law
  by_cases h0 : (x0 &&& (3 : Int32)) = (0 : Int32)
  · rw [if_pos h0]
    by_cases hm : (lcmpW x1 (9223372036854775807 : Int64)) = (0 : Int32)
    · rw [if_pos hm, if_pos (own_c0a x1 hm _)]
    · rw [if_neg hm, if_pos (own_c0b x1 hm)]
  rw [if_neg h0]
  by_cases h1 : (x0 &&& (3 : Int32)) = (1 : Int32)
  · rw [if_pos h1, if_pos (own_c1 x2 x3)]
  rw [if_neg h1]
  by_cases h2 : (x0 &&& (3 : Int32)) = (2 : Int32)
  · rw [if_pos h2, if_pos (own_c0a _ own_mx _)]
  rw [if_neg h2]
  have hn := own_n3 x2
  by_cases h3 : (x3 &&& (1 : Int32)) = (0 : Int32)
  · rw [if_pos h3, h3, if_pos (own_c3a _ hn)]
  · have h4 : (x3 &&& (1 : Int32)) = (1 : Int32) := by
      rcases and_one x3 with h | h
      · exact absurd h h3
      · exact h
    rw [if_neg h3, h4, if_pos (own_c3b _ hn), if_pos (own_c3c _ hn)]
set_option maxRecDepth 65536 in
set_option maxHeartbeats 40000000 in
theorem comes_1 {Post : Tables → Env → Array Value → State → Outcome → State → Prop} (hpost : ∀ tb e args s v u, (limb_1_1.after args s (.returned v) u = true ∧ limb_1_2.after args s (.returned v) u = true ∧ True) → FrameEnd s (.returned v) u (Jvm.fieldLocs frame_1_writes args s ++ Jvm.arrayLocs frame_1_arrays args s ++ Jvm.staticLocs frame_1_statics s) 0 0 → Post tb e args s (.returned v) u) :
    ArmFor flags0 classFile x code maxLocals ret World_1 tables_1 room_1 Calls_1 rest_1 Pre_1 Post := by
  intro l hfl _ _ p e ha hc hk s m args below hf hA hF happ hP
  obtain ⟨hcalls, hrest, hpre⟩ := hP
  obtain ⟨-, -, -, hnamed, -, -, -, hat⟩ := (Spec.applies_iff hf).mp happ
  obtain ⟨hg, hn⟩ := and_e (Cond.before_iff.mp (show (Jvm.Cond.and given_1 narrow_1).before args s = true from hpre))
  obtain ⟨hcnt, hg0⟩ := and_e hg
  obtain ⟨ha0, hg1⟩ := and_e hg0
  obtain ⟨ha1, hg2⟩ := and_e hg1
  obtain ⟨ha2, hg3⟩ := and_e hg2
  have ha3 := hg3
  obtain ⟨w0, w1, w2, w3, rfl⟩ : ∃ w0 w1 w2 w3 : Value, args = #[w0, w1, w2, w3] := by
    have hs : args.size = 4 := by simpa [Cond.value, given_1] using hcnt
    obtain ⟨L⟩ := args
    match L, hs with
    | [w0, w1, w2, w3], _ => exact ⟨w0, w1, w2, w3, rfl⟩
  have hw := fun d (hd : d ∈ tables_1) => atoms_spec (ws := Jvm.Cond.code x code maxLocals ret :: tables_1) hat d (List.mem_cons_of_mem _ hd)
  have hfit : Fit s := fun {y c} hc i hi => by
    obtain ⟨ha, rfl⟩ := Array.getElem?_eq_some_iff.mp hc
    have q := List.all_eq_true.mp ((Array.all_eq_true_iff_forall_mem.mp hF) _ (Array.getElem_mem ha)) i (List.mem_range.mpr hi)
    simpa [Array.getElem?_eq_getElem hi] using q
  obtain ⟨i0, ei0⟩ := is_v ha0
  obtain rfl : w0 = (.int i0) := Option.some.inj ei0
  obtain ⟨i1, ei1⟩ := isL_v ha1
  obtain rfl : w1 = (.long i1) := Option.some.inj ei1
  obtain ⟨i2, ei2⟩ := is_v ha2
  obtain rfl : w2 = (.int i2) := Option.some.inj ei2
  obtain ⟨i3, ei3⟩ := is_v ha3
  obtain rfl : w3 = (.int i3) := Option.some.inj ei3
  obtain ⟨n, o, h1, h2, h3, _, L, rfl, ⟨rfl, N, -⟩, hq⟩ := rm_law l s _ hw tables_1 i0 i1 i2 i3 s.heap s.heap.size (Nat.le_refl _) p e ha hc hk s m _ below hf ((Spec.applies_iff_loose hf).mp happ).1 ⟨rfl, State.Warmed39.refl s, rfl⟩ trivial
  refine ⟨n, _, h1, h2, h3, hpost _ _ _ _ _ _ ⟨Cond.after_iff.mpr rfl, Cond.after_iff.mpr (eq_i res_at (Term.int_eval (1)) (congrArg Value.int (own_law i0 i1 i2 i3))), trivial⟩ ⟨hq.1, hq.2.1, (hq.2.2.sift fun y hy => Or.inr (N y hy)).mono (by decide) (by decide)⟩⟩
theorem main_1_1 : Claimed_1_1 := comes_1 fun _ _ _ _ _ _ h hF => ⟨h.1, hF⟩
theorem main_1_2 : Claimed_1_2 := comes_1 fun _ _ _ _ _ _ h hF => ⟨h.2.1, hF⟩
end Jvm.Pilot.@@N@@
namespace Jvm.Pilot.@@N@@
open Jvm Jvm.ClassFile Sem Op Lib Jvm.Free Jvm.Stand Jvm.Pilot.@@N@@.Jvm.D
/-! MADE BY PROGRAM (witnessworld.py) out of the Statement's table words and the real class files: 9 classes; the members and pool entries that the words name. The judged class is class 1, her method 1. -/
namespace start1
open Jvm.ClassFile
def u (s : String) : CpInfo := .utf8 (stringToUtf16 s)
/-- a pool by its gaps: so many unusable entries, then the entry; so many at the end -/
def gap : Nat → List CpInfo → List CpInfo
  | 0, r => r
  | n + 1, r => .unusable :: gap n r
def poolList (es : List (Nat × CpInfo)) (last : Nat) : List CpInfo := es.foldr (fun e r => gap e.1 (e.2 :: r)) (gap last [])
def pool (es : List (Nat × CpInfo)) (last : Nat) : Array CpInfo := ⟨poolList es last⟩
def fileOf (pool : Array CpInfo) (this : Nat) (attrs : Array Attribute := #[]) (ms : Array MethodInfo := #[]) (fl : Nat := 33) (sup : Nat := 0) (ifs : Array Nat := #[]) (fds : Array FieldInfo := #[]) : ClassFile where
  minorVersion := 0
  majorVersion := 65
  constantPool := pool
  accessFlags := fl
  thisClass := this
  superClass := sup
  interfaces := ifs
  fields := fds
  methods := ms
  attributes := attrs
def plain (name : String) (sup : Option ClassId) : Class where
  name := name
  kind := .ordinary
  loader := none
  accessFlags := 33
  super := sup
  interfaces := #[]
  cf := none
  fields := #[]
  methods := #[]
  instanceTypes := #[]
  staticTypes := #[]
  resolved := #[]
  callSites := []
  init := .initialized
  statics := none
  mirror := none

def pool0 : Array CpInfo := pool [(5, u "<init>"), (0, u "()V"), (1, .class_ 10), (1, u "java/lang/Object")] 113

def k0m0 : Method := { name := "<init>", desc := "()V", sig := { parameters := [], returnType := none }, accessFlags := 1, code := none }
/-- java/lang/Object -/
def k0 : Class := { plain "java/lang/Object" none with
  accessFlags := 33
  interfaces := #[]
  cf := some (fileOf pool0 8 #[] #[{ accessFlags := 1, nameIndex := 5, descriptorIndex := 6, attributes := #[] }] 33 0 #[] #[])
  fields := #[]
  methods := #[k0m0]
  instanceTypes := #[]
  staticTypes := #[]
  resolved := Array.replicate 124 none
  statics := none }

def pool1 : Array CpInfo := pool [(2, .class_ 4), (1, u "java/lang/Object"), (0, u "<init>"), (0, u "()V"), (0, .integer 1048576), (0, .methodref 9 10), (0, .class_ 11), (0, .nameAndType 12 13), (0, u "com/example/rigid/rigid/engines/dllite/Lasso"), (0, u "work"), (0, u "(JD)D"), (2, .long 9223372036854775807), (1, .double 9218868437227405312), (1, .long 9223372036854775806), (1, .integer 65535), (0, .class_ 24), (0, u "com/example/rigid/rigid/engines/dllite/LassoWorkPinLaw"), (2, u "law"), (0, u "(IJII)Z")] 3

def k1m0 : Method := { name := "<init>", desc := "()V", sig := { parameters := [], returnType := none }, accessFlags := 1, code := none }
def k1c1 : Code := { maxStack := 6, maxLocals := 16, code := code, exceptionTable := #[], attributes := #[] }
def k1m1 : Method := { name := "law", desc := "(IJII)Z", sig := { parameters := [.int, .long, .int, .int], returnType := some .boolean }, accessFlags := 9, code := some k1c1 }
/-- com/example/rigid/rigid/engines/dllite/LassoWorkPinLaw -/
def k1 : Class := { plain "com/example/rigid/rigid/engines/dllite/LassoWorkPinLaw" (some 0) with
  accessFlags := 49
  interfaces := #[]
  cf := some (fileOf pool1 23 #[] #[{ accessFlags := 1, nameIndex := 5, descriptorIndex := 6, attributes := #[] }, { accessFlags := 9, nameIndex := 27, descriptorIndex := 28, attributes := #[] }] 49 2 #[] #[])
  fields := #[]
  methods := #[k1m0, k1m1]
  instanceTypes := #[]
  staticTypes := #[]
  resolved := Array.replicate 32 none
  statics := none }

def pool2 : Array CpInfo := pool [(3, .long 9223372036854775807), (3, .double 9218868437227405312), (2, .class_ 12), (1, u "java/lang/Object"), (6, .class_ 21), (1, u "com/example/rigid/rigid/engines/dllite/Lasso"), (0, u "m_aUndefined"), (0, u "Ljava/util/Deque;"), (2, u "m_aUndefinedEventualities"), (2, u "m_aClauses"), (0, u "Lcom/example/rigid/rigid/engines/sat/Clauses;"), (2, u "m_aTimed"), (0, u "Lcom/example/rigid/rigid/engines/dllite/TimedClauses;"), (2, u "m_nLength"), (0, u "I"), (10, u "m_aVariables"), (0, u "[[I"), (5, u "m_aRead"), (0, u "[Z"), (146, u "work"), (0, u "(JD)D")] 18

def k2c0 : Code := { maxStack := 4, maxLocals := 4, code := prog_46_method_1_code, exceptionTable := #[], attributes := #[] }
def k2m0 : Method := { name := "work", desc := "(JD)D", sig := { parameters := [.long, .double], returnType := some .double }, accessFlags := 8, code := some k2c0 }
/-- com/example/rigid/rigid/engines/dllite/Lasso -/
def k2 : Class := { plain "com/example/rigid/rigid/engines/dllite/Lasso" (some 0) with
  accessFlags := 1056
  interfaces := #[]
  cf := some (fileOf pool2 19 #[] #[{ accessFlags := 8, nameIndex := 204, descriptorIndex := 205, attributes := #[] }] 1056 10 #[] #[{ accessFlags := 18, nameIndex := 29, descriptorIndex := 30, attributes := #[] }, { accessFlags := 18, nameIndex := 33, descriptorIndex := 34, attributes := #[] }, { accessFlags := 18, nameIndex := 37, descriptorIndex := 38, attributes := #[] }, { accessFlags := 18, nameIndex := 49, descriptorIndex := 50, attributes := #[] }, { accessFlags := 18, nameIndex := 56, descriptorIndex := 57, attributes := #[] }, { accessFlags := 18, nameIndex := 22, descriptorIndex := 23, attributes := #[] }, { accessFlags := 18, nameIndex := 26, descriptorIndex := 23, attributes := #[] }])
  fields := #[{ name := "m_aClauses", type := (.object "com/example/rigid/rigid/engines/sat/Clauses"), accessFlags := 18, slot := 0, constantValue := 0 }, { name := "m_aTimed", type := (.object "com/example/rigid/rigid/engines/dllite/TimedClauses"), accessFlags := 18, slot := 1, constantValue := 0 }, { name := "m_nLength", type := .int, accessFlags := 18, slot := 2, constantValue := 0 }, { name := "m_aVariables", type := (.array (.array .int)), accessFlags := 18, slot := 3, constantValue := 0 }, { name := "m_aRead", type := (.array .boolean), accessFlags := 18, slot := 4, constantValue := 0 }, { name := "m_aUndefined", type := (.object "java/util/Deque"), accessFlags := 18, slot := 5, constantValue := 0 }, { name := "m_aUndefinedEventualities", type := (.object "java/util/Deque"), accessFlags := 18, slot := 6, constantValue := 0 }]
  methods := #[k2m0]
  instanceTypes := #[(.object "com/example/rigid/rigid/engines/sat/Clauses"), (.object "com/example/rigid/rigid/engines/dllite/TimedClauses"), .int, (.array (.array .int)), (.array .boolean), (.object "java/util/Deque"), (.object "java/util/Deque")]
  staticTypes := #[]
  resolved := Array.replicate 224 none
  statics := none }

def pool3 : Array CpInfo := pool [(1, u "java/lang/Cloneable"), (0, .class_ 1), (0, u "java/lang/Object"), (0, .class_ 3)] 3

/-- java/lang/Cloneable -/
def k3 : Class := { plain "java/lang/Cloneable" (some 0) with
  accessFlags := 1537
  interfaces := #[]
  cf := some (fileOf pool3 2 #[] #[] 1537 4 #[] #[])
  fields := #[]
  methods := #[]
  instanceTypes := #[]
  staticTypes := #[]
  resolved := Array.replicate 8 none
  statics := none }

def pool4 : Array CpInfo := pool [(1, u "java/io/Serializable"), (0, .class_ 1), (0, u "java/lang/Object"), (0, .class_ 3)] 3

/-- java/io/Serializable -/
def k4 : Class := { plain "java/io/Serializable" (some 0) with
  accessFlags := 1537
  interfaces := #[]
  cf := some (fileOf pool4 2 #[] #[] 1537 4 #[] #[])
  fields := #[]
  methods := #[]
  instanceTypes := #[]
  staticTypes := #[]
  resolved := Array.replicate 8 none
  statics := none }

/-- the primitive byte -/
def k5 : Class := { plain "byte" none with kind := .primitive 'B', accessFlags := 0x411 }
/-- [B -/
def k6 : Class := { plain "[B" (some 0) with kind := .array 5 .byte, interfaces := #[3, 4], accessFlags := 1041 }

/-- the primitive int -/
def k7 : Class := { plain "int" none with kind := .primitive 'I', accessFlags := 0x411 }
/-- [I -/
def k8 : Class := { plain "[I" (some 0) with kind := .array 7 .int, interfaces := #[3, 4], accessFlags := 1041 }

def heap : Heap := #[]
def classes : Array Class := #[k0, k1, k2, k3, k4, k5, k6, k7, k8]
def interned : List (Array UInt16 × Addr) := []
def slotsUsed : Nat := 0
def theMethod : MethodId := ⟨1, 1⟩
def args0 : Array Value := #[.int 1, .long 7, .int 3, .int 9]
def aboutOver (below : List Frame) : State where
  vm := { classes := classes, interned := interned.toArray }
  heap := heap
  slotsUsed := slotsUsed
  threads := #[{ frames := .invoking theMethod args0 :: below }]
def below0 : List Frame := [.native { method := ⟨0, 0⟩, args := #[] }]
def about1 : State := aboutOver below0
def p0 : Program := .bare "" "" ""
def e0 : Env := launch0.env 0 0 0
theorem w_frames : about1.frames = Frame.invoking theMethod args0 :: below0 := rfl
set_option maxRecDepth 65536 in
theorem w_args : argsFit about1.vm theMethod args0 = true := by decide +kernel
set_option maxRecDepth 65536 in
theorem w_heap : heapFits about1 = true := by decide +kernel
set_option maxRecDepth 65536 in
theorem w_runnable : about1.curStatus? = some .runnable := by decide +kernel
set_option maxRecDepth 65536 in
theorem w_alone : about1.alone = true := by decide +kernel
set_option maxRecDepth 65536 in
theorem w_named : about1.methodNamed? x = some theMethod := by decide +kernel
set_option maxRecDepth 65536 in
theorem w_hears : about1.hears theMethod below0 = true := by decide +kernel
set_option maxRecDepth 65536 in
theorem w_ripe : about1.ripe theMethod args0 below0 = true := by decide +kernel
theorem w_running : about1.status = .running := rfl
set_option maxRecDepth 65536 in
theorem w_room : about1.hasRoom e0.platform room_1 = true :=
  launch0.hasRoom_least _ room_1 (by decide +kernel) (by decide +kernel) (by decide +kernel) (by decide +kernel) (by decide +kernel) (by decide +kernel)
theorem allAtoms_all (ts : List Jvm.Cond) (a : Array Jvm.Value) (st : Jvm.State) : (allAtoms ts).before a st = ts.all (fun c => c.before a st) := by
  induction ts with
  | nil => rfl
  | cons c t ih =>
    show (Jvm.Cond.and c (allAtoms t)).before a st = _
    rw [Jvm.Cond.before_and, ih, List.all_cons]
def words1 : List Jvm.Cond := Jvm.Cond.code x code maxLocals ret :: tables_1
/-- a 'code' word, met by the world's own term for the bytes: nothing is compared byte by byte -/
theorem code_word {y : MethodName} {bytes : ByteArray} {mx : Nat} {rt : Option FieldType} {a : Array Value} {s : State} {m : MethodId} {meth : Method} {c : Code} (h1 : s.methodNamed? y = some m) (h2 : s.vm.method? m = some meth) (h3 : meth.code = some c) (h4 : c.code = bytes)
    (h5 : (c.maxLocals == mx && c.exceptionTable.isEmpty && decide (c.maxStack ≤ mostOperands) && decide (meth.sig.returnType = rt) && !meth.locks && decide (parseMethodDescriptor y.desc = some meth.sig)) = true) : (Jvm.Cond.code y bytes mx rt).before a s = true := by
  simp only [Bool.and_eq_true, beq_iff_eq, Bool.not_eq_true', decide_eq_true_eq] at h5
  obtain ⟨⟨⟨⟨⟨g1, g2⟩, g3⟩, g4⟩, g5⟩, g6⟩ := h5
  simp [Cond.before, Cond.holds, Cond.value, h1, h2, h3, h4, g1, g2, g3, g4, g5, g6]
def isCode : Jvm.Cond → Bool
  | .code _ _ _ _ => true
  | _ => false
theorem all_split {L : List Jvm.Cond} {P : Jvm.Cond → Bool} (h1 : L.all (fun c => isCode c || P c) = true) (h2 : ∀ c ∈ L.filter isCode, P c = true) : L.all P = true := by
  refine List.all_eq_true.mpr fun c hc => ?_
  have h := List.all_eq_true.mp h1 c hc
  rcases Bool.eq_false_or_eq_true (isCode c) with hi | hi
  · exact h2 c (List.mem_filter.mpr ⟨hc, hi⟩)
  · simpa [hi] using h
set_option maxRecDepth 65536 in
theorem w_c0 : (Jvm.Cond.code x code maxLocals ret).before args0 about1 = true := code_word (m := ⟨1, 1⟩) (meth := k1m1) (c := k1c1) (by decide +kernel) rfl rfl rfl (by decide +kernel)
set_option maxRecDepth 65536 in
theorem w_c1 : (Jvm.Cond.code ({ cls := "com/example/rigid/rigid/engines/dllite/Lasso", name := "work", desc := "(JD)D" } : Jvm.MethodName) prog_46_method_1_code (4 : Nat) (Option.some Jvm.ClassFile.FieldType.double)).before args0 about1 = true := code_word (m := ⟨2, 0⟩) (meth := k2m0) (c := k2c0) (by decide +kernel) rfl rfl rfl (by decide +kernel)
def codes1 : List Jvm.Cond := [Jvm.Cond.code x code maxLocals ret, Jvm.Cond.code ({ cls := "com/example/rigid/rigid/engines/dllite/Lasso", name := "work", desc := "(JD)D" } : Jvm.MethodName) prog_46_method_1_code (4 : Nat) (Option.some Jvm.ClassFile.FieldType.double)]
set_option maxRecDepth 65536 in
theorem codes_eq : words1.filter isCode = codes1 := rfl
theorem w_codes : ∀ c ∈ words1.filter isCode, c.before args0 about1 = true := by
  rw [codes_eq]
  intro c hc
  simp only [codes1, List.mem_cons, List.not_mem_nil, or_false] at hc
  rcases hc with rfl | rfl
  · exact w_c0
  · exact w_c1
set_option maxRecDepth 65536 in
theorem w_t1 : words1.all (fun c => isCode c || c.before args0 about1) = true := by decide +kernel
theorem w_tables : (allAtoms (Jvm.Cond.code x code maxLocals ret :: tables_1)).before args0 about1 = true := by
  rw [allAtoms_all]
  show words1.all (fun c => c.before args0 about1) = true
  refine all_split ?_ w_codes
  rw [w_t1]
set_option maxRecDepth 65536 in
theorem w_case : (Jvm.Cond.and given_1 narrow_1).before args0 about1 = true := by decide +kernel
theorem w_applies : (headSpec (Jvm.Cond.code x code maxLocals ret :: tables_1) room_1).applies x e0.platform about1 = true :=
  (Spec.applies_iff w_frames).mpr ⟨w_running, w_runnable, w_alone, w_named, w_hears, w_ripe, w_room, w_tables⟩
theorem atStart : AtStart classFile x code maxLocals ret World_1 tables_1 room_1 Calls_1 rest_1 Pre_1 launch0 p0 e0 about1 theMethod args0 below0 :=
  ⟨lists_1, trivial, launch0.admits_env _ _ _, launch0.least_env, fairChoices_fair.cas, fairChoices_fair.clock, w_frames, w_args, w_heap, w_applies, trivial, trivial, w_case⟩
end start1
theorem witness_1 : WitnessClaimed_1 := ⟨start1.p0, start1.e0, start1.about1, start1.theMethod, start1.args0, start1.below0, start1.atStart⟩
end Jvm.Pilot.@@N@@
