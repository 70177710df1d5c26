import JvmDerived
import JvmDerived.Pilot.@@N@@Statement
import JvmDerived.Pilot.@@N@@Code
set_option linter.unusedVariables false
set_option linter.unusedSimpArgs false
set_option maxRecDepth 65536
set_option maxHeartbeats 40000000
namespace Jvm.RoadKit
open Sem ClassFile Op Lib Jvm.Stand Jvm.Free Jvm.LawKit
section New
variable {p : Program} {l : Launch} {e : Env} {R : Room} {s : State} {m : MethodId} {args : Array Value} {below : List Frame} {meth : Method} {c : Code} {T : State} {locs : List Loc} {cells slots : Nat}
theorem retI (X : Stand p l e R s m args below meth c T locs cells slots) (hx : p.tables.exec = Jvm.exec) {pc : Nat} {Ls : Array Slot} {z : Int32} {rest : List Value} (hret : meth.sig.returnType = some .int) (hd : decode c.code pc = .ok (.ireturn, 1)) {fs : List Frame}
    (hl : ∀ (f : JFrame) (acts : List Action), f.method = m → f.locked = none → f.entered = [] → (doReturn e (T.setTop f) acts (some (.int z))).1 = T.setFrames fs) : Steps p.tables e below (T.setTop (mkF m pc Ls (.int z :: rest))) (T.setFrames fs) := by
  have hm' : T.vm.method? m = some meth := X.method'
  have hn : narrow .int (.int z) = .int z := rfl
  show Steps p.tables e below (T.setTop { method := m, pc := pc, locals := Ls, stack := _ :: rest, locked := none }) _
  jvm_step X.here [X.here.top, hx, hd, hm', hret, hn]
  first | (intro acts; rw [hl _ acts rfl rfl rfl]) | rw [hl _ _ rfl rfl rfl]
  exact Steps.refl _
end New
end Jvm.RoadKit
namespace Jvm.Pilot.@@N@@
open Jvm Jvm.ClassFile Sem Op Lib Jvm.Free Jvm.Stand Jvm.LawKit Jvm.RoadKit Bundle Jvm.Pilot.@@N@@.Jvm.D
abbrev vr (a : Addr) : Slot := .val (.ref a)
abbrev vi (x : Int32) : Slot := .val (.int x)
abbrev vu : Slot := .unset
def own_B (b : Bool) : Int32 := if b then 1 else 0
abbrev vB (b : Bool) : Slot := .val (.int (own_B b))
abbrev dk (b : ByteArray) (pc : Nat) (i : Instr) (n : Nat) : Prop := decode b pc = .ok (i, n)
abbrev Sp (p : Program) (e : Env) (below : List Frame) (T : State) (F : JFrame) (t : State) : Prop := Steps p.tables e below (T.setTop F) t
abbrev Pr (p : Program) (e : Env) (below : List Frame) (s₁ : State) (E0 : JFrame) (T : State) (F : JFrame) : Prop := ∀ t, Steps p.tables e below (T.setTop F) t → Steps p.tables e below (s₁.setTop E0) t
abbrev Hw (a0 : Array Value) (Z : State) : Prop := ∀ d ∈ tables_1, d.before a0 Z = true
theorem own_w {a0 : Array Value} {Z : State} (hw : Hw a0 Z) (i : Nat) {d : Cond} (h : tables_1[i]? = some d) : d.before a0 Z = true := hw d (List.mem_of_getElem? h)
abbrev Mt (l : Launch) (y : MethodName) (bs : ByteArray) (ml : Nat) (rt : Option FieldType) (R : Room) (A : Array Value) (Z : State) (h0 : Heap) (Q : Option Value → Heap → List Loc → Prop) : Prop := MetFree l y (head1 [Cond.code y bs ml rt] R) (fun a U => a = A ∧ Z.Warmed39 U.vm ∧ U.heap = h0) (fun _ _ _ _ _ => True) (fun _ U o U' => ∃ v L, o = .returned v ∧ Q v U'.heap L ∧ FrameEnd U o U' L R.cells R.slots)
def Ot (p : Program) (e : Env) (below : List Frame) (s s₁ : State) (E0 : JFrame) (R : Room) (Q : Option Value → Heap → List Loc → Prop) : Prop := ∃ s₂ o, Steps p.tables e below (s₁.setTop E0) s₂ ∧ s₂.status = .running ∧ Ended s₂ below o ∧ ∃ v L, o = .returned v ∧ Q v s₂.heap L ∧ FrameEnd s o s₂ L R.cells R.slots
abbrev yIL : MethodName := ⟨"java/lang/AbstractStringBuilder", "isLatin1", "()Z"⟩
theorem own_go {l : Launch} {y : MethodName} {bs : ByteArray} {ml : Nat} {rt : Option FieldType} {R : Room} {A : Array Value} {Z : State} {h0 : Heap} {Q : Option Value → Heap → List Loc → Prop} {L0 : Array Slot} (n0 : Nat) (hp : plainFor y = true) (ef : ∀ m, entryFrame m A ml = mkF m 0 L0 [])
    (body : ∀ (p : Program) (e : Env) (s : State) (m : MethodId) (below : List Frame) (meth : Method) (c : Code) (s₁ : State) (E0 : JFrame), p.tables.exec = Jvm.exec → (∀ {pc : Nat} {i : Instr} {n : Nat}, dk bs pc i n → decode c.code pc = .ok (i, n)) → c.maxLocals = ml → s.vm.findClass y.cls = some m.cls → meth.name = y.name → meth.sig.returnType = rt → meth.locks = false → Z.Warmed39 s.vm → Stand p l e R s m A below meth c s₁ [] 0 0 → s₁.heap = h0 → Fr n0 [] → Pr p e below s₁ E0 s₁ (mkF m 0 L0 []) → Ot p e below s s₁ E0 R Q) : Mt l y bs ml rt R A Z h0 Q := by
  refine MetFree.of_bodySF hp hisR ?_
  intro p e s m args below meth c s₁ Bd hml0 hP hK
  obtain ⟨rfl, hZ, hh⟩ := hP
  exact body p e s m below meth c s₁ _ Bd.exec (fun d => hb Bd.bytes d) hml0 (findClass_of_methodNamed Bd.named) (name_of_methodNamed Bd.named Bd.method).1 Bd.returns Bd.notSynchronized hZ (Stand.of_body Bd) (by rw [← hh, Bd.state]; rfl) (Fr.nil n0) (fun t k => castTop (ef m) k)
section
variable {p : Program} {l : Launch} {e : Env} {R : Room} {s : State} {m : MethodId} {args : Array Value} {below : List Frame} {meth : Method} {c : Code} {T : State} {locs : List Loc} {cells slots : Nat} {Z : State} {h : Heap} {a0 : Array Value}
theorem own_end {s₁ : State} {E0 F : JFrame} {Q : Option Value → Heap → List Loc → Prop} (X : Stand p l e R s m args below meth c T locs cells slots) (hlk : meth.locks = false) {v : Option Value} (hv : meth.sig.returnType = none → v = none) (pre : Pr p e below s₁ E0 T F) (last : ∀ fs, (∀ (f : JFrame) (acts : List Action), f.method = m → f.locked = none → f.entered = [] → (doReturn e (T.setTop f) acts v).1 = T.setFrames fs) → Steps p.tables e below (T.setTop F) (T.setFrames fs)) (hQ : Q v T.heap locs) (hc : cells ≤ R.cells := by decide) (hs : slots ≤ R.slots := by decide) : Ot p e below s s₁ E0 R Q := by
  obtain ⟨fs, hr, hrun, hended, hW, hsame⟩ := X.leave hv hlk
  exact ⟨_, _, pre _ (last fs hr), hrun, hended, _, _, rfl, hQ, ⟨_, rfl⟩, hW, hsame.mono hc hs⟩
theorem own_hv {t : FieldType} {v : Option Value} (hret : meth.sig.returnType = some t) (q : meth.sig.returnType = none) : v = none := by rw [hret] at q; cases q
theorem own_ra (X : Stand p l e R s m args below meth c T locs cells slots) (hx : p.tables.exec = Jvm.exec) {pc : Nat} {Ls : Array Slot} {a : Addr} {t : FieldType} {rest : List Value} (hret : meth.sig.returnType = some t) (ht : t.isReference = true) (hd : decode c.code pc = .ok (.areturn, 1)) {fs : List Frame} (hl : ∀ (f : JFrame) (acts : List Action), f.method = m → f.locked = none → f.entered = [] → (doReturn e (T.setTop f) acts (some (.ref a))).1 = T.setFrames fs) : Steps p.tables e below (T.setTop (mkF m pc Ls (.ref a :: rest))) (T.setFrames fs) :=
  retOut X hx hret (by cases t <;> first | rfl | (simp [FieldType.isReference] at ht)) (Or.inr (Or.inr (Or.inr (Or.inr ⟨rfl, ht, rfl⟩)))) hd hl
theorem own_sz {g : JFrame} {n : Nat} (hml : c.maxLocals = n) (q : g.locals.size = n) : g.locals.size = c.maxLocals := q.trans hml.symm
theorem own_mr {g : JFrame} {rest : List Value} {W : Nat} (h0 : g.monitorRoom = 0) (hr : (rest.map fun v => v.category).sum = W) : 2 * g.monitorRoom + (rest.map fun v => v.category).sum ≤ W := by rw [h0, hr]; omega
theorem own_nfS {C : String} {y : MethodName} (hZ : Z.Warmed39 s.vm) (w : (Cond.selects C y y).before a0 Z = true) : NotFace s y := notFace_of_selects (args := #[]) (mvT hZ w)
section
variable {own C : String} {index k : Nat} {x y : MethodName} {bs : ByteArray} {ml : Nat} {rt : Option FieldType} {rm : Room} {A : Array Value} {Q : Option Value → Heap → List Loc → Prop} {g : JFrame} {argsL rest : List Value} {W : Nat} {b : Addr}
abbrev Nxt (p : Program) (l : Launch) (e : Env) (R : Room) (s : State) (m : MethodId) (args : Array Value) (below : List Frame) (meth : Method) (c : Code) (T : State) (locs : List Loc) (cells slots : Nat) (Q : Option Value → Heap → List Loc → Prop) (g : JFrame) (rest : List Value) (k : Nat) : Prop := ∃ (v : Option Value) (T' : State) (L : List Loc), Stand p l e R s m args below meth c T' (locs ++ L) cells slots ∧ Q v T'.heap L ∧ ∀ t, Steps p.tables e below (T'.setTop { g with pc := g.pc + k, stack := v.toList ++ rest }) t → Steps p.tables e below (T.setTop g) t
abbrev Dc (y : MethodName) (rm R : Room) (W ml : Nat) : Prop := (y.cls ≠ "java/lang/invoke/MethodHandle" ∧ y.cls ≠ "java/lang/invoke/VarHandle") ∧ rm.frames + 1 ≤ R.frames ∧ W + (ml + 11) + rm.locals ≤ R.locals
theorem own_cS (X : Stand p l e R s m args below meth c T locs cells slots) (hx : p.tables.exec = Jvm.exec) (hml : c.maxLocals = k) (hZ : Z.Warmed39 s.vm) (hown : s.vm.findClass own = some m.cls) (hM : Mt l y bs ml rt rm A Z h Q) (w1 : (Cond.methodLink own index y).before a0 Z = true) (w2 : (Cond.static y).before a0 Z = true) (w3 : (Cond.initialized y.cls).before a0 Z = true) (w4 : (Cond.code y bs ml rt).before a0 Z = true)
    (eT : T.heap = h) (hlen : ∀ sig, parseMethodDescriptor y.desc = some sig → argsL.length = sig.parameters.length) (hdg : decode c.code g.pc = .ok (.invokestatic index, 3)) (hg : g.method = m ∧ g.locals.size = k ∧ g.monitorRoom = 0 ∧ g.stack = argsL.reverse ++ rest ∧ (rest.map fun v => v.category).sum = W ∧ argsL.toArray = A := by exact ⟨rfl, rfl, rfl, rfl, rfl, rfl⟩) (hd : Dc y rm R W ml := by decide) (hc : cells + rm.cells ≤ R.cells := by decide) (hs : slots + rm.slots ≤ R.slots := by decide) :
    Nxt p l e R s m args below meth c T locs (cells + rm.cells) (slots + rm.slots) Q g rest 3 := by
  obtain ⟨g1, g2, g3, g4, g5, g6⟩ := hg
  obtain ⟨v, _, ⟨T', L', c', n'⟩, -, X', ⟨Lc, hQ, l1, y1, z1⟩, st⟩ := Jvm.LawKit.callS X hx hown (mvT hZ w1) (mvT hZ w2) (mvT hZ w3) (mvT hZ w4) hd.1 (backOf (W := W) hM hZ w4 w3 hd.2.1 hd.2.2) g1 (own_sz hml g2) hlen g4 (own_mr g3 g5) hdg (fun _ _ => ⟨g6, eT, hc, hs⟩)
  dsimp only [Pt.U, Pt.locs, Pt.cells, Pt.slots] at X' l1 y1 z1 st hQ
  subst l1 y1 z1
  exact ⟨v, T', Lc, X', hQ, st⟩
theorem own_cN (X : Stand p l e R s m args below meth c T locs cells slots) (hx : p.tables.exec = Jvm.exec) (hml : c.maxLocals = k) (hZ : Z.Warmed39 s.vm) (hown : s.vm.findClass own = some m.cls) (hM : Mt l y bs ml none rm A Z h Q) (w1 : (Cond.methodLink own index y).before a0 Z = true) (w2 : (Cond.instanceMethod y).before a0 Z = true) (w3 : (Cond.initialized y.cls).before a0 Z = true) (w4 : (Cond.code y bs ml none).before a0 Z = true) (hy1 : y.name = "<init>")
    (eT : T.heap = h) (hlen : ∀ sig, parseMethodDescriptor y.desc = some sig → argsL.length = sig.parameters.length) (hdg : decode c.code g.pc = .ok (.invokespecial index, 3)) (hg : g.method = m ∧ g.locals.size = k ∧ g.monitorRoom = 0 ∧ g.stack = argsL.reverse ++ .ref b :: rest ∧ (rest.map fun v => v.category).sum = W ∧ (.ref b :: argsL).toArray = A := by exact ⟨rfl, rfl, rfl, rfl, rfl, rfl⟩) (hd : Dc y rm R W ml := by decide) (hc : cells + rm.cells ≤ R.cells := by decide) (hs : slots + rm.slots ≤ R.slots := by decide) :
    Nxt p l e R s m args below meth c T locs (cells + rm.cells) (slots + rm.slots) Q g rest 3 := by
  obtain ⟨g1, g2, g3, g4, g5, g6⟩ := hg
  obtain ⟨v, _, ⟨T', L', c', n'⟩, -, X', ⟨Lc, hQ, l1, y1, z1⟩, st⟩ := X.specialBack hx hy1 hown (mvT hZ w1) (mvT hZ w2) (mvT hZ w4) hd.1 (backOf (W := W) hM hZ w4 w3 hd.2.1 hd.2.2) g1 (own_sz hml g2) (Steps.refl _) hlen g4 (own_mr g3 g5) hdg (fun _ _ => ⟨g6, eT, hc, hs⟩)
  dsimp only [Pt.U, Pt.locs, Pt.cells, Pt.slots] at X' l1 y1 z1 st hQ
  subst l1 y1 z1
  exact ⟨v, T', Lc, X', hQ, fun _ k => st.trans k⟩
theorem own_cV (X : Stand p l e R s m args below meth c T locs cells slots) (hx : p.tables.exec = Jvm.exec) (hml : c.maxLocals = k) (hZ : Z.Warmed39 s.vm) (hown : s.vm.findClass own = some m.cls) (hM : Mt l y bs ml rt rm A Z h Q) (w1 : (Cond.methodLink own index x).before a0 Z = true) (w2 : (Cond.instanceMethod y).before a0 Z = true) (w3 : (Cond.initialized y.cls).before a0 Z = true) (w4 : (Cond.code y bs ml rt).before a0 Z = true) (w5 : (Cond.declares x).before a0 Z = true) (w6 : (Cond.selects C x y).before a0 Z = true) (nf : NotFace s x) (E : Exa Z h b C)
    (eT : T.heap = h) (hlen : ∀ sig, parseMethodDescriptor x.desc = some sig → argsL.length = sig.parameters.length) (hdg : decode c.code g.pc = .ok (.invokevirtual index, 3)) (hg : g.method = m ∧ g.locals.size = k ∧ g.monitorRoom = 0 ∧ g.stack = argsL.reverse ++ .ref b :: rest ∧ (rest.map fun v => v.category).sum = W ∧ (.ref b :: argsL).toArray = A := by exact ⟨rfl, rfl, rfl, rfl, rfl, rfl⟩) (hd : Dc x rm R W ml := by decide) (hc : cells + rm.cells ≤ R.cells := by decide) (hs : slots + rm.slots ≤ R.slots := by decide) :
    Nxt p l e R s m args below meth c T locs (cells + rm.cells) (slots + rm.slots) Q g rest 3 := by
  obtain ⟨g1, g2, g3, g4, g5, g6⟩ := hg
  obtain ⟨cq, kq, qa, qb, qc⟩ := isOf hZ eT E
  obtain ⟨v, _, ⟨T', L', c', n'⟩, -, X', ⟨Lc, hQ, l1, y1, z1⟩, st⟩ := X.virtualBack hx hown (mvT hZ w1) (mvT hZ w5) nf (mvT hZ w6) (mvT hZ w2) hd.1 (backOf (W := W) hM hZ w4 w3 hd.2.1 hd.2.2) qa qc g1 (own_sz hml g2) (Steps.refl _) hlen g4 (own_mr g3 g5) hdg (fun _ _ => ⟨g6, eT, hc, hs⟩)
  dsimp only [Pt.U, Pt.locs, Pt.cells, Pt.slots] at X' l1 y1 z1 st hQ
  subst l1 y1 z1
  exact ⟨v, T', Lc, X', hQ, fun _ k => st.trans k⟩
theorem own_cU (X : Stand p l e R s m args below meth c T locs cells slots) (hx : p.tables.exec = Jvm.exec) (hml : c.maxLocals = k) (hZ : Z.Warmed39 s.vm) (hown : s.vm.findClass own = some m.cls) (hM : Mt l y bs ml rt rm A Z h Q) (w1 : (Cond.methodLink own index y).before a0 Z = true) (w2 : (Cond.instanceMethod y).before a0 Z = true) (w3 : (Cond.initialized y.cls).before a0 Z = true) (w4 : (Cond.code y bs ml rt).before a0 Z = true) (w5 : (Cond.sameMethod y.cls y.cls y.name y.desc).before a0 Z = true) (w6 : (Cond.superclass own y.cls).before a0 Z = true) (hn : y.name ≠ "<init>") (E : Exa Z h b C)
    (eT : T.heap = h) (hlen : ∀ sig, parseMethodDescriptor y.desc = some sig → argsL.length = sig.parameters.length) (hdg : decode c.code g.pc = .ok (.invokespecial index, 3)) (hg : g.method = m ∧ g.locals.size = k ∧ g.monitorRoom = 0 ∧ g.stack = argsL.reverse ++ .ref b :: rest ∧ (rest.map fun v => v.category).sum = W ∧ (.ref b :: argsL).toArray = A := by exact ⟨rfl, rfl, rfl, rfl, rfl, rfl⟩) (hd : Dc y rm R W ml := by decide) (hc : cells + rm.cells ≤ R.cells := by decide) (hs : slots + rm.slots ≤ R.slots := by decide) :
    Nxt p l e R s m args below meth c T locs (cells + rm.cells) (slots + rm.slots) Q g rest 3 := by
  obtain ⟨g1, g2, g3, g4, g5, g6⟩ := hg
  obtain ⟨v, _, ⟨T', L', c', n'⟩, -, X', ⟨Lc, hQ, l1, y1, z1⟩, st⟩ := superBack X hx hZ hown w1 w5 w2 w6 hn (backOf (W := W) hM hZ w4 w3 hd.2.1 hd.2.2) eT (Ins.self E) g1 (own_sz hml g2) w4 hlen g4 (own_mr g3 g5) hdg (fun _ _ => ⟨g6, eT, hc, hs⟩)
  dsimp only [Pt.U, Pt.locs, Pt.cells, Pt.slots] at X' l1 y1 z1 st hQ
  subst l1 y1 z1
  exact ⟨v, T', Lc, X', hQ, fun _ k => st.trans k⟩
theorem own_cI {n : Nat} (X : Stand p l e R s m args below meth c T locs cells slots) (hx : p.tables.exec = Jvm.exec) (hml : c.maxLocals = k) (hZ : Z.Warmed39 s.vm) (hown : s.vm.findClass own = some m.cls) (hM : Mt l y bs ml rt rm A Z h Q) (w1 : (Cond.methodLink own index x).before a0 Z = true) (w2 : (Cond.instanceMethod y).before a0 Z = true) (w3 : (Cond.initialized y.cls).before a0 Z = true) (w4 : (Cond.code y bs ml rt).before a0 Z = true) (w5 : (Cond.declares x).before a0 Z = true) (w6 : (Cond.selects C x y).before a0 Z = true) (w7 : (Cond.interfaceMethod x.cls x.cls x.name x.desc).before args s = true) (w8 : (Cond.publicMethod y).before a0 Z = true) (w9 : (Cond.unhidden C x.name x.desc).before a0 Z = true) (wA : (Cond.castable C x.cls).before a0 Z = true) (E : Exa Z h b C)
    (eT : T.heap = h) (hlen : ∀ sig, parseMethodDescriptor x.desc = some sig → argsL.length = sig.parameters.length) (hdg : decode c.code g.pc = .ok (.invokeinterface index n, 5)) (hg : g.method = m ∧ g.locals.size = k ∧ g.monitorRoom = 0 ∧ g.stack = argsL.reverse ++ .ref b :: rest ∧ (rest.map fun v => v.category).sum = W ∧ (.ref b :: argsL).toArray = A := by exact ⟨rfl, rfl, rfl, rfl, rfl, rfl⟩) (hd : Dc x rm R W ml := by decide) (hc : cells + rm.cells ≤ R.cells := by decide) (hs : slots + rm.slots ≤ R.slots := by decide) :
    Nxt p l e R s m args below meth c T locs (cells + rm.cells) (slots + rm.slots) Q g rest 5 := by
  obtain ⟨g1, g2, g3, g4, g5, g6⟩ := hg
  obtain ⟨cq, kq, qa, qb, qc⟩ := isOf hZ eT E
  obtain ⟨v, _, ⟨T', L', c', n'⟩, -, X', ⟨Lc, hQ, l1, y1, z1⟩, st⟩ := X.interfaceBack hx hown (mvT hZ w1) (mvT hZ w5) w7 (mvT hZ w6) (mvT hZ w2) (mvT hZ w8) (mvT hZ w9) (mvT hZ wA) hd.1 (backOf (W := W) hM hZ w4 w3 hd.2.1 hd.2.2) qa qb qc g1 (own_sz hml g2) (Steps.refl _) hlen g4 (own_mr g3 g5) hdg (fun _ _ => ⟨g6, eT, hc, hs⟩)
  dsimp only [Pt.U, Pt.locs, Pt.cells, Pt.slots] at X' l1 y1 z1 st hQ
  subst l1 y1 z1
  exact ⟨v, T', Lc, X', hQ, fun _ k => st.trans k⟩
end
end
theorem own_loop {G : Prop} (P : Nat → Prop) (step : ∀ k, P k → (∀ j, j < k → P j → G) → G) (k : Nat) (h : P k) : G := by
  induction k using Nat.strongRecOn with
  | _ k ih => exact step k h (fun j hj hP => ih j hj hP)
theorem own_ti {n : Nat} (h : n < 2147483648) : (Int32.ofNat n).toInt = n := by
  have e : Int32.size = 4294967296 := rfl
  rw [Int32.toInt_ofNat']
  exact Int.bmod_eq_of_le (by omega) (by omega)
theorem own_ltT {a b : Nat} (h : a < b) (hb : b < 2147483648) : Int32.ofNat a < Int32.ofNat b := by
  rw [Int32.lt_iff_toInt_lt, own_ti hb, own_ti (by omega)]; omega
theorem own_ltF {a b : Nat} (h : ¬ a < b) (ha : a < 2147483648) : ¬ Int32.ofNat a < Int32.ofNat b := by
  rw [Int32.lt_iff_toInt_lt, own_ti ha, own_ti (by omega)]; omega
theorem own_eqT {a b : Nat} (h : a = b) : Int32.ofNat a = Int32.ofNat b := by rw [h]
theorem own_eqF {a b : Nat} (h : ¬ a = b) (ha : a < 2147483648) (hb : b < 2147483648) : ¬ Int32.ofNat a = Int32.ofNat b := fun q => by
  have := congrArg Int32.toInt q
  rw [own_ti ha, own_ti hb] at this; omega
theorem own_a (a b : Nat) : Int32.ofNat a + Int32.ofNat b = Int32.ofNat (a + b) := (Int32.ofNat_add a b).symm
theorem own_s {a b : Nat} (h : b ≤ a) (ha : a < 2147483648) : Int32.ofNat a - Int32.ofNat b = Int32.ofNat (a - b) := by
  have h1 := c_isub (Int32.ofNat a) (Int32.ofNat b)
  have h2 := rng32 (Int32.ofNat a - Int32.ofNat b)
  rw [own_ti ha, own_ti (show b < 2147483648 by omega)] at h1
  rw [← Int32.toInt_inj, own_ti (show a - b < 2147483648 by omega)]; omega
theorem own_shl {a : Nat} (h : a < 1000) : Int32.ofNat a <<< ((1 : Int32) &&& 31) = Int32.ofNat (2 * a) := by
  have h1 := c_ishl (Int32.ofNat a) 1 1 (by decide)
  have h2 := rng32 (Int32.ofNat a <<< ((1 : Int32) &&& 31))
  rw [own_ti (show a < 2147483648 by omega)] at h1
  rw [← Int32.toInt_inj, own_ti (show 2 * a < 2147483648 by omega)]; omega
theorem own_shr {a : Nat} (h : a < 1000) : Int32.ofNat (2 * a) >>> ((1 : Int32) &&& 31) = Int32.ofNat a := by
  have h1 := c_ishr (Int32.ofNat (2 * a)) 1 1 (by decide)
  rw [own_ti (show 2 * a < 2147483648 by omega)] at h1
  rw [← Int32.toInt_inj, own_ti (show a < 2147483648 by omega)]; omega
theorem own_shr0 (x : Int32) : x >>> ((0 : Int32) &&& 31) = x := by
  have h1 := c_ishr x 0 0 (by decide)
  rw [← Int32.toInt_inj]; omega
theorem own_nc {n : Nat} (h : n < 2147483648) : (Int32.ofNat n).toNatClampNeg = n := by
  have e2 : (Int32.ofNat n).toNatClampNeg = (Int32.ofNat n).toInt.toNat := rfl
  rw [e2, own_ti h]; omega
theorem own_nn {n : Nat} (h : n < 2147483648) : ¬ Int32.ofNat n < 0 := own_ltF (b := 0) (by omega) h
/-- the array at a holds f -/
def Ay (Z : State) (h : Heap) (a : Addr) (ty : FieldType) (N : Nat) (f : Nat → Int32) : Prop := N ≤ 100 ∧ ∃ cl : Cell, Arr Z h a cl ty ∧ cl.slots.size = N ∧ ∀ i, i < N → cl.slots[i]? = some (.int (f i)) ∧ fits ty (.int (f i)) = true
section
variable {Z : State} {h h' : Heap} {a b : Addr} {ty : FieldType} {N : Nat} {f : Nat → Int32}
theorem Ay.lt (F : Ay Z h a ty N f) : a < h.size := by obtain ⟨-, c, A, -⟩ := F; exact A.lt
theorem Ay.ext (F : Ay Z h a ty N f) (E : Ext h h') : Ay Z h' a ty N f := by obtain ⟨q, c, A, r⟩ := F; exact ⟨q, c, A.ext E, r⟩
theorem Ay.other {sl : Nat} {v : Value} (F : Ay Z h b ty N f) (W : Wr h h' a sl v) (q : b ≠ a) : Ay Z h' b ty N f := by obtain ⟨q0, c, A, r⟩ := F; exact ⟨q0, c, A.other W q, r⟩
theorem Ay.keep {ws : List Addr} (F : Ay Z h a ty N f) (K : Keep h h' ws) (q : a ∉ ws) : Ay Z h' a ty N f := by obtain ⟨q0, c, A, r⟩ := F; exact ⟨q0, c, ⟨K.2.1 a c A.1 q, A.2⟩, r⟩
theorem Ay.congr {g : Nat → Int32} (F : Ay Z h a ty N f) (q : ∀ i, i < N → f i = g i) : Ay Z h a ty N g := by
  obtain ⟨q0, c, A, S, H⟩ := F
  exact ⟨q0, c, A, S, fun i hi => by rw [← q i hi]; exact H i hi⟩
theorem own_in {cl : Cell} {n : Nat} (q0 : N ≤ 100) (S : cl.slots.size = N) (hn : n < N) : ¬ (Int32.ofNat n < 0 ∨ cl.slots.size ≤ (Int32.ofNat n).toNatClampNeg) := by
  rw [S, own_nc (by omega)]
  exact fun q => q.elim (own_nn (by omega)) (by omega)
theorem own_at {cl : Cell} {n : Nat} (q0 : N ≤ 100) (H : ∀ i, i < N → cl.slots[i]? = some (.int (f i)) ∧ fits ty (.int (f i)) = true) (hn : n < N) : cl.slots[(Int32.ofNat n).toNatClampNeg]? = some (.int (f n)) := by
  rw [own_nc (by omega)]; exact (H n hn).1
theorem Ay.put {cl : Cell} {n : Nat} {v : Int32} (q0 : N ≤ 100) (A : Arr Z h a cl ty) (S : cl.slots.size = N) (H : ∀ i, i < N → cl.slots[i]? = some (.int (f i)) ∧ fits ty (.int (f i)) = true) (hn : n < N) (W : Wr h h' a (Int32.ofNat n).toNatClampNeg (.int v)) (hv : fits ty (.int v) = true) : Ay Z h' a ty N (fun i => if i = n then v else f i) := by
  rw [own_nc (by omega)] at W
  refine ⟨q0, _, A.same W, by rw [sz_set]; exact S, fun i hi => ?_⟩
  by_cases q : i = n
  · subst q
    simp [Cell.setSlot, S, hi, hv]
  · have q' : n ≠ i := fun z => q z.symm
    simp only [Cell.setSlot, if_neg q]
    rw [Array.getElem?_setIfInBounds_ne q']
    exact H i hi
theorem own_len {cl : Cell} (S : cl.slots.size = N) : cl.slots.size.toInt32 = Int32.ofNat N := by rw [S]
theorem Ay.arv (F : Ay Z h a ty N f) : ∃ k, Arv Z h a k ty (Int32.ofNat N) ((List.range N).map fun i => Value.int (f i)) (.int 0) := by
  obtain ⟨q0, c, A, S, H⟩ := F
  have e : (Int32.ofNat N).toNatClampNeg = N := own_nc (by omega)
  have g : ∀ i, i < c.slots.size → ((List.range N).map fun i => Value.int (f i)).getD i (.int 0) = .int (f i) := fun i hi => by
    rw [S] at hi
    simp [List.getD_eq_getElem?_getD, hi]
  exact ⟨c.cls, c, A, rfl, by rw [e]; exact S, own_nn (by omega), fun i hi => by rw [g i hi]; exact (H i (S ▸ hi)).1, fun i hi => by rw [g i hi]; exact (H i (S ▸ hi)).2⟩
theorem Ay.of_arv {k : ClassId} {vs : List Value} {dv : Value} (q0 : N ≤ 100) (F : Arv Z h a k ty (Int32.ofNat N) vs dv) (g : ∀ i, i < N → vs.getD i dv = .int (f i)) : Ay Z h a ty N f := by
  obtain ⟨c, A, -, S, -, H, G⟩ := F
  rw [own_nc (by omega)] at S
  exact ⟨q0, c, A, S, fun i hi => ⟨by rw [← g i hi]; exact H i (S ▸ hi), by rw [← g i hi]; exact G i (S ▸ hi)⟩⟩
theorem Ay.new {k : ClassId} (q0 : N ≤ 100) (A : Arr Z h a (newA k ty (Int32.ofNat N)) ty) (hd : defaultValue ty = .int 0) : Ay Z h a ty N (fun _ => 0) := by
  refine Ay.of_arv q0 (Arv.new A (own_nn (by omega))) fun i _ => ?_
  rw [hd]; rfl
end
section
variable {p : Program} {l : Launch} {e : Env} {R : Room} {s : State} {m : MethodId} {args : Array Value} {below : List Frame} {meth : Method} {c : Code} {T : State} {locs : List Loc} {cells slots : Nat} {Z : State} {h : Heap} {a b : Addr}
theorem own_cp (X : Stand p l e R s m args below meth c T locs cells slots) (hx : p.tables.exec = Jvm.exec) (hZ : Z.Warmed39 s.vm) {a0 : Array Value} {own : String} {index : Nat} (hown : s.vm.findClass own = some m.cls)
    (w1 : (Cond.methodLink own index Jvm.Stand.acN).before a0 Z = true) (w2 : (Cond.native Jvm.Stand.acN).before a0 Z = true) (w3 : (Cond.static Jvm.Stand.acN).before a0 Z = true) (w4 : (Cond.initialized "java/lang/System").before a0 Z = true) (eT : T.heap = h)
    {N M sp dp nn : Nat} {f g : Nat → Int32} (A : Ay Z h a .byte N f) (B : Ay Z h b .byte M g) (h4 : sp + nn ≤ N) (h5 : dp + nn ≤ M) {n0 : Nat} (Nf : Fr n0 locs) (ge : n0 ≤ b)
    {g' : JFrame} (hg : g'.method = m) (hsize : g'.locals.size = c.maxLocals) {rest : List Value} (hs : g'.stack = .int (Int32.ofNat nn) :: .int (Int32.ofNat dp) :: .ref b :: .int (Int32.ofNat sp) :: .ref a :: rest) (hd : decode c.code g'.pc = .ok (.invokestatic index, 3))
    (hf : 1 ≤ R.frames) {W : Nat} (hW : 2 * g'.monitorRoom + (rest.map fun v => v.category).sum ≤ W) (hlo : W + (nativeFrameWords "java/lang/System" "arraycopy" 5 + 11) ≤ R.locals) :
    ∃ T' h' L, Stand p l e R s m args below meth c T' L cells slots ∧ T'.heap = h' ∧ Fr n0 L ∧ Keep h h' [b] ∧ Ay Z h' b .byte M (fun i => if dp ≤ i ∧ i < dp + nn then f (sp + (i - dp)) else g i) ∧
      ∀ target, Steps p.tables e below (T'.setTop { g' with pc := g'.pc + 3, stack := rest }) target → Steps p.tables e below (T.setTop g') target := by
  obtain ⟨kA, A'⟩ := A.arv
  obtain ⟨kB, B'⟩ := B.arv
  have qA := A.1
  have qB := B.1
  have e1 : (Int32.ofNat sp).toNatClampNeg = sp := own_nc (by omega)
  have e2 : (Int32.ofNat dp).toNatClampNeg = dp := own_nc (by omega)
  have e3 : (Int32.ofNat nn).toNatClampNeg = nn := own_nc (by omega)
  have e4 : (Int32.ofNat N).toNatClampNeg = N := own_nc (by omega)
  have e5 : (Int32.ofNat M).toNatClampNeg = M := own_nc (by omega)
  obtain ⟨T', h', L, X', eT', N', K, C, st⟩ := cpA X hx hZ hown w1 w2 w3 w4 eT A' B' (Or.inl ⟨rfl, rfl⟩) (own_nn (by omega)) (own_nn (by omega)) (own_nn (by omega)) (by rw [e1, e3, e4]; exact h4) (by rw [e2, e3, e5]; exact h5) rfl (by rw [e2, e3]; simpa using h5) Nf ge hg hsize hs hd hf hW hlo
  refine ⟨T', h', L, X', eT', N', K, Ay.of_arv qB C fun i hi => ?_, st⟩
  rw [e1, e2, e3]
  have l1 : (((List.range M).map fun i => Value.int (g i)).take dp).length = dp := by simp; omega
  have l2 : ((List.range nn).map fun i => ((List.range N).map fun i => Value.int (f i)).getD (sp + i) (.int 0)).length = nn := by simp
  simp only [List.getD_eq_getElem?_getD]
  by_cases c1 : i < dp
  · rw [if_neg (by omega), List.append_assoc, List.getElem?_append_left (by omega), List.getElem?_take_of_lt c1]
    simp [hi]
  · by_cases c2 : i < dp + nn
    · rw [if_pos ⟨by omega, c2⟩, List.getElem?_append_left (by rw [List.length_append, l1, List.length_map, List.length_range]; omega), List.getElem?_append_right (by omega), l1]
      simp [show i - dp < nn by omega, show sp + (i - dp) < N by omega]
    · rw [if_neg (by omega), List.getElem?_append_right (by rw [List.length_append, l1, List.length_map, List.length_range]; omega), List.length_append, l1, List.length_map, List.length_range, List.getElem?_drop, show dp + nn + (i - (dp + nn)) = i by omega]
      simp [hi]
theorem own_clone (X : Stand p l e R s m args below meth c T locs cells slots) (hx : p.tables.exec = Jvm.exec) (hZ : Z.Warmed39 s.vm) {a0 : Array Value} {own ad : String} {index : Nat} (hown : s.vm.findClass own = some m.cls)
    (w1 : (Cond.methodLink own index ⟨ad, "clone", "()Ljava/lang/Object;"⟩).before a0 Z = true) (w2 : (Cond.sameMethod ad "java/lang/Object" "clone" "()Ljava/lang/Object;").before a0 Z = true) (w3 : (Cond.native ⟨"java/lang/Object", "clone", "()Ljava/lang/Object;"⟩).before a0 Z = true)
    (w4 : (Cond.instanceMethod ⟨"java/lang/Object", "clone", "()Ljava/lang/Object;"⟩).before a0 Z = true) (w5 : (Cond.selects ad ⟨ad, "clone", "()Ljava/lang/Object;"⟩ ⟨"java/lang/Object", "clone", "()Ljava/lang/Object;"⟩).before a0 Z = true) (w6 : (Cond.castable ad "java/lang/Cloneable").before a0 Z = true)
    (eT : T.heap = h) {N : Nat} {f : Nat → Int32} (F : Ay Z h a .byte N f) (E : Exa Z h a ad) {g : JFrame} (hg : g.method = m) (hsize : g.locals.size = c.maxLocals) {rest : List Value} (hst : g.stack = .ref a :: rest) (hd : decode c.code g.pc = .ok (.invokevirtual index, 3))
    (hf : 1 ≤ R.frames) {W cap : Nat} (hW : 2 * g.monitorRoom + (rest.map fun v => v.category).sum ≤ W) (hl : W + 14 ≤ R.locals) (hcap : N ≤ cap) (hc : cells + 1 ≤ R.cells) (hsl : slots + cap ≤ R.slots) :
    ∃ T' h', Stand p l e R s m args below meth c T' locs (cells + 1) (slots + cap) ∧ T'.heap = h' ∧ Ext h h' ∧ Ay Z h' h.size .byte N f ∧ Exa Z h' h.size ad ∧
      ∀ target, Steps p.tables e below (T'.setTop { g with pc := g.pc + 3, stack := .ref h.size :: rest }) target → Steps p.tables e below (T.setTop g) target := by
  obtain ⟨k, F'⟩ := F.arv
  have q := F.1
  obtain ⟨T', h', X', e', ex, A', E', st⟩ := cloneH X hx hZ hown w1 w2 w3 w4 w5 w6 eT (F'.arh) E hg hsize hst hd hf hW hl (cap := cap) (by rw [own_nc (by omega)]; exact hcap) hc hsl
  refine ⟨T', h', X', e', ex, Ay.of_arv q (k := k) (vs := (List.range N).map fun i => Value.int (f i)) (dv := .int 0) A' fun i hi => ?_, E', st⟩
  simp [List.getD_eq_getElem?_getD, hi]
end
/-- a char -/
def Chr (c : Int32) : Prop := 0 ≤ c.toInt ∧ c.toInt ≤ 65535
abbrev own_b (c : Int32) : Int32 := nar .byte (c.toInt8.toInt32)
abbrev own_lo (c : Int32) : Int32 := nar .byte ((c >>> ((0 : Int32) &&& 31)).toInt8.toInt32)
abbrev own_hi (c : Int32) : Int32 := nar .byte ((c >>> ((8 : Int32) &&& 31)).toInt8.toInt32)
abbrev own_rb (x : Int32) : Int32 := nar .char ((x &&& (255 : Int32)).toUInt32.toUInt16.toUInt32.toInt32)
abbrev own_gc (x y : Int32) : Int32 := nar .char ((((x &&& (255 : Int32)) <<< ((0 : Int32) &&& 31)) ||| ((y &&& (255 : Int32)) <<< ((8 : Int32) &&& 31))).toUInt32.toUInt16.toUInt32.toInt32)
theorem own_chr (x : Int32) : Chr (nar .char x) := by
  have h := c_i2c x
  have e : nar .char x = x.toUInt32.toUInt16.toUInt32.toInt32 := rfl
  unfold Chr; rw [e]; omega
theorem own_narc {c : Int32} (h : Chr c) : nar .char c = c := by
  have h1 := c_i2c c
  have e : nar .char c = c.toUInt32.toUInt16.toUInt32.toInt32 := rfl
  unfold Chr at h
  rw [e, ← Int32.toInt_inj]; omega
theorem own_band (x : Int32) : ((own_b x) &&& (255 : Int32)).toInt = x.toInt % 256 := by
  have h2 := c_i2b x
  have h3 := c_i2b (x.toInt8.toInt32)
  have h4' : own_b x = (x.toInt8.toInt32).toInt8.toInt32 := rfl
  have h4 : ((x.toInt8.toInt32).toInt8.toInt32 &&& (255 : Int32)).toInt = ((x.toInt8.toInt32).toInt8.toInt32).toInt % (2 ^ 8 : Nat) := c_mask _ 255 8 (by decide) (by decide)
  rw [h4', h4]
  omega
theorem own_b255 {c : Int32} (h : Chr c) (h8 : c.toInt ≤ 255) : (own_b c) &&& (255 : Int32) = c := by
  have h1 := own_band c
  unfold Chr at h
  rw [← Int32.toInt_inj]; omega
theorem own_rbb {c : Int32} (h : Chr c) (h8 : c.toInt ≤ 255) : own_rb (own_b c) = c := by
  have h1 : own_rb (own_b c) = nar .char (((own_b c) &&& (255 : Int32)).toUInt32.toUInt16.toUInt32.toInt32) := rfl
  rw [h1, own_b255 h h8]
  have h2 : c.toUInt32.toUInt16.toUInt32.toInt32 = c := own_narc h
  rw [h2]; exact own_narc h
theorem own_gcc {c : Int32} (h : Chr c) : own_gc (own_lo c) (own_hi c) = c := by
  have a1 : ((own_lo c) &&& (255 : Int32)).toInt = (c >>> ((0 : Int32) &&& 31)).toInt % 256 := own_band _
  have a2 : ((own_hi c) &&& (255 : Int32)).toInt = (c >>> ((8 : Int32) &&& 31)).toInt % 256 := own_band _
  rw [own_shr0] at a1
  have a3 := c_ishr c 8 8 (by decide)
  obtain ⟨x, ex⟩ : ∃ x, x = (own_lo c) &&& (255 : Int32) := ⟨_, rfl⟩
  obtain ⟨y, ey⟩ : ∃ y, y = (own_hi c) &&& (255 : Int32) := ⟨_, rfl⟩
  rw [← ex] at a1
  rw [← ey] at a2
  show nar .char (((((own_lo c) &&& (255 : Int32)) <<< ((0 : Int32) &&& 31)) ||| (((own_hi c) &&& (255 : Int32)) <<< ((8 : Int32) &&& 31))).toUInt32.toUInt16.toUInt32.toInt32) = c
  rw [← ex, ← ey]
  have b1 := c_ishl x 0 0 (by decide)
  have b2 := c_ishl y 8 8 (by decide)
  have r1 := rng32 (x <<< ((0 : Int32) &&& 31))
  have r2 := rng32 (y <<< ((8 : Int32) &&& 31))
  have r3 := rng32 ((y <<< ((8 : Int32) &&& 31)) ||| (x <<< ((0 : Int32) &&& 31)))
  unfold Chr at h
  have q2 : y.toInt = c.toInt / 256 := by omega
  have q3 : (x <<< ((0 : Int32) &&& 31)).toInt = x.toInt := by omega
  have q4 : (y <<< ((8 : Int32) &&& 31)).toInt = 256 * y.toInt := by omega
  have o := c_or (y <<< ((8 : Int32) &&& 31)) (x <<< ((0 : Int32) &&& 31)) 8 (by decide) 256 (by decide) (by omega) (by omega) (by omega)
  have e : (x <<< ((0 : Int32) &&& 31)) ||| (y <<< ((8 : Int32) &&& 31)) = (y <<< ((8 : Int32) &&& 31)) ||| (x <<< ((0 : Int32) &&& 31)) := Int32.or_comm _ _
  rw [e]
  have w : (y <<< ((8 : Int32) &&& 31)) ||| (x <<< ((0 : Int32) &&& 31)) = c := by rw [← Int32.toInt_inj]; omega
  rw [w]
  have h2 : c.toUInt32.toUInt16.toUInt32.toInt32 = c := own_narc h
  rw [h2]; exact own_narc h
theorem own_a1 (a : Nat) : Int32.ofNat a + (1 : Int32) = Int32.ofNat (a + 1) := own_a a 1
theorem own_0a (a : Nat) : (0 : Int32) + Int32.ofNat a = Int32.ofNat a := by rw [Int32.zero_add]
theorem own_s1 {a : Nat} (h : 1 ≤ a) (ha : a < 2147483648) : Int32.ofNat a - (1 : Int32) = Int32.ofNat (a - 1) := own_s (b := 1) h ha
theorem own_s0 (a : Nat) : Int32.ofNat a - (0 : Int32) = Int32.ofNat a := by rw [Int32.sub_zero]
theorem own_neY {Z : State} {h : Heap} {a b : Addr} {C : String} {a0 : Array Value} {k : Nat} {ty : FieldType} {N : Nat} {f : Nat → Int32} (E : Exa Z h a C) (wi : (Cond.instantiable C k).before a0 Z = true) (F : Ay Z h b ty N f) : a ≠ b := by
  obtain ⟨-, c, A, -⟩ := F
  exact ne_arr E wi A
theorem own_same {Z : State} {a0 : Array Value} {y y' : MethodName} {C : String} (hy : y.cls ≠ "java/lang/invoke/MethodHandle" ∧ y.cls ≠ "java/lang/invoke/VarHandle") (h : (Cond.declares y).before a0 Z = true) (hs : (Cond.selects C y' y').before a0 Z = true) (hi : (Cond.instanceMethod y').before a0 Z = true) (hc : y'.cls = y.cls) : (Cond.sameMethod y.cls y.cls y.name y.desc).before a0 Z = true := by
  obtain ⟨m, meth, h1, -, -, -⟩ := Cond.declares_spec h
  obtain ⟨m', meth', g1, -, -, -⟩ := Cond.instanceMethod_spec hi
  have f1 := findClass_of_methodNamed h1
  have f2 := findClass_of_methodNamed g1
  rw [hc, f1] at f2
  obtain ⟨k, k1, k2⟩ := notFace_of_selects hs m' g1
  rw [← Option.some.inj f2] at k1
  have h2 := State.methodFound?_of_named h1 hy
  have h1' : Z.methodNamed? ⟨y.cls, y.name, y.desc⟩ = some m := h1
  simp [Cond.before, Cond.holds, Cond.value, h1', h2, f1, k1, k2]
theorem own_decl {Z : State} {a0 : Array Value} {y : MethodName} {bytes : ByteArray} {maxL : Nat} {ret : Option FieldType} (hi : (Cond.instanceMethod y).before a0 Z = true) (hc : (Cond.code y bytes maxL ret).before a0 Z = true) : (Cond.declares y).before a0 Z = true := by
  obtain ⟨m, meth, g1, g2, g3, -⟩ := Cond.instanceMethod_spec hi
  obtain ⟨meth', c, q1, -, -, -, -, -, -, q2⟩ := Cond.code_spec g1 hc
  cases g2.symm.trans q1
  simp [Cond.before, Cond.holds, Cond.value, g1, g2, g3, q2]
/-- what the sheet says of the JDK's statics -/
def own_St (Z : State) : Prop := ∃ (G1 : Int32) (v2 v3 : Value), ¬ G1 = (0 : Int32) ∧ v2.isRef = true ∧ v3.isRef = true ∧ Sta Z Z.heap "java/lang/String" "COMPACT_STRINGS" "Z" (.int G1) ∧ Sta Z Z.heap "jdk/internal/util/Preconditions" "SIOOBE_FORMATTER" "Ljava/util/function/BiFunction;" v2 ∧ Sta Z Z.heap "jdk/internal/util/Preconditions" "IOOBE_FORMATTER" "Ljava/util/function/BiFunction;" v3 ∧ Sta Z Z.heap "java/lang/StringUTF16" "$assertionsDisabled" "Z" (.int (1 : Int32)) ∧ Sta Z Z.heap "java/lang/StringUTF16" "HI_BYTE_SHIFT" "I" (.int (0 : Int32)) ∧ Sta Z Z.heap "java/lang/StringUTF16" "LO_BYTE_SHIFT" "I" (.int (8 : Int32))
theorem own_tb {g f : Nat → Int32} {i : Nat} (hg : ∀ j, j < i → g (2 * j) = own_lo (f j) ∧ g (2 * j + 1) = own_hi (f j)) : ∀ j, j < i + 1 → (fun x => if x = ((2 * i) + 1) then own_hi (f i) else (fun x => if x = (2 * i) then own_lo (f i) else g x) x) (2 * j) = own_lo (f j) ∧ (fun x => if x = ((2 * i) + 1) then own_hi (f i) else (fun x => if x = (2 * i) then own_lo (f i) else g x) x) (2 * j + 1) = own_hi (f j) := by
  intro j hj
  dsimp only
  by_cases q : j = i
  · subst q
    rw [if_neg (by omega), if_pos rfl, if_pos rfl]; exact ⟨rfl, rfl⟩
  · rw [if_neg (by omega), if_neg (by omega), if_neg (by omega), if_neg (by omega)]; exact hg j (by omega)
theorem own_cc {g f : Nat → Int32} {i : Nat} (hg : ∀ j, j < i → g j = own_b (f j) ∧ ¬ (255 : Int32) < f j) (hc : ¬ (255 : Int32) < f i) : ∀ j, j < i + 1 → (fun x => if x = i then own_b (f i) else g x) j = own_b (f j) ∧ ¬ (255 : Int32) < f j := by
  intro j hj
  dsimp only
  by_cases q : j = i
  · subst q; rw [if_pos rfl]; exact ⟨rfl, hc⟩
  · rw [if_neg q]; exact hg j (by omega)
def own_cfa (n N : Nat) : Int32 := nar .byte ((((Int32.ofNat n - Int32.ofNat N).toUInt32 >>> ((31 : Int32) &&& 31).toUInt32).toInt32).toInt8.toInt32)
theorem own_cfa0 (n : Nat) : own_cfa n n = 0 := by
  unfold own_cfa
  have e : Int32.ofNat n - Int32.ofNat n = 0 := Int32.sub_self _
  rw [e]; decide
theorem own_cfa1 {n : Nat} (h : 0 < n) (h5 : n ≤ 5) : own_cfa n (2 * n) = 1 := by
  have : n = 1 ∨ n = 2 ∨ n = 3 ∨ n = 4 ∨ n = 5 := by omega
  rcases this with rfl | rfl | rfl | rfl | rfl <;> decide
def EL (f : Nat → Int32) (l : List Int32) : Prop := ∀ i, i < l.length → f i = own_b (l.getD i 0) ∧ (l.getD i 0).toInt ≤ 255
def EU (f : Nat → Int32) (l : List Int32) : Prop := ∀ i, i < l.length → f (2 * i) = own_lo (l.getD i 0) ∧ f (2 * i + 1) = own_hi (l.getD i 0)
def Chs (l : List Int32) : Prop := ∀ i, i < l.length → Chr (l.getD i 0)
def Cod (cd : Int32) (N : Nat) (f : Nat → Int32) (cap : Nat) (l : List Int32) : Prop := Chs l ∧ (cd = 0 → N = cap ∧ EL f l) ∧ (¬ cd = 0 → cd = 1 ∧ N = 2 * cap ∧ EU f l)
theorem own_le255 {x : Int32} : ¬ (255 : Int32) < x ↔ x.toInt ≤ 255 := by
  have e : (255 : Int32).toInt = 255 := by decide
  rw [Int32.lt_iff_toInt_lt, e]; omega
/-- a String of the chars l, its bytes at t -/
def Us (Z : State) (h : Heap) (a t : Addr) (l : List Int32) : Prop := ∃ (cd : Int32) (N : Nat) (f : Nat → Int32), Exa Z h a "java/lang/String" ∧ Fld Z h a "java/lang/String" "coder" "B" (.int cd) ∧ Fld Z h a "java/lang/String" "value" "[B" (.ref t) ∧ Ay Z h t .byte N f ∧ Cod cd N f l.length l ∧ l.length ≤ 5
/-- a StringBuilder with the chars l, its bytes at t -/
def Sb (Z : State) (h : Heap) (a t : Addr) (cap : Nat) (l : List Int32) : Prop := ∃ (cd ml : Int32) (N : Nat) (f : Nat → Int32), Exa Z h a "java/lang/StringBuilder" ∧ Fld Z h a "java/lang/AbstractStringBuilder" "coder" "B" (.int cd) ∧ Fld Z h a "java/lang/AbstractStringBuilder" "value" "[B" (.ref t) ∧ Fld Z h a "java/lang/AbstractStringBuilder" "count" "I" (.int (Int32.ofNat l.length)) ∧ Fld Z h a "java/lang/AbstractStringBuilder" "maybeLatin1" "Z" (.int ml) ∧ Ay Z h t .byte N f ∧ Exa Z h t "[B" ∧ Cod cd N f cap l ∧ l.length ≤ cap ∧ cap ≤ 5
section
variable {Z : State} {h h' : Heap} {a t : Addr} {l : List Int32} {cap : Nat} {ws : List Addr}
theorem Us.lt (F : Us Z h a t l) : a < h.size := by obtain ⟨_, _, _, E, -⟩ := F; exact E.lt
theorem Us.ltt (F : Us Z h a t l) : t < h.size := by obtain ⟨_, _, _, -, -, -, Y, -⟩ := F; exact Y.lt
theorem Us.exa (F : Us Z h a t l) : Exa Z h a "java/lang/String" := by obtain ⟨_, _, _, E, -⟩ := F; exact E
theorem Us.ext (F : Us Z h a t l) (X : Ext h h') : Us Z h' a t l := by obtain ⟨cd, N, f, E, C, V, Y, r⟩ := F; exact ⟨cd, N, f, E.ext X, C.ext X, V.ext X, Y.ext X, r⟩
theorem Us.keep (F : Us Z h a t l) (K : Keep h h' ws) (q : a ∉ ws) (q' : t ∉ ws) : Us Z h' a t l := by obtain ⟨cd, N, f, E, C, V, Y, r⟩ := F; exact ⟨cd, N, f, E.keep K, C.keep K q, V.keep K q, Y.keep K q', r⟩
theorem Sb.lt (F : Sb Z h a t cap l) : a < h.size := by obtain ⟨_, _, _, _, E, -⟩ := F; exact E.lt
theorem Sb.ltt (F : Sb Z h a t cap l) : t < h.size := by obtain ⟨_, _, _, _, -, -, -, -, -, Y, -⟩ := F; exact Y.lt
theorem Sb.exa (F : Sb Z h a t cap l) : Exa Z h a "java/lang/StringBuilder" := by obtain ⟨_, _, _, _, E, -⟩ := F; exact E
theorem Sb.ext (F : Sb Z h a t cap l) (X : Ext h h') : Sb Z h' a t cap l := by obtain ⟨cd, ml, N, f, E, C, V, D, M, Y, E2, r⟩ := F; exact ⟨cd, ml, N, f, E.ext X, C.ext X, V.ext X, D.ext X, M.ext X, Y.ext X, E2.ext X, r⟩
theorem Sb.keep (F : Sb Z h a t cap l) (K : Keep h h' ws) (q : a ∉ ws) (q' : t ∉ ws) : Sb Z h' a t cap l := by obtain ⟨cd, ml, N, f, E, C, V, D, M, Y, E2, r⟩ := F; exact ⟨cd, ml, N, f, E.keep K, C.keep K q, V.keep K q, D.keep K q, M.keep K q, Y.keep K q', E2.keep K, r⟩
end
theorem own_cod0 {n : Nat} {f g : Nat → Int32} {l : List Int32} (hc : Chs l) (hn : n = l.length) (hf : ∀ i, i < n → f i = l.getD i 0) (hg : ∀ j, j < n → g j = own_b (f j) ∧ ¬ (255 : Int32) < f j) : Cod (own_cfa n n) n g n l := by
  rw [own_cfa0]
  refine ⟨hc, fun _ => ⟨rfl, fun i hi => ?_⟩, fun q => absurd rfl q⟩
  have := hg i (hn ▸ hi)
  rw [hf i (hn ▸ hi)] at this
  exact ⟨this.1, own_le255.mp this.2⟩
theorem own_cod1 {n : Nat} {f g : Nat → Int32} {l : List Int32} (hc : Chs l) (hn : n = l.length) (h1 : 0 < n) (h5 : n ≤ 5) (hf : ∀ i, i < n → f i = l.getD i 0) (hg : ∀ j, j < n → g (2 * j) = own_lo (f j) ∧ g (2 * j + 1) = own_hi (f j)) : Cod (own_cfa n (2 * n)) (2 * n) g n l := by
  rw [own_cfa1 h1 h5]
  refine ⟨hc, fun q => absurd q (by decide), fun _ => ⟨rfl, rfl, fun i hi => ?_⟩⟩
  have := hg i (hn ▸ hi)
  rw [hf i (hn ▸ hi)] at this
  exact this
theorem own_gtg {x y c : Int32} (hc : Chr c) (hx : x = own_lo c) (hy : y = own_hi c) (h : (255 : Int32) < c) : (255 : Int32) < own_gc x y := by rw [hx, hy, own_gcc hc]; exact h
theorem Cod.cd {cd : Int32} {N cap : Nat} {f : Nat → Int32} {l : List Int32} (h : Cod cd N f cap l) : cd = 0 ∨ cd = 1 := by
  by_cases q : cd = 0
  · exact Or.inl q
  · exact Or.inr (h.2.2 q).1
theorem Cod.lat {N cap : Nat} {f : Nat → Int32} {l : List Int32} (h : Cod 0 N f cap l) : N = cap ∧ Chs l ∧ EL f l := ⟨(h.2.1 rfl).1, h.1, (h.2.1 rfl).2⟩
theorem Cod.wid {N cap : Nat} {f : Nat → Int32} {l : List Int32} (h : Cod 1 N f cap l) : N = 2 * cap ∧ Chs l ∧ EU f l := ⟨(h.2.2 (by decide)).2.1, h.1, (h.2.2 (by decide)).2.2⟩
theorem Cod.ofL {N cap : Nat} {f : Nat → Int32} {l : List Int32} (e : N = cap) (hc : Chs l) (hE : EL f l) : Cod 0 N f cap l := ⟨hc, fun _ => ⟨e, hE⟩, fun q => absurd rfl q⟩
theorem Cod.ofU {N cap : Nat} {f : Nat → Int32} {l : List Int32} (e : N = 2 * cap) (hc : Chs l) (hE : EU f l) : Cod 1 N f cap l := ⟨hc, fun q => absurd q (by decide), fun _ => ⟨rfl, e, hE⟩⟩
theorem own_nbb (x : Int32) : nar .byte (nar .byte x) = nar .byte x := by
  show x.toInt8.toInt32.toInt8.toInt32 = x.toInt8.toInt32
  have h1 := c_i2b x
  have h2 := c_i2b (x.toInt8.toInt32)
  rw [← Int32.toInt_inj]; omega
theorem own_cfan (n N : Nat) : nar .byte (own_cfa n N) = own_cfa n N := own_nbb _
theorem Cod.latB {N cap : Nat} {f : Nat → Int32} {l : List Int32} (h : Cod 0 N f cap l) : cap = N ∧ Chs l ∧ EL f l := ⟨(h.2.1 rfl).1.symm, h.1, (h.2.1 rfl).2⟩
theorem own_nf {s : State} {args : Array Value} {y y' : MethodName} {C : String} (hs : (Cond.selects C y' y').before args s = true) (hi : (Cond.instanceMethod y').before args s = true) (hc : y'.cls = y.cls) : NotFace s y := fun r0 h0 => by
  obtain ⟨m', meth', g1, -, -, -⟩ := Cond.instanceMethod_spec hi
  have f1 := findClass_of_methodNamed h0
  have f2 := findClass_of_methodNamed g1
  rw [hc, f1] at f2
  obtain ⟨k, k1, k2⟩ := notFace_of_selects hs m' g1
  rw [← Option.some.inj f2] at k1
  exact ⟨k, k1, k2⟩
theorem own_gt {l : List Int32} {k i : Nat} (h : i < (l.take k).length) : (l.take k).getD i 0 = l.getD i 0 ∧ i < l.length ∧ i < k := by
  rw [List.length_take] at h
  refine ⟨?_, by omega, by omega⟩
  rw [List.getD_eq_getElem?_getD, List.getD_eq_getElem?_getD, List.getElem?_take_of_lt (by omega)]
theorem own_ga {l : List Int32} {c : Int32} {i : Nat} (h : i < l.length) : (l ++ [c]).getD i 0 = l.getD i 0 := by
  rw [List.getD_eq_getElem?_getD, List.getD_eq_getElem?_getD, List.getElem?_append_left h]
theorem own_gb (l : List Int32) (c : Int32) : (l ++ [c]).getD l.length 0 = c := by
  rw [List.getD_eq_getElem?_getD, List.getElem?_append_right (Nat.le_refl _), Nat.sub_self]; rfl
theorem own_gl {l : List Int32} {c : Int32} {i : Nat} (h : i < (l ++ [c]).length) (q : ¬ i < l.length) : i = l.length := by
  rw [List.length_append] at h
  have h' : i < l.length + 1 := h
  omega
section
variable {f g : Nat → Int32} {l : List Int32} {c : Int32} {i k : Nat}
theorem own_Chsa (h : Chs l) (hc : Chr c) : Chs (l ++ [c]) := fun i hi => by
  by_cases q : i < l.length
  · rw [own_ga q]; exact h i q
  · have e := own_gl hi q
    subst e; rw [own_gb]; exact hc
theorem own_ELa (h : EL f l) (hc : c.toInt ≤ 255) : EL (fun x => if x = l.length then own_b c else f x) (l ++ [c]) := fun i hi => by
  by_cases q : i < l.length
  · rw [own_ga q]
    dsimp only
    rw [if_neg (by omega)]; exact h i q
  · have e := own_gl hi q
    subst e; rw [own_gb]
    dsimp only
    rw [if_pos rfl]; exact ⟨rfl, hc⟩
theorem own_EUa (h : EU f l) : EU (fun x => if x = ((2 * l.length) + 1) then (own_hi c) else (fun x => if x = (2 * l.length) then (own_lo c) else f x) x) (l ++ [c]) := fun i hi => by
  by_cases q : i < l.length
  · rw [own_ga q]
    dsimp only
    rw [if_neg (by omega), if_neg (by omega), if_neg (by omega), if_neg (by omega)]; exact h i q
  · have e := own_gl hi q
    subst e; rw [own_gb]
    dsimp only
    rw [if_neg (by omega), if_pos rfl, if_pos rfl]; exact ⟨rfl, rfl⟩
theorem own_inf (hE : EL f l) (hc : Chs l) (hg : ∀ j, j < l.length → g (2 * j) = own_lo ((f j) &&& (255 : Int32)) ∧ g (2 * j + 1) = own_hi ((f j) &&& (255 : Int32))) : EU g l := fun i hi => by
  have q := hg i hi
  rw [(hE i hi).1, own_b255 (hc i hi) (hE i hi).2] at q
  exact q
theorem own_Chst (k : Nat) (h : Chs l) : Chs (l.take k) := fun i hi => by
  obtain ⟨e, q, -⟩ := own_gt hi
  rw [e]; exact h i q
theorem own_ELk (k : Nat) (h : EL f l) : EL f (l.take k) := fun i hi => by
  obtain ⟨e, q, -⟩ := own_gt hi
  rw [e]; exact h i q
theorem own_EUk (k : Nat) (h : EU f l) : EU f (l.take k) := fun i hi => by
  obtain ⟨e, q, -⟩ := own_gt hi
  rw [e]; exact h i q
theorem own_Codt {cd : Int32} {N cap : Nat} (k : Nat) (h : Cod cd N f cap l) : Cod cd N f cap (l.take k) := ⟨own_Chst k h.1, fun q => ⟨(h.2.1 q).1, own_ELk k (h.2.1 q).2⟩, fun q => ⟨(h.2.2 q).1, (h.2.2 q).2.1, own_EUk k (h.2.2 q).2.2⟩⟩
theorem own_ELt (hE : EL f l) : EL (fun x => if 0 ≤ x ∧ x < 0 + k then f (0 + (x - 0)) else g x) (l.take k) := fun i hi => by
  obtain ⟨e, q, q2⟩ := own_gt hi
  rw [e]
  dsimp only
  rw [if_pos ⟨by omega, by omega⟩, show 0 + (i - 0) = i by omega]
  exact hE i q
theorem own_ELx (hg : ∀ x, x < k → g x = own_b (l.getD x 0) ∧ (l.getD x 0).toInt ≤ 255) : EL g (l.take k) := fun i hi => by
  obtain ⟨e, q, q2⟩ := own_gt hi
  rw [e]; exact hg i q2
theorem own_EUt {f' : Nat → Int32} (hE : EU f l) (hc : Chs l) (hk : i ≤ k) (hg : ∀ x, x < i → g x = own_b (l.getD x 0) ∧ (l.getD x 0).toInt ≤ 255) (hl : i ≤ l.length) (hf : ∀ j, j < i → f' (2 * j) = own_lo ((g j) &&& (255 : Int32)) ∧ f' (2 * j + 1) = own_hi ((g j) &&& (255 : Int32))) : EU (fun x => if (2 * i) ≤ x ∧ x < (2 * i) + (2 * (k - i)) then f ((2 * i) + (x - (2 * i))) else f' x) (l.take k) := fun j hj => by
  obtain ⟨e, q, q2⟩ := own_gt hj
  rw [e]
  dsimp only
  by_cases c1 : j < i
  · rw [if_neg (by omega), if_neg (by omega)]
    have z := hf j c1
    rw [(hg j c1).1, own_b255 (hc j q) (hg j c1).2] at z
    exact z
  · rw [if_pos ⟨by omega, by omega⟩, if_pos ⟨by omega, by omega⟩, show 2 * i + (2 * j - 2 * i) = 2 * j by omega, show 2 * i + (2 * j + 1 - 2 * i) = 2 * j + 1 by omega]
    exact hE j q
theorem own_apL (hg : ∀ x, x < i → g x = own_b (l.getD x 0) ∧ (l.getD x 0).toInt ≤ 255) (hc : (l.getD i 0).toInt ≤ 255) : ∀ y, y < i + 1 → (fun x => if x = i then own_b (l.getD i 0) else g x) y = own_b (l.getD y 0) ∧ (l.getD y 0).toInt ≤ 255 := fun y hy => by
  dsimp only
  by_cases q : y = i
  · subst q; rw [if_pos rfl]; exact ⟨rfl, hc⟩
  · rw [if_neg q]; exact hg y (by omega)
theorem own_ELc (hE : EL f l) (hg : ∀ j, j < l.length → g j = f j) : EL g l := fun i hi => by rw [hg i hi]; exact hE i hi
theorem own_EUc (hE : EU f l) (hg : ∀ j, j < 2 * l.length → g j = f j) : EU g l := fun i hi => by rw [hg _ (by omega), hg _ (by omega)]; exact hE i hi
theorem own_cpj {j : Nat} (h : j < k) : (fun x => if 0 ≤ x ∧ x < 0 + k then f (0 + (x - 0)) else g x) j = f j := by
  dsimp only
  rw [if_pos ⟨by omega, by omega⟩, show 0 + (j - 0) = j by omega]
end
theorem own_nog {m cap : Nat} (h : m ≤ cap) (hc : cap ≤ 100) : ¬ (0 : Int32) < Int32.ofNat m - Int32.ofNat cap := by
  have h1 := c_isub (Int32.ofNat m) (Int32.ofNat cap)
  have h2 := rng32 (Int32.ofNat m - Int32.ofNat cap)
  rw [own_ti (show m < 2147483648 by omega), own_ti (show cap < 2147483648 by omega)] at h1
  have e0 : (0 : Int32).toInt = 0 := by decide
  rw [Int32.lt_iff_toInt_lt]; omega
theorem own_or {a b t t' : Nat} (h : t' = t ∨ b ≤ t') (q : a ≤ t) (q' : a ≤ b) : a ≤ t' := by omega
theorem own_nor {o b t t' : Nat} (h : t' = t ∨ b ≤ t') (q : o ≠ t) (q' : o < b) : o ≠ t' := by omega
theorem own_or3 {M kn : Nat} (h : M ≤ 5) (q : kn ≤ 5) : ¬ ((Int32.ofNat M ||| (0 : Int32)) ||| Int32.ofNat kn) < (0 : Int32) := by
  have key : ∀ M : Fin 6, ∀ k : Fin 6, ¬ ((Int32.ofNat M.val ||| (0 : Int32)) ||| Int32.ofNat k.val) < (0 : Int32) := by decide
  exact key ⟨M, by omega⟩ ⟨kn, by omega⟩
theorem own_lcS {x c : Int32} (hc : Chr c) (h : x = own_b c ∧ c.toInt ≤ 255) : (some (Value.int (nar .char (own_rb x))) : Option Value) = some (.int c) := by rw [h.1, own_rbb hc h.2, own_narc hc]
theorem own_ucS {x y c : Int32} (hc : Chr c) (h : x = own_lo c ∧ y = own_hi c) : (some (Value.int (nar .char (nar .char (own_gc x y)))) : Option Value) = some (.int c) := by rw [h.1, h.2, own_gcc hc, own_narc hc, own_narc hc]
theorem own_lcB {x c : Int32} (hc : Chr c) (h : x = own_b c ∧ c.toInt ≤ 255) : (some (Value.int (own_rb x)) : Option Value) = some (.int c) := by rw [h.1, own_rbb hc h.2]
theorem own_ucB {x y c : Int32} (hc : Chr c) (h : x = own_lo c ∧ y = own_hi c) : (some (Value.int (nar .char (own_gc x y))) : Option Value) = some (.int c) := by rw [h.1, h.2, own_gcc hc, own_narc hc]
theorem own_gcj {f : Nat → Int32} {l : List Int32} (hc : Chs l) (hE : EU f l) (i : Nat) (hi : i < l.length) : own_gc (f (2 * i)) (f ((2 * i) + 1)) = l.getD i 0 := by
  rw [(hE i hi).1, (hE i hi).2, own_gcc (hc i hi)]
section
variable {Z : State} {h : Heap} {a t o : Addr} {l : List Int32} {cap : Nat} {a0 : Array Value} {C : String} {k : Nat}
theorem Us.chs (F : Us Z h a t l) : Chs l := by obtain ⟨_, _, _, -, -, -, -, q, -⟩ := F; exact q.1
theorem Us.five (F : Us Z h a t l) : l.length ≤ 5 := by obtain ⟨_, _, _, -, -, -, -, -, q⟩ := F; exact q
theorem Us.neT (F : Us Z h a t l) (E : Exa Z h o C) (wi : (Cond.instantiable C k).before a0 Z = true) : o ≠ t := by obtain ⟨_, _, _, -, -, -, Y, -⟩ := F; exact own_neY E wi Y
theorem Sb.neT (F : Sb Z h a t cap l) (E : Exa Z h o C) (wi : (Cond.instantiable C k).before a0 Z = true) : o ≠ t := by obtain ⟨_, _, _, _, -, -, -, -, -, Y, -⟩ := F; exact own_neY E wi Y
theorem Sb.chs (F : Sb Z h a t cap l) : Chs l := by obtain ⟨_, _, _, _, -, -, -, -, -, -, -, q, -⟩ := F; exact q.1
theorem Sb.cnt (F : Sb Z h a t cap l) : Fld Z h a "java/lang/AbstractStringBuilder" "count" "I" (.int (Int32.ofNat l.length)) := by obtain ⟨_, _, _, _, -, -, -, D, -⟩ := F; exact D
theorem Sb.mk' {cd ml : Int32} {N kn : Nat} {f : Nat → Int32} (E : Exa Z h a "java/lang/StringBuilder") (C : Fld Z h a "java/lang/AbstractStringBuilder" "coder" "B" (.int cd)) (V : Fld Z h a "java/lang/AbstractStringBuilder" "value" "[B" (.ref t)) (D : Fld Z h a "java/lang/AbstractStringBuilder" "count" "I" (.int (Int32.ofNat kn))) (M : Fld Z h a "java/lang/AbstractStringBuilder" "maybeLatin1" "Z" (.int ml)) (Y : Ay Z h t .byte N f) (Ey : Exa Z h t "[B") (hk : kn = l.length) (hcod : Cod cd N f cap l) (hle : l.length ≤ cap) (h5 : cap ≤ 5) : Sb Z h a t cap l := by
  subst hk; exact ⟨cd, ml, N, f, E, C, V, D, M, Y, Ey, hcod, hle, h5⟩
end
abbrev C16 := jdk_41_method_11_code
theorem d16_0 : dk C16 0 (.iload_n 0) 1 := by decide +kernel
theorem d16_1 : dk C16 1 (.ifCond .lt 8) 3 := by decide +kernel
theorem d16_4 : dk C16 4 (.iload_n 0) 1 := by decide +kernel
theorem d16_5 : dk C16 5 (.iload_n 1) 1 := by decide +kernel
theorem d16_6 : dk C16 6 (.if_icmp .lt 10) 3 := by decide +kernel
theorem d16_16 : dk C16 16 (.iload_n 0) 1 := by decide +kernel
theorem d16_17 : dk C16 17 .ireturn 1 := by decide +kernel
theorem own_pn0 : plainName "jdk/internal/util/Preconditions" = true := by first | (simp [plainName, overriddenIn]; done) | decide +kernel
def Q_ci (Z : State) (w2 : Value) (i : Nat) (n : Nat) (h0 : Heap) (n0 : Nat) (v : Option Value) (h : Heap) (L : List Loc) : Prop := v = some (.int (Int32.ofNat i)) ∧ Fr n0 L ∧ h = h0
theorem rm_ci (l : Launch) (Z : State) (a0 : Array Value) (hw : Hw a0 Z) (w2 : Value) (i : Nat) (n : Nat) (h0 : Heap) (n0 : Nat) (Z0 : n0 ≤ h0.size) (r_w2 : w2.isRef = true) (hi : i < n) (hn : n ≤ 1000) : Mt l (⟨"jdk/internal/util/Preconditions", "checkIndex", "(IILjava/util/function/BiFunction;)I"⟩ : MethodName) C16 3 (some .int) ({ frames := 0, cells := 0, slots := 0, locals := 0 } : Room) #[(.int (Int32.ofNat i)), (.int (Int32.ofNat n)), w2] Z h0 (Q_ci Z w2 i n h0 n0) := by
  have w := own_w hw
  refine own_go (L0 := #[vi (Int32.ofNat i), vi (Int32.ofNat n), .val w2]) n0 (plainFor_of_name own_pn0) (fun m => by cases w2 <;> first | rfl | (simp [entryFrame, mkF, argsToLocals, Value.category]; done) | (simp [Value.isRef] at *; done)) fun p e s m below meth c s₁ E0 hx b hml hown hnm hret hlk hZ X0 e0 N0 pre0 => ?_
  have pre1 : Pr p e below s₁ E0 s₁ (mkF m 17 #[vi (Int32.ofNat i), vi (Int32.ofNat n), .val w2] [(.int (Int32.ofNat i))]) := fun t k => pre0 t (by
    refine XS.iloadN X0.here hx rfl (b d16_0) rfl ?_
    show Sp p e below s₁ (mkF m 1 #[vi (Int32.ofNat i), vi (Int32.ofNat n), .val w2] [(.int (Int32.ofNat i))]) t
    refine XS.ifNo X0.here hx rfl (b d16_1) rfl ((if0 _ _).trans (flt (own_ltF (a := i) (b := 0) (show ¬ i < 0 by omega) (by omega))).1) ?_
    refine XS.iloadN X0.here hx rfl (b d16_4) rfl ?_
    refine XS.iloadN X0.here hx rfl (b d16_5) rfl ?_
    show Sp p e below s₁ (mkF m 6 #[vi (Int32.ofNat i), vi (Int32.ofNat n), .val w2] [(.int (Int32.ofNat n)), (.int (Int32.ofNat i))]) t
    refine XS.icmpYes X0.here hx rfl (pc0 := 6) (pc' := 16) rfl (b d16_6) rfl (tlt (own_ltT (a := i) (b := n) (show i < n by omega) (by omega))).1 (by decide) (by decide) ?_
    refine XS.iloadN X0.here hx rfl (b d16_16) rfl ?_
    exact k)
  exact own_end X0 hlk (v := some (.int (Int32.ofNat i))) (own_hv hret) pre1 (fun fs hr => retI X0 hx hret (b d16_17) hr) (by rw [e0]; exact ⟨rfl, N0, rfl⟩)
abbrev C15 := jdk_42_method_155_code
theorem d15_0 : dk C15 0 (.iload_n 0) 1 := by decide +kernel
theorem d15_1 : dk C15 1 (.iload_n 1) 1 := by decide +kernel
theorem d15_2 : dk C15 2 (.getstatic 1053) 3 := by decide +kernel
theorem d15_5 : dk C15 5 (.invokestatic 1059) 3 := by decide +kernel
theorem own_pd1 : parseMethodDescriptor "(IILjava/util/function/BiFunction;)I" = some ⟨[.int, .int, (.object "java/util/function/BiFunction")], some .int⟩ := by decide +kernel
theorem d15_8 : dk C15 8 .pop 1 := by decide +kernel
theorem d15_9 : dk C15 9 .return_ 1 := by decide +kernel
theorem own_pn2 : plainName "java/lang/String" = true := by first | (simp [plainName, overriddenIn]; done) | decide +kernel
def Q_sci (Z : State) (i : Nat) (n : Nat) (h0 : Heap) (n0 : Nat) (v : Option Value) (h : Heap) (L : List Loc) : Prop := v = none ∧ Fr n0 L ∧ h = h0
theorem rm_sci (l : Launch) (Z : State) (a0 : Array Value) (hw : Hw a0 Z) (i : Nat) (n : Nat) (h0 : Heap) (n0 : Nat) (Z0 : n0 ≤ h0.size) (hst : own_St Z) (X00 : Old Z n0 h0) (hi : i < n) (hn : n ≤ 1000) : Mt l (⟨"java/lang/String", "checkIndex", "(II)V"⟩ : MethodName) C15 2 none ({ frames := 1, cells := 0, slots := 0, locals := 14 } : Room) #[(.int (Int32.ofNat i)), (.int (Int32.ofNat n))] Z h0 (Q_sci Z i n h0 n0) := by
  have w := own_w hw
  refine own_go (L0 := #[vi (Int32.ofNat i), vi (Int32.ofNat n)]) n0 (plainFor_of_name own_pn2) (fun m => rfl) fun p e s m below meth c s₁ E0 hx b hml hown hnm hret hlk hZ X0 e0 N0 pre0 => ?_
  obtain ⟨G1, v2, v3, P1, r_v2, r_v3, O1, O2, O3, O4, O5, O6⟩ := id hst
  obtain ⟨T1, X1, e1, st1⟩ := getS2 X0 hx hZ hown (host := "") (Or.inl (w 69 rfl)) Via.refl e0 (O2.ext X00.2) (g := (mkF m 2 #[vi (Int32.ofNat i), vi (Int32.ofNat n)] [(.int (Int32.ofNat n)), (.int (Int32.ofNat i))])) rfl (b d15_2)
  obtain ⟨_, T2, L2, X2, hQ2, st2⟩ := own_cS X1 hx hml hZ hown (rm_ci l Z a0 hw v2 i n h0 n0 Z0 r_v2 (by omega) (by omega)) (w 71 rfl) (w 72 rfl) (w 70 rfl) (w 73 rfl) e1 (g := (mkF m 5 #[vi (Int32.ofNat i), vi (Int32.ofNat n)] [v2, (.int (Int32.ofNat n)), (.int (Int32.ofNat i))])) (argsL := [(.int (Int32.ofNat i)), (.int (Int32.ofNat n)), v2]) (rest := []) (W := 0) (lenOf own_pd1 rfl) (b d15_5)
  obtain ⟨rfl, Nq2, e2⟩ := hQ2
  have N2 := Fr.app N0 Nq2
  have pre3 : Pr p e below s₁ E0 T2 (mkF m 9 #[vi (Int32.ofNat i), vi (Int32.ofNat n)] []) := fun t k => pre0 t (by
    refine XS.iloadN X0.here hx rfl (b d15_0) rfl ?_
    refine XS.iloadN X0.here hx rfl (b d15_1) rfl ?_
    refine st1 _ ?_
    show Sp p e below T1 (mkF m 5 #[vi (Int32.ofNat i), vi (Int32.ofNat n)] [v2, (.int (Int32.ofNat n)), (.int (Int32.ofNat i))]) t
    refine st2 _ ?_
    show Sp p e below T2 (mkF m 8 #[vi (Int32.ofNat i), vi (Int32.ofNat n)] [(.int (Int32.ofNat i))]) t
    refine XS.pop X2.here hx rfl (b d15_8) rfl rfl ?_
    exact k)
  exact own_end X2 hlk (v := none) (fun _ => rfl) pre3 (fun fs hr => X2.returnOut hx hret (b d15_9) hr) (by rw [e2]; exact ⟨rfl, N2, rfl⟩)
abbrev C50 := jdk_52_method_6_code
theorem d50_0 : dk C50 0 (.aload_n 0) 1 := by decide +kernel
theorem d50_1 : dk C50 1 .arraylength 1 := by decide +kernel
theorem d50_2 : dk C50 2 (.iconst 1) 1 := by decide +kernel
theorem d50_3 : dk C50 3 .ishr 1 := by decide +kernel
theorem d50_4 : dk C50 4 .ireturn 1 := by decide +kernel
theorem own_pn3 : plainName "java/lang/StringUTF16" = true := by first | (simp [plainName, overriddenIn]; done) | decide +kernel
def Q_ulen (Z : State) (r0 : Addr) (n : Nat) (f : Nat → Int32) (h0 : Heap) (n0 : Nat) (v : Option Value) (h : Heap) (L : List Loc) : Prop := v = some (.int (Int32.ofNat n)) ∧ Fr n0 L ∧ h = h0
theorem rm_ulen (l : Launch) (Z : State) (a0 : Array Value) (hw : Hw a0 Z) (r0 : Addr) (n : Nat) (f : Nat → Int32) (h0 : Heap) (n0 : Nat) (Z0 : n0 ≤ h0.size) (Y_r0 : Ay Z h0 r0 .byte (2 * n) f) (hn : n ≤ 50) : Mt l (⟨"java/lang/StringUTF16", "length", "([B)I"⟩ : MethodName) C50 1 (some .int) ({ frames := 0, cells := 0, slots := 0, locals := 0 } : Room) #[(.ref r0)] Z h0 (Q_ulen Z r0 n f h0 n0) := by
  have w := own_w hw
  refine own_go (L0 := #[vr r0]) n0 (plainFor_of_name own_pn3) (fun m => rfl) fun p e s m below meth c s₁ E0 hx b hml hown hnm hret hlk hZ X0 e0 N0 pre0 => ?_
  obtain ⟨qn1, cl1, Ar1, S1, H1⟩ := id Y_r0
  have pre2 : Pr p e below s₁ E0 s₁ (mkF m 4 #[vr r0] [(.int (Int32.ofNat n))]) := fun t k => pre0 t (by
    refine XS.aloadN X0.here hx rfl (b d50_0) rfl rfl ?_
    refine X0.arraylength hx (by rw [e0]; exact Ar1.1) (State.isArrayOf_alike hZ.alike Ar1.2.1) (g := (mkF m 1 #[vr r0] [(.ref r0)])) rfl rfl (b d50_1) _ ?_
    rw [own_len S1]
    show Sp p e below s₁ (mkF m 2 #[vr r0] [(.int (Int32.ofNat (2 * n)))]) t
    refine XS.iconst X0.here hx rfl (b d50_2) ?_
    refine XS.ishr X0.here hx rfl (b d50_3) rfl ?_
    show Sp p e below s₁ (mkF m 4 #[vr r0] [(.int ((Int32.ofNat (2 * n)) >>> ((1 : Int32) &&& 31)))]) t
    rw [own_shr (a := n) (by omega)]
    exact k)
  exact own_end X0 hlk (v := some (.int (Int32.ofNat n))) (own_hv hret) pre2 (fun fs hr => retI X0 hx hret (b d50_4) hr) (by rw [e0]; exact ⟨rfl, N0, rfl⟩)
abbrev C45 := jdk_52_method_3_code
theorem d45_0 : dk C45 0 (.iload_n 0) 1 := by decide +kernel
theorem d45_1 : dk C45 1 (.ifCond .ge 11) 3 := by decide +kernel
theorem d45_12 : dk C45 12 (.iload_n 0) 1 := by decide +kernel
theorem d45_13 : dk C45 13 (.ldc 20) 2 := by decide +kernel
theorem d45_15 : dk C45 15 (.if_icmp .lt 40) 3 := by decide +kernel
theorem d45_55 : dk C45 55 (.iload_n 0) 1 := by decide +kernel
theorem d45_56 : dk C45 56 (.iconst 1) 1 := by decide +kernel
theorem d45_57 : dk C45 57 .ishl 1 := by decide +kernel
theorem d45_58 : dk C45 58 .ireturn 1 := by decide +kernel
def Q_nbl (Z : State) (n : Nat) (h0 : Heap) (n0 : Nat) (v : Option Value) (h : Heap) (L : List Loc) : Prop := v = some (.int (Int32.ofNat (2 * n))) ∧ Fr n0 L ∧ h = h0
theorem rm_nbl (l : Launch) (Z : State) (a0 : Array Value) (hw : Hw a0 Z) (n : Nat) (h0 : Heap) (n0 : Nat) (Z0 : n0 ≤ h0.size) (hn : n ≤ 100) : Mt l (⟨"java/lang/StringUTF16", "newBytesLength", "(I)I"⟩ : MethodName) C45 1 (some .int) ({ frames := 0, cells := 0, slots := 0, locals := 0 } : Room) #[(.int (Int32.ofNat n))] Z h0 (Q_nbl Z n h0 n0) := by
  have w := own_w hw
  refine own_go (L0 := #[vi (Int32.ofNat n)]) n0 (plainFor_of_name own_pn3) (fun m => rfl) fun p e s m below meth c s₁ E0 hx b hml hown hnm hret hlk hZ X0 e0 N0 pre0 => ?_
  have pre1 : Pr p e below s₁ E0 s₁ (mkF m 58 #[vi (Int32.ofNat n)] [(.int (Int32.ofNat (2 * n)))]) := fun t k => pre0 t (by
    refine XS.iloadN X0.here hx rfl (b d45_0) rfl ?_
    show Sp p e below s₁ (mkF m 1 #[vi (Int32.ofNat n)] [(.int (Int32.ofNat n))]) t
    refine XS.ifYes X0.here hx rfl (pc0 := 1) (pc' := 12) rfl (b d45_1) rfl ((if0 _ _).trans (flt (own_ltF (a := n) (b := 0) (show ¬ n < 0 by omega) (by omega))).2.1) (by decide) (by decide) ?_
    refine XS.iloadN X0.here hx rfl (b d45_12) rfl ?_
    refine X0.ldcInt hx hown (mvT hZ (w 236 rfl)) (g := (mkF m 13 #[vi (Int32.ofNat n)] [(.int (Int32.ofNat n))])) rfl (b d45_13) _ ?_
    show Sp p e below s₁ (mkF m 15 #[vi (Int32.ofNat n)] [(.int (1073741823 : Int32)), (.int (Int32.ofNat n))]) t
    refine XS.icmpYes X0.here hx rfl (pc0 := 15) (pc' := 55) rfl (b d45_15) rfl (tlt (own_ltT (a := n) (b := 1073741823) (show n < 1073741823 by omega) (by omega))).1 (by decide) (by decide) ?_
    refine XS.iloadN X0.here hx rfl (b d45_55) rfl ?_
    refine XS.iconst X0.here hx rfl (b d45_56) ?_
    refine XS.ishl X0.here hx rfl (b d45_57) rfl ?_
    show Sp p e below s₁ (mkF m 58 #[vi (Int32.ofNat n)] [(.int ((Int32.ofNat n) <<< ((1 : Int32) &&& 31)))]) t
    rw [own_shl (a := n) (by omega)]
    exact k)
  exact own_end X0 hlk (v := some (.int (Int32.ofNat (2 * n)))) (own_hv hret) pre1 (fun fs hr => retI X0 hx hret (b d45_58) hr) (by rw [e0]; exact ⟨rfl, N0, rfl⟩)
abbrev C44 := jdk_52_method_2_code
theorem d44_0 : dk C44 0 (.iload_n 0) 1 := by decide +kernel
theorem d44_1 : dk C44 1 (.invokestatic 11) 3 := by decide +kernel
theorem own_pd4 : parseMethodDescriptor "(I)I" = some ⟨[.int], some .int⟩ := by decide +kernel
theorem d44_4 : dk C44 4 (.newarray .byte) 2 := by decide +kernel
theorem d44_6 : dk C44 6 .areturn 1 := by decide +kernel
def Q_nbf (Z : State) (n : Nat) (h0 : Heap) (n0 : Nat) (v : Option Value) (h : Heap) (L : List Loc) : Prop := ∃ b, v = some (.ref b) ∧ Fr n0 L ∧ h0.size ≤ b ∧ Keep h0 h [] ∧ Ay Z h b .byte (2 * n) (fun _ => 0) ∧ Exa Z h b "[B"
theorem rm_nbf (l : Launch) (Z : State) (a0 : Array Value) (hw : Hw a0 Z) (n : Nat) (h0 : Heap) (n0 : Nat) (Z0 : n0 ≤ h0.size) (hn : n ≤ 5) : Mt l (⟨"java/lang/StringUTF16", "newBytesFor", "(I)[B"⟩ : MethodName) C44 1 (some (.array .byte)) ({ frames := 1, cells := 1, slots := 10, locals := 12 } : Room) #[(.int (Int32.ofNat n))] Z h0 (Q_nbf Z n h0 n0) := by
  have w := own_w hw
  refine own_go (L0 := #[vi (Int32.ofNat n)]) n0 (plainFor_of_name own_pn3) (fun m => rfl) fun p e s m below meth c s₁ E0 hx b hml hown hnm hret hlk hZ X0 e0 N0 pre0 => ?_
  have K0 : Keep h0 h0 [] := Keep.refl h0 _
  obtain ⟨_, T1, L1, X1, hQ1, st1⟩ := own_cS X0 hx hml hZ hown (rm_nbl l Z a0 hw n h0 n0 Z0 (by omega)) (w 233 rfl) (w 234 rfl) (w 25 rfl) (w 235 rfl) e0 (g := (mkF m 1 #[vi (Int32.ofNat n)] [(.int (Int32.ofNat n))])) (argsL := [(.int (Int32.ofNat n))]) (rest := []) (W := 0) (lenOf own_pd4 rfl) (b d44_1)
  obtain ⟨rfl, Nq1, e1⟩ := hQ1
  have N1 := Fr.app N0 Nq1
  obtain ⟨T2, h2, k2, X2, e2, E2, A2, Ex2, st2⟩ := newPE X1 hx hZ (w 27 rfl) e1 (g := (mkF m 4 #[vi (Int32.ofNat n)] [(.int (Int32.ofNat (2 * n)))])) rfl (b d44_4) (n := (Int32.ofNat (2 * n))) rfl (own_nn (by omega)) (cap := 10) (by rw [own_nc (by omega)]; omega) (by decide) (by decide) (by decide) (ad := "[B") (by decide)
  obtain ⟨b2, g2⟩ : ∃ z, z = h0.size := ⟨_, rfl⟩
  rw [← g2] at A2 Ex2 st2
  have g_b2 : n0 ≤ b2 := Nat.le_trans Z0 (Nat.le_of_eq g2.symm)
  have sz_b2 : h0.size ≤ b2 := Nat.le_trans K0.1 (Nat.le_of_eq g2.symm)
  have Z2 : n0 ≤ h2.size := Nat.le_trans Z0 E2.1
  have K2 := K0.ext E2
  have Y2 : Ay Z h2 b2 .byte (2 * n) (fun _ => 0) := Ay.new (by omega) A2 rfl
  have pre5 : Pr p e below s₁ E0 T2 (mkF m 6 #[vi (Int32.ofNat n)] [(.ref b2)]) := fun t k => pre0 t (by
    refine XS.iloadN X0.here hx rfl (b d44_0) rfl ?_
    refine st1 _ ?_
    show Sp p e below T1 (mkF m 4 #[vi (Int32.ofNat n)] [(.int (Int32.ofNat (2 * n)))]) t
    refine st2 _ ?_
    exact k)
  exact own_end X2 hlk (v := some (.ref b2)) (own_hv hret) pre5 (fun fs hr => own_ra X2 hx hret rfl (b d44_6) hr) (by rw [e2]; exact ⟨b2, rfl, N1, sz_b2, K2, Y2, Ex2⟩)
abbrev C46 := jdk_52_method_4_code
theorem d46_0 : dk C46 0 (.getstatic 44) 3 := by decide +kernel
theorem d46_3 : dk C46 3 (.ifCond .ne 25) 3 := by decide +kernel
theorem d46_28 : dk C46 28 (.iload_n 1) 1 := by decide +kernel
theorem d46_29 : dk C46 29 (.iconst 1) 1 := by decide +kernel
theorem d46_30 : dk C46 30 .ishl 1 := by decide +kernel
theorem d46_31 : dk C46 31 (.istore_n 1) 1 := by decide +kernel
theorem d46_32 : dk C46 32 (.aload_n 0) 1 := by decide +kernel
theorem d46_33 : dk C46 33 (.iload_n 1) 1 := by decide +kernel
theorem d46_34 : dk C46 34 (.iinc 1 1) 3 := by decide +kernel
theorem d46_37 : dk C46 37 (.iload_n 2) 1 := by decide +kernel
theorem d46_38 : dk C46 38 (.getstatic 59) 3 := by decide +kernel
theorem d46_41 : dk C46 41 .ishr 1 := by decide +kernel
theorem d46_42 : dk C46 42 .i2b 1 := by decide +kernel
theorem d46_43 : dk C46 43 .bastore 1 := by decide +kernel
theorem d46_44 : dk C46 44 (.aload_n 0) 1 := by decide +kernel
theorem d46_45 : dk C46 45 (.iload_n 1) 1 := by decide +kernel
theorem d46_46 : dk C46 46 (.iload_n 2) 1 := by decide +kernel
theorem d46_47 : dk C46 47 (.getstatic 63) 3 := by decide +kernel
theorem d46_50 : dk C46 50 .ishr 1 := by decide +kernel
theorem d46_51 : dk C46 51 .i2b 1 := by decide +kernel
theorem d46_52 : dk C46 52 .bastore 1 := by decide +kernel
theorem d46_53 : dk C46 53 .return_ 1 := by decide +kernel
def Q_pc (Z : State) (r0 : Addr) (p2 : Int32) (i : Nat) (N : Nat) (f : Nat → Int32) (h0 : Heap) (n0 : Nat) (v : Option Value) (h : Heap) (L : List Loc) : Prop := v = none ∧ Fr n0 L ∧ Keep h0 h [r0] ∧ Ay Z h r0 .byte N (fun x => if x = ((2 * i) + 1) then (own_hi p2) else (fun x => if x = (2 * i) then (own_lo p2) else f x) x)
theorem rm_pc (l : Launch) (Z : State) (a0 : Array Value) (hw : Hw a0 Z) (r0 : Addr) (p2 : Int32) (i : Nat) (N : Nat) (f : Nat → Int32) (h0 : Heap) (n0 : Nat) (Z0 : n0 ≤ h0.size) (hst : own_St Z) (X00 : Old Z n0 h0) (Y_r0 : Ay Z h0 r0 .byte N f) (hi : 2 * i + 1 < N) (g_r0 : n0 ≤ r0) (hN : N ≤ 100) : Mt l (⟨"java/lang/StringUTF16", "putChar", "([BII)V"⟩ : MethodName) C46 3 none ({ frames := 0, cells := 0, slots := 0, locals := 0 } : Room) #[(.ref r0), (.int (Int32.ofNat i)), (.int p2)] Z h0 (Q_pc Z r0 p2 i N f h0 n0) := by
  have w := own_w hw
  refine own_go (L0 := #[vr r0, vi (Int32.ofNat i), vi p2]) n0 (plainFor_of_name own_pn3) (fun m => rfl) fun p e s m below meth c s₁ E0 hx b hml hown hnm hret hlk hZ X0 e0 N0 pre0 => ?_
  have K0 : Keep h0 h0 [r0] := Keep.refl h0 _
  obtain ⟨G1, v2, v3, P1, r_v2, r_v3, O1, O2, O3, O4, O5, O6⟩ := id hst
  obtain ⟨T1, X1, e1, st1⟩ := getS2 X0 hx hZ hown (host := "") (Or.inl (w 240 rfl)) Via.refl e0 (O4.ext X00.2) (g := (mkF m 0 #[vr r0, vi (Int32.ofNat i), vi p2] [])) rfl (b d46_0)
  obtain ⟨T2, X2, e2, st2⟩ := getS2 X1 hx hZ hown (host := "") (Or.inl (w 241 rfl)) Via.refl e1 (O5.ext X00.2) (g := (mkF m 38 #[vr r0, vi (Int32.ofNat ((2 * i) + 1)), vi p2] [(.int p2), (.int (Int32.ofNat (2 * i))), (.ref r0)])) rfl (b d46_38)
  obtain ⟨qn3, cl3, Ar3, S3, H3⟩ := id Y_r0
  obtain ⟨T4, h4, X4, e4, W4, st4⟩ := stB X2 hx hZ e2 Ar3 (j := (Int32.ofNat (2 * i))) (own_in qn3 S3 (show (2 * i) < N by omega)) (g := (mkF m 43 #[vr r0, vi (Int32.ofNat ((2 * i) + 1)), vi p2] [(.int ((p2 >>> ((0 : Int32) &&& 31)).toInt8.toInt32)), (.int (Int32.ofNat (2 * i))), (.ref r0)])) rfl rfl (b d46_43)
  have Y4 : Ay Z h4 r0 .byte N (fun x => if x = (2 * i) then (nar .byte ((p2 >>> ((0 : Int32) &&& 31)).toInt8.toInt32)) else f x) := Ay.put qn3 Ar3 S3 H3 (show (2 * i) < N by omega) W4 (fits_nar_byte _)
  have od5 := X00.wr W4 g_r0
  have N4 := Fr.snoc X4 N0 g_r0
  have Z4 : n0 ≤ h4.size := Nat.le_trans Z0 (Keep.of_wr W4).1
  have K4 := K0.wr W4 (Or.inl (by simp))
  obtain ⟨T7, X7, e7, st7⟩ := getS2 X4 hx hZ hown (host := "") (Or.inl (w 242 rfl)) Via.refl e4 (O6.ext od5.2) (g := (mkF m 47 #[vr r0, vi (Int32.ofNat ((2 * i) + 1)), vi p2] [(.int p2), (.int (Int32.ofNat ((2 * i) + 1))), (.ref r0)])) rfl (b d46_47)
  obtain ⟨qn8, cl8, Ar8, S8, H8⟩ := id Y4
  obtain ⟨T9, h9, X9, e9, W9, st9⟩ := stB X7 hx hZ e7 Ar8 (j := (Int32.ofNat ((2 * i) + 1))) (own_in qn8 S8 (show ((2 * i) + 1) < N by omega)) (g := (mkF m 52 #[vr r0, vi (Int32.ofNat ((2 * i) + 1)), vi p2] [(.int ((p2 >>> ((8 : Int32) &&& 31)).toInt8.toInt32)), (.int (Int32.ofNat ((2 * i) + 1))), (.ref r0)])) rfl rfl (b d46_52)
  have Y9 : Ay Z h9 r0 .byte N (fun x => if x = ((2 * i) + 1) then (nar .byte ((p2 >>> ((8 : Int32) &&& 31)).toInt8.toInt32)) else (fun x => if x = (2 * i) then (nar .byte ((p2 >>> ((0 : Int32) &&& 31)).toInt8.toInt32)) else f x) x) := Ay.put qn8 Ar8 S8 H8 (show ((2 * i) + 1) < N by omega) W9 (fits_nar_byte _)
  have od10 := od5.wr W9 g_r0
  have N9 := Fr.snoc X9 N4 g_r0
  have Z9 : n0 ≤ h9.size := Nat.le_trans Z4 (Keep.of_wr W9).1
  have K9 := K4.wr W9 (Or.inl (by simp))
  have pre12 : Pr p e below s₁ E0 T9 (mkF m 53 #[vr r0, vi (Int32.ofNat ((2 * i) + 1)), vi p2] []) := fun t k => pre0 t (by
    refine st1 _ ?_
    show Sp p e below T1 (mkF m 3 #[vr r0, vi (Int32.ofNat i), vi p2] [(.int (1 : Int32))]) t
    refine XS.ifYes X1.here hx rfl (pc0 := 3) (pc' := 28) rfl (b d46_3) rfl ((if0 _ _).trans (feq (by decide : ¬ ((1 : Int32) = (0 : Int32)))).2) (by decide) (by decide) ?_
    refine XS.iloadN X1.here hx rfl (b d46_28) rfl ?_
    refine XS.iconst X1.here hx rfl (b d46_29) ?_
    refine XS.ishl X1.here hx rfl (b d46_30) rfl ?_
    show Sp p e below T1 (mkF m 31 #[vr r0, vi (Int32.ofNat i), vi p2] [(.int ((Int32.ofNat i) <<< ((1 : Int32) &&& 31)))]) t
    rw [own_shl (a := i) (by omega)]
    show Sp p e below T1 (mkF m 31 #[vr r0, vi (Int32.ofNat i), vi p2] [(.int (Int32.ofNat (2 * i)))]) t
    refine XS.istoreN X1.here hx rfl (b d46_31) rfl (l' := #[vr r0, vi (Int32.ofNat (2 * i)), vi p2]) rfl ?_
    refine XS.aloadN X1.here hx rfl (b d46_32) rfl rfl ?_
    refine XS.iloadN X1.here hx rfl (b d46_33) rfl ?_
    refine XS.iinc X1.here hx rfl (b d46_34) rfl (l' := #[vr r0, vi ((Int32.ofNat (2 * i)) + (1 : Int32)), vi p2]) rfl ?_
    show Sp p e below T1 (mkF m 37 #[vr r0, vi ((Int32.ofNat (2 * i)) + (1 : Int32)), vi p2] [(.int (Int32.ofNat (2 * i))), (.ref r0)]) t
    rw [own_a1 (2 * i)]
    show Sp p e below T1 (mkF m 37 #[vr r0, vi (Int32.ofNat ((2 * i) + 1)), vi p2] [(.int (Int32.ofNat (2 * i))), (.ref r0)]) t
    refine XS.iloadN X1.here hx rfl (b d46_37) rfl ?_
    refine st2 _ ?_
    show Sp p e below T2 (mkF m 41 #[vr r0, vi (Int32.ofNat ((2 * i) + 1)), vi p2] [(.int (0 : Int32)), (.int p2), (.int (Int32.ofNat (2 * i))), (.ref r0)]) t
    refine XS.ishr X2.here hx rfl (b d46_41) rfl ?_
    refine XS.i2b X2.here hx rfl (b d46_42) rfl ?_
    refine st4 _ ?_
    show Sp p e below T4 (mkF m 44 #[vr r0, vi (Int32.ofNat ((2 * i) + 1)), vi p2] []) t
    refine XS.aloadN X4.here hx rfl (b d46_44) rfl rfl ?_
    refine XS.iloadN X4.here hx rfl (b d46_45) rfl ?_
    refine XS.iloadN X4.here hx rfl (b d46_46) rfl ?_
    refine st7 _ ?_
    show Sp p e below T7 (mkF m 50 #[vr r0, vi (Int32.ofNat ((2 * i) + 1)), vi p2] [(.int (8 : Int32)), (.int p2), (.int (Int32.ofNat ((2 * i) + 1))), (.ref r0)]) t
    refine XS.ishr X7.here hx rfl (b d46_50) rfl ?_
    refine XS.i2b X7.here hx rfl (b d46_51) rfl ?_
    refine st9 _ ?_
    exact k)
  exact own_end X9 hlk (v := none) (fun _ => rfl) pre12 (fun fs hr => X9.returnOut hx hret (b d46_53) hr) (by rw [e9]; exact ⟨rfl, N9, K9, Y9⟩)
abbrev C47 := jdk_52_method_5_code
theorem d47_0 : dk C47 0 (.getstatic 44) 3 := by decide +kernel
theorem d47_3 : dk C47 3 (.ifCond .ne 25) 3 := by decide +kernel
theorem d47_28 : dk C47 28 (.iload_n 1) 1 := by decide +kernel
theorem d47_29 : dk C47 29 (.iconst 1) 1 := by decide +kernel
theorem d47_30 : dk C47 30 .ishl 1 := by decide +kernel
theorem d47_31 : dk C47 31 (.istore_n 1) 1 := by decide +kernel
theorem d47_32 : dk C47 32 (.aload_n 0) 1 := by decide +kernel
theorem d47_33 : dk C47 33 (.iload_n 1) 1 := by decide +kernel
theorem d47_34 : dk C47 34 (.iinc 1 1) 3 := by decide +kernel
theorem d47_37 : dk C47 37 .baload 1 := by decide +kernel
theorem d47_38 : dk C47 38 (.sipush 255) 3 := by decide +kernel
theorem d47_41 : dk C47 41 .iand 1 := by decide +kernel
theorem d47_42 : dk C47 42 (.getstatic 59) 3 := by decide +kernel
theorem d47_45 : dk C47 45 .ishl 1 := by decide +kernel
theorem d47_46 : dk C47 46 (.aload_n 0) 1 := by decide +kernel
theorem d47_47 : dk C47 47 (.iload_n 1) 1 := by decide +kernel
theorem d47_48 : dk C47 48 .baload 1 := by decide +kernel
theorem d47_49 : dk C47 49 (.sipush 255) 3 := by decide +kernel
theorem d47_52 : dk C47 52 .iand 1 := by decide +kernel
theorem d47_53 : dk C47 53 (.getstatic 63) 3 := by decide +kernel
theorem d47_56 : dk C47 56 .ishl 1 := by decide +kernel
theorem d47_57 : dk C47 57 .ior 1 := by decide +kernel
theorem d47_58 : dk C47 58 .i2c 1 := by decide +kernel
theorem d47_59 : dk C47 59 .ireturn 1 := by decide +kernel
def Q_gc (Z : State) (r0 : Addr) (i : Nat) (N : Nat) (f : Nat → Int32) (h0 : Heap) (n0 : Nat) (v : Option Value) (h : Heap) (L : List Loc) : Prop := v = some (.int (own_gc (f (2 * i)) (f ((2 * i) + 1)))) ∧ Fr n0 L ∧ h = h0
theorem rm_gc (l : Launch) (Z : State) (a0 : Array Value) (hw : Hw a0 Z) (r0 : Addr) (i : Nat) (N : Nat) (f : Nat → Int32) (h0 : Heap) (n0 : Nat) (Z0 : n0 ≤ h0.size) (hst : own_St Z) (X00 : Old Z n0 h0) (Y_r0 : Ay Z h0 r0 .byte N f) (hi : 2 * i + 1 < N) (hN : N ≤ 100) : Mt l (⟨"java/lang/StringUTF16", "getChar", "([BI)C"⟩ : MethodName) C47 2 (some .char) ({ frames := 0, cells := 0, slots := 0, locals := 0 } : Room) #[(.ref r0), (.int (Int32.ofNat i))] Z h0 (Q_gc Z r0 i N f h0 n0) := by
  have w := own_w hw
  refine own_go (L0 := #[vr r0, vi (Int32.ofNat i)]) n0 (plainFor_of_name own_pn3) (fun m => rfl) fun p e s m below meth c s₁ E0 hx b hml hown hnm hret hlk hZ X0 e0 N0 pre0 => ?_
  obtain ⟨G1, v2, v3, P1, r_v2, r_v3, O1, O2, O3, O4, O5, O6⟩ := id hst
  obtain ⟨T1, X1, e1, st1⟩ := getS2 X0 hx hZ hown (host := "") (Or.inl (w 240 rfl)) Via.refl e0 (O4.ext X00.2) (g := (mkF m 0 #[vr r0, vi (Int32.ofNat i)] [])) rfl (b d47_0)
  obtain ⟨qn2, cl2, Ar2, S2, H2⟩ := id Y_r0
  obtain ⟨T4, X4, e4, st4⟩ := getS2 X1 hx hZ hown (host := "") (Or.inl (w 241 rfl)) Via.refl e1 (O5.ext X00.2) (g := (mkF m 42 #[vr r0, vi (Int32.ofNat ((2 * i) + 1))] [(.int ((f (2 * i)) &&& (255 : Int32)))])) rfl (b d47_42)
  obtain ⟨qn5, cl5, Ar5, S5, H5⟩ := id Y_r0
  obtain ⟨T7, X7, e7, st7⟩ := getS2 X4 hx hZ hown (host := "") (Or.inl (w 242 rfl)) Via.refl e4 (O6.ext X00.2) (g := (mkF m 53 #[vr r0, vi (Int32.ofNat ((2 * i) + 1))] [(.int ((f ((2 * i) + 1)) &&& (255 : Int32))), (.int (((f (2 * i)) &&& (255 : Int32)) <<< ((0 : Int32) &&& 31)))])) rfl (b d47_53)
  have pre8 : Pr p e below s₁ E0 T7 (mkF m 59 #[vr r0, vi (Int32.ofNat ((2 * i) + 1))] [(.int (((((f (2 * i)) &&& (255 : Int32)) <<< ((0 : Int32) &&& 31)) ||| (((f ((2 * i) + 1)) &&& (255 : Int32)) <<< ((8 : Int32) &&& 31))).toUInt32.toUInt16.toUInt32.toInt32))]) := fun t k => pre0 t (by
    refine st1 _ ?_
    show Sp p e below T1 (mkF m 3 #[vr r0, vi (Int32.ofNat i)] [(.int (1 : Int32))]) t
    refine XS.ifYes X1.here hx rfl (pc0 := 3) (pc' := 28) rfl (b d47_3) rfl ((if0 _ _).trans (feq (by decide : ¬ ((1 : Int32) = (0 : Int32)))).2) (by decide) (by decide) ?_
    refine XS.iloadN X1.here hx rfl (b d47_28) rfl ?_
    refine XS.iconst X1.here hx rfl (b d47_29) ?_
    refine XS.ishl X1.here hx rfl (b d47_30) rfl ?_
    show Sp p e below T1 (mkF m 31 #[vr r0, vi (Int32.ofNat i)] [(.int ((Int32.ofNat i) <<< ((1 : Int32) &&& 31)))]) t
    rw [own_shl (a := i) (by omega)]
    show Sp p e below T1 (mkF m 31 #[vr r0, vi (Int32.ofNat i)] [(.int (Int32.ofNat (2 * i)))]) t
    refine XS.istoreN X1.here hx rfl (b d47_31) rfl (l' := #[vr r0, vi (Int32.ofNat (2 * i))]) rfl ?_
    refine XS.aloadN X1.here hx rfl (b d47_32) rfl rfl ?_
    refine XS.iloadN X1.here hx rfl (b d47_33) rfl ?_
    refine XS.iinc X1.here hx rfl (b d47_34) rfl (l' := #[vr r0, vi ((Int32.ofNat (2 * i)) + (1 : Int32))]) rfl ?_
    show Sp p e below T1 (mkF m 37 #[vr r0, vi ((Int32.ofNat (2 * i)) + (1 : Int32))] [(.int (Int32.ofNat (2 * i))), (.ref r0)]) t
    rw [own_a1 (2 * i)]
    show Sp p e below T1 (mkF m 37 #[vr r0, vi (Int32.ofNat ((2 * i) + 1))] [(.int (Int32.ofNat (2 * i))), (.ref r0)]) t
    refine X1.baloadBytes hx (j := (Int32.ofNat (2 * i))) (v := (.int (f (2 * i)))) (by rw [e1]; exact Ar2.1) (State.isArrayOf_alike hZ.alike Ar2.2.1) Ar2.2.2 (own_in qn2 S2 (show (2 * i) < N by omega)) (own_at qn2 H2 (show (2 * i) < N by omega)) (g := (mkF m 37 #[vr r0, vi (Int32.ofNat ((2 * i) + 1))] [(.int (Int32.ofNat (2 * i))), (.ref r0)])) rfl rfl (b d47_37) _ ?_
    show Sp p e below T1 (mkF m 38 #[vr r0, vi (Int32.ofNat ((2 * i) + 1))] [(.int (f (2 * i)))]) t
    refine XS.sipush X1.here hx rfl (b d47_38) ?_
    refine XS.iand X1.here hx rfl (b d47_41) rfl ?_
    refine st4 _ ?_
    show Sp p e below T4 (mkF m 45 #[vr r0, vi (Int32.ofNat ((2 * i) + 1))] [(.int (0 : Int32)), (.int ((f (2 * i)) &&& (255 : Int32)))]) t
    refine XS.ishl X4.here hx rfl (b d47_45) rfl ?_
    refine XS.aloadN X4.here hx rfl (b d47_46) rfl rfl ?_
    refine XS.iloadN X4.here hx rfl (b d47_47) rfl ?_
    refine X4.baloadBytes hx (j := (Int32.ofNat ((2 * i) + 1))) (v := (.int (f ((2 * i) + 1)))) (by rw [e4]; exact Ar5.1) (State.isArrayOf_alike hZ.alike Ar5.2.1) Ar5.2.2 (own_in qn5 S5 (show ((2 * i) + 1) < N by omega)) (own_at qn5 H5 (show ((2 * i) + 1) < N by omega)) (g := (mkF m 48 #[vr r0, vi (Int32.ofNat ((2 * i) + 1))] [(.int (Int32.ofNat ((2 * i) + 1))), (.ref r0), (.int (((f (2 * i)) &&& (255 : Int32)) <<< ((0 : Int32) &&& 31)))])) rfl rfl (b d47_48) _ ?_
    show Sp p e below T4 (mkF m 49 #[vr r0, vi (Int32.ofNat ((2 * i) + 1))] [(.int (f ((2 * i) + 1))), (.int (((f (2 * i)) &&& (255 : Int32)) <<< ((0 : Int32) &&& 31)))]) t
    refine XS.sipush X4.here hx rfl (b d47_49) ?_
    refine XS.iand X4.here hx rfl (b d47_52) rfl ?_
    refine st7 _ ?_
    show Sp p e below T7 (mkF m 56 #[vr r0, vi (Int32.ofNat ((2 * i) + 1))] [(.int (8 : Int32)), (.int ((f ((2 * i) + 1)) &&& (255 : Int32))), (.int (((f (2 * i)) &&& (255 : Int32)) <<< ((0 : Int32) &&& 31)))]) t
    refine XS.ishl X7.here hx rfl (b d47_56) rfl ?_
    refine XS.ior X7.here hx rfl (b d47_57) rfl ?_
    refine XS.i2c X7.here hx rfl (b d47_58) rfl ?_
    exact k)
  exact own_end X7 hlk (v := some (.int (nar .char (((((f (2 * i)) &&& (255 : Int32)) <<< ((0 : Int32) &&& 31)) ||| (((f ((2 * i) + 1)) &&& (255 : Int32)) <<< ((8 : Int32) &&& 31))).toUInt32.toUInt16.toUInt32.toInt32)))) (own_hv hret) pre8 (fun fs hr => retN X7 hx (t := .char) hret (by simp) (b d47_59) hr) (by rw [e7]; exact ⟨rfl, N0, rfl⟩)
abbrev C43 := jdk_52_method_14_code
theorem d43_0 : dk C43 0 (.iload_n 2) 1 := by decide +kernel
theorem d43_1 : dk C43 1 (.invokestatic 107) 3 := by decide +kernel
theorem own_pd5 : parseMethodDescriptor "(I)[B" = some ⟨[.int], some (.array .byte)⟩ := by decide +kernel
theorem d43_4 : dk C43 4 (.astore_n 3) 1 := by decide +kernel
theorem d43_5 : dk C43 5 (.iconst 0) 1 := by decide +kernel
theorem d43_6 : dk C43 6 (.istore 4) 2 := by decide +kernel
theorem d43_8 : dk C43 8 (.iload 4) 2 := by decide +kernel
theorem d43_10 : dk C43 10 (.iload_n 2) 1 := by decide +kernel
theorem d43_11 : dk C43 11 (.if_icmp .ge 21) 3 := by decide +kernel
theorem d43_14 : dk C43 14 (.aload_n 3) 1 := by decide +kernel
theorem d43_15 : dk C43 15 (.iload 4) 2 := by decide +kernel
theorem d43_17 : dk C43 17 (.aload_n 0) 1 := by decide +kernel
theorem d43_18 : dk C43 18 (.iload_n 1) 1 := by decide +kernel
theorem d43_19 : dk C43 19 .caload 1 := by decide +kernel
theorem d43_20 : dk C43 20 (.invokestatic 111) 3 := by decide +kernel
theorem own_pd6 : parseMethodDescriptor "([BII)V" = some ⟨[(.array .byte), .int, .int], none⟩ := by decide +kernel
theorem d43_23 : dk C43 23 (.iinc 1 1) 3 := by decide +kernel
theorem d43_26 : dk C43 26 (.iinc 4 1) 3 := by decide +kernel
theorem d43_29 : dk C43 29 (.goto (-21)) 3 := by decide +kernel
theorem d43_32 : dk C43 32 (.aload_n 3) 1 := by decide +kernel
theorem d43_33 : dk C43 33 .areturn 1 := by decide +kernel
def Q_tb (Z : State) (r0 : Addr) (n : Nat) (f : Nat → Int32) (h0 : Heap) (n0 : Nat) (v : Option Value) (h : Heap) (L : List Loc) : Prop := ∃ b g, v = some (.ref b) ∧ Fr n0 L ∧ h0.size ≤ b ∧ Keep h0 h [] ∧ Ay Z h b .byte (2 * n) g ∧ Exa Z h b "[B" ∧ ∀ j, j < n → g (2 * j) = own_lo (f j) ∧ g (2 * j + 1) = own_hi (f j)
theorem rm_tb (l : Launch) (Z : State) (a0 : Array Value) (hw : Hw a0 Z) (r0 : Addr) (n : Nat) (f : Nat → Int32) (h0 : Heap) (n0 : Nat) (Z0 : n0 ≤ h0.size) (hst : own_St Z) (X00 : Old Z n0 h0) (Y_r0 : Ay Z h0 r0 .char n f) (hn : n ≤ 5) : Mt l (⟨"java/lang/StringUTF16", "toBytes", "([CII)[B"⟩ : MethodName) C43 5 (some (.array .byte)) ({ frames := 2, cells := 1, slots := 10, locals := 24 } : Room) #[(.ref r0), (.int (0 : Int32)), (.int (Int32.ofNat n))] Z h0 (Q_tb Z r0 n f h0 n0) := by
  have w := own_w hw
  refine own_go (L0 := #[vr r0, vi (0 : Int32), vi (Int32.ofNat n), vu, vu]) n0 (plainFor_of_name own_pn3) (fun m => rfl) fun p e s m below meth c s₁ E0 hx b hml hown hnm hret hlk hZ X0 e0 N0 pre0 => ?_
  have K0 : Keep h0 h0 [] := Keep.refl h0 _
  obtain ⟨_, T1, L1, X1, hQ1, st1⟩ := own_cS X0 hx hml hZ hown (rm_nbf l Z a0 hw n h0 n0 Z0 (by omega)) (w 230 rfl) (w 231 rfl) (w 25 rfl) (w 232 rfl) e0 (g := (mkF m 1 #[vr r0, vi (0 : Int32), vi (Int32.ofNat n), vu, vu] [(.int (Int32.ofNat n))])) (argsL := [(.int (Int32.ofNat n))]) (rest := []) (W := 0) (lenOf own_pd5 rfl) (b d43_1)
  obtain ⟨b1, rfl, Nq1, szq1, Kq1, Yq1, Exq1⟩ := hQ1
  have N1 := Fr.app N0 Nq1
  have f2_1 := Y_r0.keep Kq1 nin0
  have od2 := X00.keep Kq1 all0
  have Z1 : n0 ≤ T1.heap.size := Nat.le_trans Z0 Kq1.1
  have K1 := K0.trans Kq1 all0
  have ne_r0_b1 : r0 ≠ b1 := Nat.ne_of_lt (Nat.lt_of_lt_of_le Y_r0.lt szq1)
  have sz_b1 : h0.size ≤ b1 := Nat.le_trans K0.1 szq1
  have g_b1 : n0 ≤ b1 := Nat.le_trans Z0 szq1
  have pre4 : Pr p e below s₁ E0 T1 (mkF m 8 #[vr r0, vi (0 : Int32), vi (Int32.ofNat n), vr b1, vi (0 : Int32)] []) := fun t k => pre0 t (by
    refine XS.iloadN X0.here hx rfl (b d43_0) rfl ?_
    refine st1 _ ?_
    show Sp p e below T1 (mkF m 4 #[vr r0, vi (0 : Int32), vi (Int32.ofNat n), vu, vu] [(.ref b1)]) t
    refine XS.astoreN X1.here hx rfl (b d43_4) rfl rfl (l' := #[vr r0, vi (0 : Int32), vi (Int32.ofNat n), vr b1, vu]) rfl ?_
    refine XS.iconst X1.here hx rfl (b d43_5) ?_
    refine XS.istore X1.here hx rfl (b d43_6) rfl (l' := #[vr r0, vi (0 : Int32), vi (Int32.ofNat n), vr b1, vi (0 : Int32)]) rfl ?_
    exact k)
  refine own_loop (fun k => ∃ (i : Nat) (g : Nat → Int32) (T5 : State) (LL5 : List Loc) (H5 : Heap), n - i = k ∧ (i ≤ n) ∧ (∀ j, j < i → g (2 * j) = own_lo (f j) ∧ g (2 * j + 1) = own_hi (f j)) ∧ Stand p l e ({ frames := 2, cells := 1, slots := 10, locals := 24 } : Room) s m #[(.ref r0), (.int (0 : Int32)), (.int (Int32.ofNat n))] below meth c T5 LL5 (1) (10) ∧ Fr n0 LL5 ∧ T5.heap = H5 ∧ n0 ≤ H5.size ∧ Keep h0 H5 [] ∧ (Ay Z H5 r0 .char n f) ∧ (Old Z n0 H5) ∧ (Ay Z H5 b1 .byte (2 * n) g) ∧ (Exa Z H5 b1 "[B") ∧ Pr p e below s₁ E0 T5 (mkF m 8 #[vr r0, vi (Int32.ofNat i), vi (Int32.ofNat n), vr b1, vi (Int32.ofNat i)] [])) ?_ _ ⟨0, (fun _ => 0), T1, _, T1.heap, rfl, (by omega), (fun j hj => absurd hj (by omega)), X1, N1, rfl, Z1, K1, f2_1, od2, Yq1, Exq1, pre4⟩
  rintro k5 ⟨i, g, T5, LL5, H5, hm5, hi, hg, X5, N5, e5, Z5, K5, lf5_0, lf5_1, lf5_2, lf5_3, pre5⟩ ih5
  have pre7 : Pr p e below s₁ E0 T5 (mkF m 11 #[vr r0, vi (Int32.ofNat i), vi (Int32.ofNat n), vr b1, vi (Int32.ofNat i)] [(.int (Int32.ofNat n)), (.int (Int32.ofNat i))]) := fun t k => pre5 t (by
    refine XS.iload X5.here hx rfl (b d43_8) rfl ?_
    refine XS.iloadN X5.here hx rfl (b d43_10) rfl ?_
    exact k)
  by_cases hc6 : i < n
  · obtain ⟨qn8, cl8, Ar8, S8, H8⟩ := id lf5_0
    obtain ⟨_, T10, L10, X10, hQ10, st10⟩ := own_cS X5 hx hml hZ hown (rm_pc l Z a0 hw b1 (f i) i (2 * n) g H5 n0 Z5 hst lf5_1 lf5_2 (by omega) g_b1 (by omega)) (w 237 rfl) (w 238 rfl) (w 25 rfl) (w 239 rfl) e5 (g := (mkF m 20 #[vr r0, vi (Int32.ofNat i), vi (Int32.ofNat n), vr b1, vi (Int32.ofNat i)] [(.int (f i)), (.int (Int32.ofNat i)), (.ref b1)])) (argsL := [(.ref b1), (.int (Int32.ofNat i)), (.int (f i))]) (rest := []) (W := 0) (lenOf own_pd6 rfl) (b d43_20)
    obtain ⟨rfl, Nq10, Kq10, Yq10⟩ := hQ10
    have N10 := Fr.app N5 Nq10
    have f11_1 := lf5_0.keep Kq10 (ninS ne_r0_b1 nin0)
    have od11 := lf5_1.keep Kq10 (allS g_b1 all0)
    have f11_3 := lf5_3.keep Kq10
    have Z10 : n0 ≤ T10.heap.size := Nat.le_trans Z5 Kq10.1
    have K10 := K5.trans Kq10 (allS (Or.inr sz_b1) all0)
    have pre13 : Pr p e below s₁ E0 T10 (mkF m 8 #[vr r0, vi (Int32.ofNat (i + 1)), vi (Int32.ofNat n), vr b1, vi (Int32.ofNat (i + 1))] []) := fun t k => pre7 t (by
      refine XS.icmpNo X5.here hx rfl (b d43_11) rfl (tlt (own_ltT (a := i) (b := n) hc6 (by omega))).2.1 ?_
      refine XS.aloadN X5.here hx rfl (b d43_14) rfl rfl ?_
      refine XS.iload X5.here hx rfl (b d43_15) rfl ?_
      refine XS.aloadN X5.here hx rfl (b d43_17) rfl rfl ?_
      refine XS.iloadN X5.here hx rfl (b d43_18) rfl ?_
      refine X5.caload hx (j := (Int32.ofNat i)) (v := (.int (f i))) (by rw [e5]; exact Ar8.1) (State.isArrayOf_alike hZ.alike Ar8.2.1) Ar8.2.2 (own_in qn8 S8 (show i < n by omega)) (own_at qn8 H8 (show i < n by omega)) (g := (mkF m 19 #[vr r0, vi (Int32.ofNat i), vi (Int32.ofNat n), vr b1, vi (Int32.ofNat i)] [(.int (Int32.ofNat i)), (.ref r0), (.int (Int32.ofNat i)), (.ref b1)])) rfl rfl (b d43_19) _ ?_
      show Sp p e below T5 (mkF m 20 #[vr r0, vi (Int32.ofNat i), vi (Int32.ofNat n), vr b1, vi (Int32.ofNat i)] [(.int (f i)), (.int (Int32.ofNat i)), (.ref b1)]) t
      refine st10 _ ?_
      show Sp p e below T10 (mkF m 23 #[vr r0, vi (Int32.ofNat i), vi (Int32.ofNat n), vr b1, vi (Int32.ofNat i)] []) t
      refine XS.iinc X10.here hx rfl (b d43_23) rfl (l' := #[vr r0, vi ((Int32.ofNat i) + (1 : Int32)), vi (Int32.ofNat n), vr b1, vi (Int32.ofNat i)]) rfl ?_
      show Sp p e below T10 (mkF m 26 #[vr r0, vi ((Int32.ofNat i) + (1 : Int32)), vi (Int32.ofNat n), vr b1, vi (Int32.ofNat i)] []) t
      rw [own_a1 i]
      show Sp p e below T10 (mkF m 26 #[vr r0, vi (Int32.ofNat (i + 1)), vi (Int32.ofNat n), vr b1, vi (Int32.ofNat i)] []) t
      refine XS.iinc X10.here hx rfl (b d43_26) rfl (l' := #[vr r0, vi (Int32.ofNat (i + 1)), vi (Int32.ofNat n), vr b1, vi ((Int32.ofNat i) + (1 : Int32))]) rfl ?_
      show Sp p e below T10 (mkF m 29 #[vr r0, vi (Int32.ofNat (i + 1)), vi (Int32.ofNat n), vr b1, vi ((Int32.ofNat i) + (1 : Int32))] []) t
      rw [own_a1 i]
      show Sp p e below T10 (mkF m 29 #[vr r0, vi (Int32.ofNat (i + 1)), vi (Int32.ofNat n), vr b1, vi (Int32.ofNat (i + 1))] []) t
      refine XS.goto X10.here hx rfl (pc0 := 29) (pc' := 8) rfl (b d43_29) (by decide) (by decide) ?_
      exact k)
    exact ih5 (n - (i + 1)) (by omega) ⟨(i + 1), (fun x => if x = ((2 * i) + 1) then (own_hi (f i)) else (fun x => if x = (2 * i) then (own_lo (f i)) else g x) x), T10, _, T10.heap, rfl, (by omega), (own_tb hg), X10, N10, rfl, Z10, K10, f11_1, od11, Yq10, f11_3, pre13⟩
  · have pre14 : Pr p e below s₁ E0 T5 (mkF m 33 #[vr r0, vi (Int32.ofNat i), vi (Int32.ofNat n), vr b1, vi (Int32.ofNat i)] [(.ref b1)]) := fun t k => pre7 t (by
      refine XS.icmpYes X5.here hx rfl (pc0 := 11) (pc' := 32) rfl (b d43_11) rfl (flt (own_ltF (a := i) (b := n) hc6 (by omega))).2.1 (by decide) (by decide) ?_
      refine XS.aloadN X5.here hx rfl (b d43_32) rfl rfl ?_
      exact k)
    exact own_end X5 hlk (v := some (.ref b1)) (own_hv hret) pre14 (fun fs hr => own_ra X5 hx hret rfl (b d43_33) hr) (by rw [e5]; exact ⟨b1, g, rfl, N5, sz_b1, K5, lf5_2, lf5_3, fun j hj => hg j (by omega)⟩)
abbrev C7 := jdk_52_method_21_code
theorem d7_0 : dk C7 0 (.iconst 0) 1 := by decide +kernel
theorem d7_1 : dk C7 1 (.istore 5) 2 := by decide +kernel
theorem d7_3 : dk C7 3 (.iload 5) 2 := by decide +kernel
theorem d7_5 : dk C7 5 (.iload 4) 2 := by decide +kernel
theorem d7_7 : dk C7 7 (.if_icmp .ge 37) 3 := by decide +kernel
theorem d7_10 : dk C7 10 (.aload_n 0) 1 := by decide +kernel
theorem d7_11 : dk C7 11 (.iload_n 1) 1 := by decide +kernel
theorem d7_12 : dk C7 12 .caload 1 := by decide +kernel
theorem d7_13 : dk C7 13 (.istore 6) 2 := by decide +kernel
theorem d7_15 : dk C7 15 (.iload 6) 2 := by decide +kernel
theorem d7_17 : dk C7 17 (.sipush 255) 3 := by decide +kernel
theorem d7_20 : dk C7 20 (.if_icmp .le 6) 3 := by decide +kernel
theorem d7_23 : dk C7 23 (.iload 5) 2 := by decide +kernel
theorem d7_25 : dk C7 25 .ireturn 1 := by decide +kernel
theorem d7_26 : dk C7 26 (.aload_n 2) 1 := by decide +kernel
theorem d7_27 : dk C7 27 (.iload_n 3) 1 := by decide +kernel
theorem d7_28 : dk C7 28 (.iload 6) 2 := by decide +kernel
theorem d7_30 : dk C7 30 .i2b 1 := by decide +kernel
theorem d7_31 : dk C7 31 .bastore 1 := by decide +kernel
theorem d7_32 : dk C7 32 (.iinc 1 1) 3 := by decide +kernel
theorem d7_35 : dk C7 35 (.iinc 3 1) 3 := by decide +kernel
theorem d7_38 : dk C7 38 (.iinc 5 1) 3 := by decide +kernel
theorem d7_41 : dk C7 41 (.goto (-38)) 3 := by decide +kernel
theorem d7_44 : dk C7 44 (.iload 4) 2 := by decide +kernel
theorem d7_46 : dk C7 46 .ireturn 1 := by decide +kernel
def Q_cc (Z : State) (r0 : Addr) (r2 : Addr) (n : Nat) (f : Nat → Int32) (g0 : Nat → Int32) (h0 : Heap) (n0 : Nat) (v : Option Value) (h : Heap) (L : List Loc) : Prop := ∃ k g, v = some (.int (Int32.ofNat k)) ∧ Fr n0 L ∧ Keep h0 h [r2] ∧ Ay Z h r2 .byte n g ∧ k ≤ n ∧ (∀ j, j < k → g j = own_b (f j) ∧ ¬ (255 : Int32) < f j) ∧ (k < n → (255 : Int32) < f k)
theorem rm_cc (l : Launch) (Z : State) (a0 : Array Value) (hw : Hw a0 Z) (r0 : Addr) (r2 : Addr) (n : Nat) (f : Nat → Int32) (g0 : Nat → Int32) (h0 : Heap) (n0 : Nat) (Z0 : n0 ≤ h0.size) (Y_r0 : Ay Z h0 r0 .char n f) (Y_r2 : Ay Z h0 r2 .byte n g0) (g_r2 : n0 ≤ r2) (ne02 : r0 ≠ r2) (hn : n ≤ 5) : Mt l (⟨"java/lang/StringUTF16", "compress", "([CI[BII)I"⟩ : MethodName) C7 7 (some .int) ({ frames := 0, cells := 0, slots := 0, locals := 0 } : Room) #[(.ref r0), (.int (0 : Int32)), (.ref r2), (.int (0 : Int32)), (.int (Int32.ofNat n))] Z h0 (Q_cc Z r0 r2 n f g0 h0 n0) := by
  have w := own_w hw
  refine own_go (L0 := #[vr r0, vi (0 : Int32), vr r2, vi (0 : Int32), vi (Int32.ofNat n), vu, vu]) n0 (plainFor_of_name own_pn3) (fun m => rfl) fun p e s m below meth c s₁ E0 hx b hml hown hnm hret hlk hZ X0 e0 N0 pre0 => ?_
  have K0 : Keep h0 h0 [r2] := Keep.refl h0 _
  have pre1 : Pr p e below s₁ E0 s₁ (mkF m 3 #[vr r0, vi (0 : Int32), vr r2, vi (0 : Int32), vi (Int32.ofNat n), vi (0 : Int32), vu] []) := fun t k => pre0 t (by
    refine XS.iconst X0.here hx rfl (b d7_0) ?_
    refine XS.istore X0.here hx rfl (b d7_1) rfl (l' := #[vr r0, vi (0 : Int32), vr r2, vi (0 : Int32), vi (Int32.ofNat n), vi (0 : Int32), vu]) rfl ?_
    exact k)
  refine own_loop (fun k => ∃ (i : Nat) (g : Nat → Int32) (q6 : Slot) (T2 : State) (LL2 : List Loc) (H2 : Heap), n - i = k ∧ (i ≤ n) ∧ (∀ j, j < i → g j = own_b (f j) ∧ ¬ (255 : Int32) < f j) ∧ (q6 = .unset ∨ ∃ x, q6 = .val (.int x)) ∧ Stand p l e ({ frames := 0, cells := 0, slots := 0, locals := 0 } : Room) s m #[(.ref r0), (.int (0 : Int32)), (.ref r2), (.int (0 : Int32)), (.int (Int32.ofNat n))] below meth c T2 LL2 (0) (0) ∧ Fr n0 LL2 ∧ T2.heap = H2 ∧ n0 ≤ H2.size ∧ Keep h0 H2 [r2] ∧ (Ay Z H2 r0 .char n f) ∧ (Ay Z H2 r2 .byte n g) ∧ Pr p e below s₁ E0 T2 (mkF m 3 #[vr r0, vi (Int32.ofNat i), vr r2, vi (Int32.ofNat i), vi (Int32.ofNat n), vi (Int32.ofNat i), q6] [])) ?_ _ ⟨0, g0, .unset, s₁, _, h0, rfl, (by omega), (fun j hj => absurd hj (by omega)), (Or.inl rfl), X0, N0, e0, Z0, K0, Y_r0, Y_r2, pre1⟩
  rintro k2 ⟨i, g, q6, T2, LL2, H2, hm2, hi, hg, hq6, X2, N2, e2, Z2, K2, lf2_0, lf2_1, pre2⟩ ih2
  have pre4 : Pr p e below s₁ E0 T2 (mkF m 7 #[vr r0, vi (Int32.ofNat i), vr r2, vi (Int32.ofNat i), vi (Int32.ofNat n), vi (Int32.ofNat i), q6] [(.int (Int32.ofNat n)), (.int (Int32.ofNat i))]) := fun t k => pre2 t (by
    refine XS.iload X2.here hx rfl (b d7_3) rfl ?_
    refine XS.iload X2.here hx rfl (b d7_5) rfl ?_
    exact k)
  by_cases hc3 : i < n
  · obtain ⟨qn5, cl5, Ar5, S5, H5⟩ := id lf2_0
    have pre8 : Pr p e below s₁ E0 T2 (mkF m 20 #[vr r0, vi (Int32.ofNat i), vr r2, vi (Int32.ofNat i), vi (Int32.ofNat n), vi (Int32.ofNat i), vi (f i)] [(.int (255 : Int32)), (.int (f i))]) := fun t k => pre4 t (by
      refine XS.icmpNo X2.here hx rfl (b d7_7) rfl (tlt (own_ltT (a := i) (b := n) hc3 (by omega))).2.1 ?_
      refine XS.aloadN X2.here hx rfl (b d7_10) rfl rfl ?_
      refine XS.iloadN X2.here hx rfl (b d7_11) rfl ?_
      refine X2.caload hx (j := (Int32.ofNat i)) (v := (.int (f i))) (by rw [e2]; exact Ar5.1) (State.isArrayOf_alike hZ.alike Ar5.2.1) Ar5.2.2 (own_in qn5 S5 (show i < n by omega)) (own_at qn5 H5 (show i < n by omega)) (g := (mkF m 12 #[vr r0, vi (Int32.ofNat i), vr r2, vi (Int32.ofNat i), vi (Int32.ofNat n), vi (Int32.ofNat i), q6] [(.int (Int32.ofNat i)), (.ref r0)])) rfl rfl (b d7_12) _ ?_
      show Sp p e below T2 (mkF m 13 #[vr r0, vi (Int32.ofNat i), vr r2, vi (Int32.ofNat i), vi (Int32.ofNat n), vi (Int32.ofNat i), q6] [(.int (f i))]) t
      refine XS.istore X2.here hx rfl (b d7_13) rfl (l' := #[vr r0, vi (Int32.ofNat i), vr r2, vi (Int32.ofNat i), vi (Int32.ofNat n), vi (Int32.ofNat i), vi (f i)]) (by rcases hq6 with rfl | ⟨x, rfl⟩ <;> rfl) ?_
      refine XS.iload X2.here hx rfl (b d7_15) rfl ?_
      refine XS.sipush X2.here hx rfl (b d7_17) ?_
      exact k)
    by_cases hc7 : (255 : Int32) < (f i)
    · have pre9 : Pr p e below s₁ E0 T2 (mkF m 25 #[vr r0, vi (Int32.ofNat i), vr r2, vi (Int32.ofNat i), vi (Int32.ofNat n), vi (Int32.ofNat i), vi (f i)] [(.int (Int32.ofNat i))]) := fun t k => pre8 t (by
        refine XS.icmpNo X2.here hx rfl (b d7_20) rfl (tlt hc7).2.2.2 ?_
        refine XS.iload X2.here hx rfl (b d7_23) rfl ?_
        exact k)
      exact own_end X2 hlk (v := some (.int (Int32.ofNat i))) (own_hv hret) pre9 (fun fs hr => retI X2 hx hret (b d7_25) hr) (by rw [e2]; exact ⟨i, g, rfl, N2, K2, lf2_1, by omega, hg, fun _ => hc7⟩)
    · obtain ⟨qn10, cl10, Ar10, S10, H10⟩ := id lf2_1
      obtain ⟨T11, h11, X11, e11, W11, st11⟩ := stB X2 hx hZ e2 Ar10 (j := (Int32.ofNat i)) (own_in qn10 S10 (show i < n by omega)) (g := (mkF m 31 #[vr r0, vi (Int32.ofNat i), vr r2, vi (Int32.ofNat i), vi (Int32.ofNat n), vi (Int32.ofNat i), vi (f i)] [(.int ((f i).toInt8.toInt32)), (.int (Int32.ofNat i)), (.ref r2)])) rfl rfl (b d7_31)
      have Y11 : Ay Z h11 r2 .byte n (fun x => if x = i then (nar .byte ((f i).toInt8.toInt32)) else g x) := Ay.put qn10 Ar10 S10 H10 (show i < n by omega) W11 (fits_nar_byte _)
      have f12_1 := lf2_0.other W11 ne02
      have N11 := Fr.snoc X11 N2 g_r2
      have Z11 : n0 ≤ h11.size := Nat.le_trans Z2 (Keep.of_wr W11).1
      have K11 := K2.wr W11 (Or.inl (by simp))
      have pre14 : Pr p e below s₁ E0 T11 (mkF m 3 #[vr r0, vi (Int32.ofNat (i + 1)), vr r2, vi (Int32.ofNat (i + 1)), vi (Int32.ofNat n), vi (Int32.ofNat (i + 1)), vi (f i)] []) := fun t k => pre8 t (by
        refine XS.icmpYes X2.here hx rfl (pc0 := 20) (pc' := 26) rfl (b d7_20) rfl (flt hc7).2.2.2 (by decide) (by decide) ?_
        refine XS.aloadN X2.here hx rfl (b d7_26) rfl rfl ?_
        refine XS.iloadN X2.here hx rfl (b d7_27) rfl ?_
        refine XS.iload X2.here hx rfl (b d7_28) rfl ?_
        refine XS.i2b X2.here hx rfl (b d7_30) rfl ?_
        refine st11 _ ?_
        show Sp p e below T11 (mkF m 32 #[vr r0, vi (Int32.ofNat i), vr r2, vi (Int32.ofNat i), vi (Int32.ofNat n), vi (Int32.ofNat i), vi (f i)] []) t
        refine XS.iinc X11.here hx rfl (b d7_32) rfl (l' := #[vr r0, vi ((Int32.ofNat i) + (1 : Int32)), vr r2, vi (Int32.ofNat i), vi (Int32.ofNat n), vi (Int32.ofNat i), vi (f i)]) rfl ?_
        show Sp p e below T11 (mkF m 35 #[vr r0, vi ((Int32.ofNat i) + (1 : Int32)), vr r2, vi (Int32.ofNat i), vi (Int32.ofNat n), vi (Int32.ofNat i), vi (f i)] []) t
        rw [own_a1 i]
        show Sp p e below T11 (mkF m 35 #[vr r0, vi (Int32.ofNat (i + 1)), vr r2, vi (Int32.ofNat i), vi (Int32.ofNat n), vi (Int32.ofNat i), vi (f i)] []) t
        refine XS.iinc X11.here hx rfl (b d7_35) rfl (l' := #[vr r0, vi (Int32.ofNat (i + 1)), vr r2, vi ((Int32.ofNat i) + (1 : Int32)), vi (Int32.ofNat n), vi (Int32.ofNat i), vi (f i)]) rfl ?_
        show Sp p e below T11 (mkF m 38 #[vr r0, vi (Int32.ofNat (i + 1)), vr r2, vi ((Int32.ofNat i) + (1 : Int32)), vi (Int32.ofNat n), vi (Int32.ofNat i), vi (f i)] []) t
        rw [own_a1 i]
        show Sp p e below T11 (mkF m 38 #[vr r0, vi (Int32.ofNat (i + 1)), vr r2, vi (Int32.ofNat (i + 1)), vi (Int32.ofNat n), vi (Int32.ofNat i), vi (f i)] []) t
        refine XS.iinc X11.here hx rfl (b d7_38) rfl (l' := #[vr r0, vi (Int32.ofNat (i + 1)), vr r2, vi (Int32.ofNat (i + 1)), vi (Int32.ofNat n), vi ((Int32.ofNat i) + (1 : Int32)), vi (f i)]) rfl ?_
        show Sp p e below T11 (mkF m 41 #[vr r0, vi (Int32.ofNat (i + 1)), vr r2, vi (Int32.ofNat (i + 1)), vi (Int32.ofNat n), vi ((Int32.ofNat i) + (1 : Int32)), vi (f i)] []) t
        rw [own_a1 i]
        show Sp p e below T11 (mkF m 41 #[vr r0, vi (Int32.ofNat (i + 1)), vr r2, vi (Int32.ofNat (i + 1)), vi (Int32.ofNat n), vi (Int32.ofNat (i + 1)), vi (f i)] []) t
        refine XS.goto X11.here hx rfl (pc0 := 41) (pc' := 3) rfl (b d7_41) (by decide) (by decide) ?_
        exact k)
      -- local 6: (f i) / (vi (f i))
      exact ih2 (n - (i + 1)) (by omega) ⟨(i + 1), (fun x => if x = i then (nar .byte ((f i).toInt8.toInt32)) else g x), (vi (f i)), T11, _, h11, rfl, (by omega), (own_cc hg hc7), (Or.inr ⟨_, rfl⟩), X11, N11, e11, Z11, K11, f12_1, Y11, pre14⟩
  · have pre15 : Pr p e below s₁ E0 T2 (mkF m 46 #[vr r0, vi (Int32.ofNat i), vr r2, vi (Int32.ofNat i), vi (Int32.ofNat n), vi (Int32.ofNat i), q6] [(.int (Int32.ofNat n))]) := fun t k => pre4 t (by
      refine XS.icmpYes X2.here hx rfl (pc0 := 7) (pc' := 44) rfl (b d7_7) rfl (flt (own_ltF (a := i) (b := n) hc3 (by omega))).2.1 (by decide) (by decide) ?_
      refine XS.iload X2.here hx rfl (b d7_44) rfl ?_
      exact k)
    exact own_end X2 hlk (v := some (.int (Int32.ofNat n))) (own_hv hret) pre15 (fun fs hr => retI X2 hx hret (b d7_46) hr) (by rw [e2]; exact ⟨n, g, rfl, N2, K2, lf2_1, by omega, fun j hj => hg j (by omega), fun q => absurd q (by omega)⟩)
abbrev C8 := jdk_52_method_15_code
theorem d8_0 : dk C8 0 (.iload_n 1) 1 := by decide +kernel
theorem d8_1 : dk C8 1 (.aload_n 0) 1 := by decide +kernel
theorem d8_2 : dk C8 2 .arraylength 1 := by decide +kernel
theorem d8_3 : dk C8 3 .isub 1 := by decide +kernel
theorem d8_4 : dk C8 4 (.bipush 31) 2 := by decide +kernel
theorem d8_6 : dk C8 6 .iushr 1 := by decide +kernel
theorem d8_7 : dk C8 7 .i2b 1 := by decide +kernel
theorem d8_8 : dk C8 8 .ireturn 1 := by decide +kernel
def Q_cfa (Z : State) (r0 : Addr) (n : Nat) (N : Nat) (f : Nat → Int32) (h0 : Heap) (n0 : Nat) (v : Option Value) (h : Heap) (L : List Loc) : Prop := v = some (.int (own_cfa n N)) ∧ Fr n0 L ∧ h = h0
theorem rm_cfa (l : Launch) (Z : State) (a0 : Array Value) (hw : Hw a0 Z) (r0 : Addr) (n : Nat) (N : Nat) (f : Nat → Int32) (h0 : Heap) (n0 : Nat) (Z0 : n0 ≤ h0.size) (Y_r0 : Ay Z h0 r0 .byte N f) : Mt l (⟨"java/lang/StringUTF16", "coderFromArrayLen", "([BI)B"⟩ : MethodName) C8 2 (some .byte) ({ frames := 0, cells := 0, slots := 0, locals := 0 } : Room) #[(.ref r0), (.int (Int32.ofNat n))] Z h0 (Q_cfa Z r0 n N f h0 n0) := by
  have w := own_w hw
  refine own_go (L0 := #[vr r0, vi (Int32.ofNat n)]) n0 (plainFor_of_name own_pn3) (fun m => rfl) fun p e s m below meth c s₁ E0 hx b hml hown hnm hret hlk hZ X0 e0 N0 pre0 => ?_
  obtain ⟨qn1, cl1, Ar1, S1, H1⟩ := id Y_r0
  have pre2 : Pr p e below s₁ E0 s₁ (mkF m 8 #[vr r0, vi (Int32.ofNat n)] [(.int (((((Int32.ofNat n) - (Int32.ofNat N)).toUInt32 >>> ((31 : Int32) &&& 31).toUInt32).toInt32).toInt8.toInt32))]) := fun t k => pre0 t (by
    refine XS.iloadN X0.here hx rfl (b d8_0) rfl ?_
    refine XS.aloadN X0.here hx rfl (b d8_1) rfl rfl ?_
    refine X0.arraylength hx (by rw [e0]; exact Ar1.1) (State.isArrayOf_alike hZ.alike Ar1.2.1) (g := (mkF m 2 #[vr r0, vi (Int32.ofNat n)] [(.ref r0), (.int (Int32.ofNat n))])) rfl rfl (b d8_2) _ ?_
    rw [own_len S1]
    show Sp p e below s₁ (mkF m 3 #[vr r0, vi (Int32.ofNat n)] [(.int (Int32.ofNat N)), (.int (Int32.ofNat n))]) t
    refine XS.isub X0.here hx rfl (b d8_3) rfl ?_
    refine XS.bipush X0.here hx rfl (b d8_4) ?_
    refine XS.iushr X0.here hx rfl (b d8_6) rfl ?_
    refine XS.i2b X0.here hx rfl (b d8_7) rfl ?_
    exact k)
  exact own_end X0 hlk (v := some (.int (nar .byte (((((Int32.ofNat n) - (Int32.ofNat N)).toUInt32 >>> ((31 : Int32) &&& 31).toUInt32).toInt32).toInt8.toInt32)))) (own_hv hret) pre2 (fun fs hr => retN X0 hx (t := .byte) hret (by simp) (b d8_8) hr) (by rw [e0]; exact ⟨rfl, N0, rfl⟩)
abbrev C6 := jdk_52_method_16_code
theorem d6_0 : dk C6 0 (.iload_n 2) 1 := by decide +kernel
theorem d6_1 : dk C6 1 (.newarray .byte) 2 := by decide +kernel
theorem d6_3 : dk C6 3 (.astore_n 3) 1 := by decide +kernel
theorem d6_4 : dk C6 4 (.aload_n 0) 1 := by decide +kernel
theorem d6_5 : dk C6 5 (.iload_n 1) 1 := by decide +kernel
theorem d6_6 : dk C6 6 (.aload_n 3) 1 := by decide +kernel
theorem d6_7 : dk C6 7 (.iconst 0) 1 := by decide +kernel
theorem d6_8 : dk C6 8 (.iload_n 2) 1 := by decide +kernel
theorem d6_9 : dk C6 9 (.invokestatic 115) 3 := by decide +kernel
theorem own_pd7 : parseMethodDescriptor "([CI[BII)I" = some ⟨[(.array .char), .int, (.array .byte), .int, .int], some .int⟩ := by decide +kernel
theorem d6_12 : dk C6 12 (.istore 4) 2 := by decide +kernel
theorem d6_14 : dk C6 14 (.iload 4) 2 := by decide +kernel
theorem d6_16 : dk C6 16 (.iload_n 2) 1 := by decide +kernel
theorem d6_17 : dk C6 17 (.if_icmp .eq 40) 3 := by decide +kernel
theorem d6_57 : dk C6 57 (.aload_n 3) 1 := by decide +kernel
theorem d6_58 : dk C6 58 .areturn 1 := by decide +kernel
theorem d6_20 : dk C6 20 (.aload_n 0) 1 := by decide +kernel
theorem d6_21 : dk C6 21 (.iload_n 1) 1 := by decide +kernel
theorem d6_22 : dk C6 22 (.iload_n 2) 1 := by decide +kernel
theorem d6_23 : dk C6 23 (.invokestatic 119) 3 := by decide +kernel
theorem own_pd8 : parseMethodDescriptor "([CII)[B" = some ⟨[(.array .char), .int, .int], some (.array .byte)⟩ := by decide +kernel
theorem d6_26 : dk C6 26 (.astore 5) 2 := by decide +kernel
theorem d6_28 : dk C6 28 (.aload 5) 2 := by decide +kernel
theorem d6_30 : dk C6 30 (.iload 4) 2 := by decide +kernel
theorem d6_32 : dk C6 32 (.invokestatic 71) 3 := by decide +kernel
theorem own_pd9 : parseMethodDescriptor "([BI)C" = some ⟨[(.array .byte), .int], some .char⟩ := by decide +kernel
theorem d6_35 : dk C6 35 (.sipush 255) 3 := by decide +kernel
theorem d6_38 : dk C6 38 (.if_icmp .gt 16) 3 := by decide +kernel
theorem d6_54 : dk C6 54 (.aload 5) 2 := by decide +kernel
theorem d6_56 : dk C6 56 .areturn 1 := by decide +kernel
def Q_c3 (Z : State) (r0 : Addr) (n : Nat) (f : Nat → Int32) (li : List Int32) (h0 : Heap) (n0 : Nat) (v : Option Value) (h : Heap) (L : List Loc) : Prop := ∃ b N g, v = some (.ref b) ∧ Fr n0 L ∧ h0.size ≤ b ∧ Keep h0 h [] ∧ Ay Z h b .byte N g ∧ Cod (own_cfa n N) N g n li
theorem rm_c3 (l : Launch) (Z : State) (a0 : Array Value) (hw : Hw a0 Z) (r0 : Addr) (n : Nat) (f : Nat → Int32) (li : List Int32) (h0 : Heap) (n0 : Nat) (Z0 : n0 ≤ h0.size) (hst : own_St Z) (X00 : Old Z n0 h0) (Y_r0 : Ay Z h0 r0 .char n f) (hn : n ≤ 5) (hn1 : 0 < n) (hl : n = li.length) (hf : ∀ i, i < n → f i = li.getD i 0) (hc : Chs li) : Mt l (⟨"java/lang/StringUTF16", "compress", "([CII)[B"⟩ : MethodName) C6 6 (some (.array .byte)) ({ frames := 3, cells := 2, slots := 15, locals := 40 } : Room) #[(.ref r0), (.int (0 : Int32)), (.int (Int32.ofNat n))] Z h0 (Q_c3 Z r0 n f li h0 n0) := by
  have w := own_w hw
  refine own_go (L0 := #[vr r0, vi (0 : Int32), vi (Int32.ofNat n), vu, vu, vu]) n0 (plainFor_of_name own_pn3) (fun m => rfl) fun p e s m below meth c s₁ E0 hx b hml hown hnm hret hlk hZ X0 e0 N0 pre0 => ?_
  have K0 : Keep h0 h0 [] := Keep.refl h0 _
  obtain ⟨T1, h1, k1, X1, e1, E1, A1, Ex1, st1⟩ := newPE X0 hx hZ (w 27 rfl) e0 (g := (mkF m 1 #[vr r0, vi (0 : Int32), vi (Int32.ofNat n), vu, vu, vu] [(.int (Int32.ofNat n))])) rfl (b d6_1) (n := (Int32.ofNat n)) rfl (own_nn (by omega)) (cap := 5) (by rw [own_nc (by omega)]; omega) (by decide) (by decide) (by decide) (ad := "[B") (by decide)
  obtain ⟨b1, g1⟩ : ∃ z, z = h0.size := ⟨_, rfl⟩
  rw [← g1] at A1 Ex1 st1
  have ne_r0_b1 : r0 ≠ b1 := Nat.ne_of_lt (Nat.lt_of_lt_of_le Y_r0.lt (Nat.le_of_eq g1.symm))
  have g_b1 : n0 ≤ b1 := Nat.le_trans Z0 (Nat.le_of_eq g1.symm)
  have sz_b1 : h0.size ≤ b1 := Nat.le_trans K0.1 (Nat.le_of_eq g1.symm)
  have f2_1 := Y_r0.ext E1
  have od2 := X00.ext E1
  have Z1 : n0 ≤ h1.size := Nat.le_trans Z0 E1.1
  have K1 := K0.ext E1
  have Y1 : Ay Z h1 b1 .byte n (fun _ => 0) := Ay.new (by omega) A1 rfl
  obtain ⟨_, T4, L4, X4, hQ4, st4⟩ := own_cS X1 hx hml hZ hown (rm_cc l Z a0 hw r0 b1 n f (fun _ => 0) h1 n0 Z1 f2_1 Y1 g_b1 ne_r0_b1 (by omega)) (w 28 rfl) (w 29 rfl) (w 25 rfl) (w 30 rfl) e1 (g := (mkF m 9 #[vr r0, vi (0 : Int32), vi (Int32.ofNat n), vr b1, vu, vu] [(.int (Int32.ofNat n)), (.int (0 : Int32)), (.ref b1), (.int (0 : Int32)), (.ref r0)])) (argsL := [(.ref r0), (.int (0 : Int32)), (.ref b1), (.int (0 : Int32)), (.int (Int32.ofNat n))]) (rest := []) (W := 0) (lenOf own_pd7 rfl) (b d6_9)
  obtain ⟨kk4, g4, rfl, Nq4, Kq4, Yq4, hk4, hg4, hl4⟩ := hQ4
  have N4 := Fr.app N0 Nq4
  have f5_1 := f2_1.keep Kq4 (ninS ne_r0_b1 nin0)
  have od5 := od2.keep Kq4 (allS g_b1 all0)
  have f5_3 := Ex1.keep Kq4
  have Z4 : n0 ≤ T4.heap.size := Nat.le_trans Z1 Kq4.1
  have K4 := K1.trans Kq4 (allS (Or.inr sz_b1) all0)
  have pre8 : Pr p e below s₁ E0 T4 (mkF m 17 #[vr r0, vi (0 : Int32), vi (Int32.ofNat n), vr b1, vi (Int32.ofNat kk4), vu] [(.int (Int32.ofNat n)), (.int (Int32.ofNat kk4))]) := fun t k => pre0 t (by
    refine XS.iloadN X0.here hx rfl (b d6_0) rfl ?_
    refine st1 _ ?_
    show Sp p e below T1 (mkF m 3 #[vr r0, vi (0 : Int32), vi (Int32.ofNat n), vu, vu, vu] [(.ref b1)]) t
    refine XS.astoreN X1.here hx rfl (b d6_3) rfl rfl (l' := #[vr r0, vi (0 : Int32), vi (Int32.ofNat n), vr b1, vu, vu]) rfl ?_
    refine XS.aloadN X1.here hx rfl (b d6_4) rfl rfl ?_
    refine XS.iloadN X1.here hx rfl (b d6_5) rfl ?_
    refine XS.aloadN X1.here hx rfl (b d6_6) rfl rfl ?_
    refine XS.iconst X1.here hx rfl (b d6_7) ?_
    refine XS.iloadN X1.here hx rfl (b d6_8) rfl ?_
    refine st4 _ ?_
    show Sp p e below T4 (mkF m 12 #[vr r0, vi (0 : Int32), vi (Int32.ofNat n), vr b1, vu, vu] [(.int (Int32.ofNat kk4))]) t
    refine XS.istore X4.here hx rfl (b d6_12) rfl (l' := #[vr r0, vi (0 : Int32), vi (Int32.ofNat n), vr b1, vi (Int32.ofNat kk4), vu]) rfl ?_
    refine XS.iload X4.here hx rfl (b d6_14) rfl ?_
    refine XS.iloadN X4.here hx rfl (b d6_16) rfl ?_
    exact k)
  by_cases hc7 : kk4 = n
  · have pre9 : Pr p e below s₁ E0 T4 (mkF m 58 #[vr r0, vi (0 : Int32), vi (Int32.ofNat n), vr b1, vi (Int32.ofNat kk4), vu] [(.ref b1)]) := fun t k => pre8 t (by
      refine XS.icmpYes X4.here hx rfl (pc0 := 17) (pc' := 57) rfl (b d6_17) rfl (teq (own_eqT (a := kk4) (b := n) hc7)).1 (by decide) (by decide) ?_
      refine XS.aloadN X4.here hx rfl (b d6_57) rfl rfl ?_
      exact k)
    exact own_end X4 hlk (v := some (.ref b1)) (own_hv hret) pre9 (fun fs hr => own_ra X4 hx hret rfl (b d6_58) hr) ⟨b1, n, g4, rfl, N4, sz_b1, K4, Yq4, own_cod0 hc hl hf (fun j hj => hg4 j (by omega))⟩
  · obtain ⟨_, T10, L10, X10, hQ10, st10⟩ := own_cS X4 hx hml hZ hown (rm_tb l Z a0 hw r0 n f T4.heap n0 Z4 hst od5 f5_1 (by omega)) (w 227 rfl) (w 228 rfl) (w 25 rfl) (w 229 rfl) rfl (g := (mkF m 23 #[vr r0, vi (0 : Int32), vi (Int32.ofNat n), vr b1, vi (Int32.ofNat kk4), vu] [(.int (Int32.ofNat n)), (.int (0 : Int32)), (.ref r0)])) (argsL := [(.ref r0), (.int (0 : Int32)), (.int (Int32.ofNat n))]) (rest := []) (W := 0) (lenOf own_pd8 rfl) (b d6_23)
    obtain ⟨b10, f10, rfl, Nq10, szq10, Kq10, Yq10, Exq10, hq10⟩ := hQ10
    have N10 := Fr.app N4 Nq10
    have f11_1 := f5_1.keep Kq10 nin0
    have od11 := od5.keep Kq10 all0
    have f11_2 := f5_3.keep Kq10
    have f11_3 := Yq4.keep Kq10 nin0
    have Z10 : n0 ≤ T10.heap.size := Nat.le_trans Z4 Kq10.1
    have K10 := K4.trans Kq10 all0
    have ne_r0_b10 : r0 ≠ b10 := Nat.ne_of_lt (Nat.lt_of_lt_of_le f5_1.lt szq10)
    have ne_b1_b10 : b1 ≠ b10 := Nat.ne_of_lt (Nat.lt_of_lt_of_le f5_3.lt szq10)
    have sz_b10 : h0.size ≤ b10 := Nat.le_trans K4.1 szq10
    have g_b10 : n0 ≤ b10 := Nat.le_trans Z4 szq10
    obtain ⟨_, T13, L13, X13, hQ13, st13⟩ := own_cS X10 hx hml hZ hown (rm_gc l Z a0 hw b10 kk4 (2 * n) f10 T10.heap n0 Z10 hst od11 Yq10 (by omega) (by omega)) (w 243 rfl) (w 244 rfl) (w 25 rfl) (w 245 rfl) rfl (g := (mkF m 32 #[vr r0, vi (0 : Int32), vi (Int32.ofNat n), vr b1, vi (Int32.ofNat kk4), vr b10] [(.int (Int32.ofNat kk4)), (.ref b10)])) (argsL := [(.ref b10), (.int (Int32.ofNat kk4))]) (rest := []) (W := 0) (lenOf own_pd9 rfl) (b d6_32)
    obtain ⟨rfl, Nq13, e13⟩ := hQ13
    have N13 := Fr.app N10 Nq13
    have pre14 : Pr p e below s₁ E0 T13 (mkF m 56 #[vr r0, vi (0 : Int32), vi (Int32.ofNat n), vr b1, vi (Int32.ofNat kk4), vr b10] [(.ref b10)]) := fun t k => pre8 t (by
      refine XS.icmpNo X4.here hx rfl (b d6_17) rfl (feq (own_eqF (a := kk4) (b := n) hc7 (by omega) (by omega))).1 ?_
      refine XS.aloadN X4.here hx rfl (b d6_20) rfl rfl ?_
      refine XS.iloadN X4.here hx rfl (b d6_21) rfl ?_
      refine XS.iloadN X4.here hx rfl (b d6_22) rfl ?_
      refine st10 _ ?_
      show Sp p e below T10 (mkF m 26 #[vr r0, vi (0 : Int32), vi (Int32.ofNat n), vr b1, vi (Int32.ofNat kk4), vu] [(.ref b10)]) t
      refine XS.astore X10.here hx rfl (b d6_26) rfl rfl (l' := #[vr r0, vi (0 : Int32), vi (Int32.ofNat n), vr b1, vi (Int32.ofNat kk4), vr b10]) rfl ?_
      refine XS.aload X10.here hx rfl (b d6_28) rfl rfl ?_
      refine XS.iload X10.here hx rfl (b d6_30) rfl ?_
      refine st13 _ ?_
      show Sp p e below T13 (mkF m 35 #[vr r0, vi (0 : Int32), vi (Int32.ofNat n), vr b1, vi (Int32.ofNat kk4), vr b10] [(.int (own_gc (f10 (2 * kk4)) (f10 ((2 * kk4) + 1))))]) t
      refine XS.sipush X13.here hx rfl (b d6_35) ?_
      show Sp p e below T13 (mkF m 38 #[vr r0, vi (0 : Int32), vi (Int32.ofNat n), vr b1, vi (Int32.ofNat kk4), vr b10] [(.int (255 : Int32)), (.int (own_gc (f10 (2 * kk4)) (f10 ((2 * kk4) + 1))))]) t
      refine XS.icmpYes X13.here hx rfl (pc0 := 38) (pc' := 54) rfl (b d6_38) rfl (tlt (own_gtg (by rw [hf kk4 (by omega)]; exact hc _ (by omega)) (hq10 kk4 (by omega)).1 (hq10 kk4 (by omega)).2 (hl4 (by omega)))).2.2.1 (by decide) (by decide) ?_
      refine XS.aload X13.here hx rfl (b d6_54) rfl rfl ?_
      exact k)
    exact own_end X13 hlk (v := some (.ref b10)) (own_hv hret) pre14 (fun fs hr => own_ra X13 hx hret rfl (b d6_56) hr) (by rw [e13]; exact ⟨b10, (2 * n), f10, rfl, N13, sz_b10, K10, Yq10, own_cod1 hc hl hn1 hn hf hq10⟩)
abbrev C4 := jdk_42_method_149_code
theorem d4_0 : dk C4 0 (.aload_n 0) 1 := by decide +kernel
theorem d4_1 : dk C4 1 (.invokespecial 1) 3 := by decide +kernel
theorem d4_4 : dk C4 4 (.iload_n 3) 1 := by decide +kernel
theorem d4_5 : dk C4 5 (.ifCond .ne 22) 3 := by decide +kernel
theorem d4_27 : dk C4 27 (.getstatic 38) 3 := by decide +kernel
theorem d4_30 : dk C4 30 (.ifCond .eq 28) 3 := by decide +kernel
theorem d4_33 : dk C4 33 (.aload_n 1) 1 := by decide +kernel
theorem d4_34 : dk C4 34 (.iload_n 2) 1 := by decide +kernel
theorem d4_35 : dk C4 35 (.iload_n 3) 1 := by decide +kernel
theorem d4_36 : dk C4 36 (.invokestatic 177) 3 := by decide +kernel
theorem d4_39 : dk C4 39 (.astore 5) 2 := by decide +kernel
theorem d4_41 : dk C4 41 (.aload_n 0) 1 := by decide +kernel
theorem d4_42 : dk C4 42 (.aload 5) 2 := by decide +kernel
theorem d4_44 : dk C4 44 (.iload_n 3) 1 := by decide +kernel
theorem d4_45 : dk C4 45 (.invokestatic 47) 3 := by decide +kernel
theorem own_pd10 : parseMethodDescriptor "([BI)B" = some ⟨[(.array .byte), .int], some .byte⟩ := by decide +kernel
theorem d4_48 : dk C4 48 (.putfield 15) 3 := by decide +kernel
theorem d4_51 : dk C4 51 (.aload_n 0) 1 := by decide +kernel
theorem d4_52 : dk C4 52 (.aload 5) 2 := by decide +kernel
theorem d4_54 : dk C4 54 (.putfield 9) 3 := by decide +kernel
theorem d4_57 : dk C4 57 .return_ 1 := by decide +kernel
def Q_s4 (Z : State) (r0 : Addr) (r1 : Addr) (n : Nat) (f : Nat → Int32) (li : List Int32) (h0 : Heap) (n0 : Nat) (v : Option Value) (h : Heap) (L : List Loc) : Prop := v = none ∧ Fr n0 L ∧ Keep h0 h [r0] ∧ ∃ t, h0.size ≤ t ∧ Us Z h r0 t li
theorem rm_s4 (l : Launch) (Z : State) (a0 : Array Value) (hw : Hw a0 Z) (r0 : Addr) (r1 : Addr) (n : Nat) (f : Nat → Int32) (li : List Int32) (h0 : Heap) (n0 : Nat) (Z0 : n0 ≤ h0.size) (hst : own_St Z) (X00 : Old Z n0 h0) (E_r0 : Exa Z h0 r0 "java/lang/String") (g_r0 : n0 ≤ r0) (F_value : Fld Z h0 r0 "java/lang/String" "value" "[B" .null) (F_coder : Fld Z h0 r0 "java/lang/String" "coder" "B" (.int (0 : Int32))) (Y_r1 : Ay Z h0 r1 .char n f) (hn : n ≤ 5) (hn1 : 0 < n) (hl : n = li.length) (hf : ∀ i, i < n → f i = li.getD i 0) (hc : Chs li) : Mt l (⟨"java/lang/String", "<init>", "([CIILjava/lang/Void;)V"⟩ : MethodName) C4 6 none ({ frames := 4, cells := 2, slots := 15, locals := 57 } : Room) #[(.ref r0), (.ref r1), (.int (0 : Int32)), (.int (Int32.ofNat n)), .null] Z h0 (Q_s4 Z r0 r1 n f li h0 n0) := by
  have w := own_w hw
  refine own_go (L0 := #[vr r0, vr r1, vi (0 : Int32), vi (Int32.ofNat n), .val .null, vu]) n0 (plainFor_of_name own_pn2) (fun m => rfl) fun p e s m below meth c s₁ E0 hx b hml hown hnm hret hlk hZ X0 e0 N0 pre0 => ?_
  have K0 : Keep h0 h0 [r0] := Keep.refl h0 _
  obtain ⟨G1, v2, v3, P1, r_v2, r_v3, O1, O2, O3, O4, O5, O6⟩ := id hst
  obtain ⟨T1, X1, e1, st1⟩ := initO X0 hx hZ hown (w 19 rfl) (w 20 rfl) (w 21 rfl) e0 (g := (mkF m 1 #[vr r0, vr r1, vi (0 : Int32), vi (Int32.ofNat n), .val .null, vu] [(.ref r0)])) rfl (by rw [hml]; rfl) rfl (b d4_1) (by decide) (W := 0) (by show 2 * 0 + _ ≤ _; exact Nat.le_of_eq rfl) (by decide)
  obtain ⟨T2, X2, e2, st2⟩ := getS2 X1 hx hZ hown (host := "") (Or.inl (w 22 rfl)) Via.refl e1 (O1.ext X00.2) (g := (mkF m 27 #[vr r0, vr r1, vi (0 : Int32), vi (Int32.ofNat n), .val .null, vu] [])) rfl (b d4_27)
  obtain ⟨_, T3, L3, X3, hQ3, st3⟩ := own_cS X2 hx hml hZ hown (rm_c3 l Z a0 hw r1 n f li h0 n0 Z0 hst X00 Y_r1 (by omega) (by omega) hl hf hc) (w 23 rfl) (w 24 rfl) (w 25 rfl) (w 26 rfl) e2 (g := (mkF m 36 #[vr r0, vr r1, vi (0 : Int32), vi (Int32.ofNat n), .val .null, vu] [(.int (Int32.ofNat n)), (.int (0 : Int32)), (.ref r1)])) (argsL := [(.ref r1), (.int (0 : Int32)), (.int (Int32.ofNat n))]) (rest := []) (W := 0) (lenOf own_pd8 rfl) (b d4_36)
  obtain ⟨b3, M3, g3, rfl, Nq3, szq3, Kq3, Yq3, hcod3⟩ := hQ3
  have N3 := Fr.app N0 Nq3
  have f4_1 := E_r0.keep Kq3
  have f4_2 := F_value.keep Kq3 nin0
  have f4_3 := F_coder.keep Kq3 nin0
  have f4_4 := Y_r1.keep Kq3 nin0
  have od4 := X00.keep Kq3 all0
  have Z3 : n0 ≤ T3.heap.size := Nat.le_trans Z0 Kq3.1
  have K3 := K0.trans Kq3 all0
  have ne_r0_b3 : r0 ≠ b3 := Nat.ne_of_lt (Nat.lt_of_lt_of_le E_r0.lt szq3)
  have ne_r1_b3 : r1 ≠ b3 := Nat.ne_of_lt (Nat.lt_of_lt_of_le Y_r1.lt szq3)
  have sz_b3 : h0.size ≤ b3 := Nat.le_trans K0.1 szq3
  have g_b3 : n0 ≤ b3 := Nat.le_trans Z0 szq3
  obtain ⟨_, T6, L6, X6, hQ6, st6⟩ := own_cS X3 hx hml hZ hown (rm_cfa l Z a0 hw b3 n M3 g3 T3.heap n0 Z3 Yq3) (w 31 rfl) (w 32 rfl) (w 25 rfl) (w 33 rfl) rfl (g := (mkF m 45 #[vr r0, vr r1, vi (0 : Int32), vi (Int32.ofNat n), .val .null, vr b3] [(.int (Int32.ofNat n)), (.ref b3), (.ref r0)])) (argsL := [(.ref b3), (.int (Int32.ofNat n))]) (rest := [(.ref r0)]) (W := 1) (lenOf own_pd10 rfl) (b d4_45)
  obtain ⟨rfl, Nq6, e6⟩ := hQ6
  have N6 := Fr.app N3 Nq6
  obtain ⟨T7, h7, X7, e7, W7, st7⟩ := putFN X6 hx hZ hown (w 34 rfl) Via.refl e6 f4_3 f4_1 (Or.inr ⟨(w 35 rfl), rfl, hnm⟩) (w 10 rfl) (ty := .byte) (v' := (.int (nar .byte (own_cfa n M3)))) (by decide) rfl (fits_nar_byte _) (g := (mkF m 48 #[vr r0, vr r1, vi (0 : Int32), vi (Int32.ofNat n), .val .null, vr b3] [(.int (own_cfa n M3)), (.ref r0)])) rfl rfl (b d4_48)
  have Fw7 := f4_3.same W7
  have f8_1 := f4_1.wr W7
  have f8_2 := f4_2.other W7 (Or.inr (slot_ne (Or.inr (w 37 rfl)) (Or.inr (w 35 rfl)) (by decide) (t := (.array .byte)) (t' := .byte) (by decide) (by decide)))
  have f8_4 := f4_4.other W7 (Ne.symm (own_neY f4_1 (w 10 rfl) f4_4))
  have od8 := od4.wr W7 g_r0
  have f8_5 := Yq3.other W7 (Ne.symm ne_r0_b3)
  have N7 := Fr.snoc X7 N6 g_r0
  have Z7 : n0 ≤ h7.size := Nat.le_trans Z3 (Keep.of_wr W7).1
  have K7 := K3.wr W7 (Or.inl (by simp))
  obtain ⟨T10, h10, X10, e10, W10, st10⟩ := putF X7 hx hZ hown (host := "") (Or.inl (w 36 rfl)) Via.refl e7 f8_2 f8_1 (Or.inr ⟨(w 37 rfl), rfl, hnm⟩) (w 10 rfl) (ty := (.array .byte)) (by decide) rfl rfl (g := (mkF m 54 #[vr r0, vr r1, vi (0 : Int32), vi (Int32.ofNat n), .val .null, vr b3] [(.ref b3), (.ref r0)])) rfl rfl (b d4_54)
  have Fw10 := f8_2.same W10
  have f11_1 := f8_1.wr W10
  have f11_3 := Fw7.other W10 (Or.inr (slot_ne (Or.inr (w 35 rfl)) (Or.inr (w 37 rfl)) (by decide) (t := .byte) (t' := (.array .byte)) (by decide) (by decide)))
  have f11_4 := f8_4.other W10 (Ne.symm (own_neY f8_1 (w 10 rfl) f8_4))
  have od11 := od8.wr W10 g_r0
  have f11_5 := f8_5.other W10 (Ne.symm ne_r0_b3)
  have N10 := Fr.snoc X10 N7 g_r0
  have Z10 : n0 ≤ h10.size := Nat.le_trans Z7 (Keep.of_wr W10).1
  have K10 := K7.wr W10 (Or.inl (by simp))
  have pre13 : Pr p e below s₁ E0 T10 (mkF m 57 #[vr r0, vr r1, vi (0 : Int32), vi (Int32.ofNat n), .val .null, vr b3] []) := fun t k => pre0 t (by
    refine XS.aloadN X0.here hx rfl (b d4_0) rfl rfl ?_
    refine st1 _ ?_
    show Sp p e below T1 (mkF m 4 #[vr r0, vr r1, vi (0 : Int32), vi (Int32.ofNat n), .val .null, vu] []) t
    refine XS.iloadN X1.here hx rfl (b d4_4) rfl ?_
    show Sp p e below T1 (mkF m 5 #[vr r0, vr r1, vi (0 : Int32), vi (Int32.ofNat n), .val .null, vu] [(.int (Int32.ofNat n))]) t
    refine XS.ifYes X1.here hx rfl (pc0 := 5) (pc' := 27) rfl (b d4_5) rfl ((if0 _ _).trans (feq (own_eqF (a := n) (b := 0) (show ¬ n = 0 by omega) (by omega) (by omega))).2) (by decide) (by decide) ?_
    refine st2 _ ?_
    show Sp p e below T2 (mkF m 30 #[vr r0, vr r1, vi (0 : Int32), vi (Int32.ofNat n), .val .null, vu] [(.int G1)]) t
    refine XS.ifNo X2.here hx rfl (b d4_30) rfl ((if0 _ _).trans (feq (P1)).1) ?_
    refine XS.aloadN X2.here hx rfl (b d4_33) rfl rfl ?_
    refine XS.iloadN X2.here hx rfl (b d4_34) rfl ?_
    refine XS.iloadN X2.here hx rfl (b d4_35) rfl ?_
    refine st3 _ ?_
    show Sp p e below T3 (mkF m 39 #[vr r0, vr r1, vi (0 : Int32), vi (Int32.ofNat n), .val .null, vu] [(.ref b3)]) t
    refine XS.astore X3.here hx rfl (b d4_39) rfl rfl (l' := #[vr r0, vr r1, vi (0 : Int32), vi (Int32.ofNat n), .val .null, vr b3]) rfl ?_
    refine XS.aloadN X3.here hx rfl (b d4_41) rfl rfl ?_
    refine XS.aload X3.here hx rfl (b d4_42) rfl rfl ?_
    refine XS.iloadN X3.here hx rfl (b d4_44) rfl ?_
    refine st6 _ ?_
    show Sp p e below T6 (mkF m 48 #[vr r0, vr r1, vi (0 : Int32), vi (Int32.ofNat n), .val .null, vr b3] [(.int (own_cfa n M3)), (.ref r0)]) t
    refine st7 _ ?_
    show Sp p e below T7 (mkF m 51 #[vr r0, vr r1, vi (0 : Int32), vi (Int32.ofNat n), .val .null, vr b3] []) t
    refine XS.aloadN X7.here hx rfl (b d4_51) rfl rfl ?_
    refine XS.aload X7.here hx rfl (b d4_52) rfl rfl ?_
    refine st10 _ ?_
    exact k)
  exact own_end X10 hlk (v := none) (fun _ => rfl) pre13 (fun fs hr => X10.returnOut hx hret (b d4_57) hr) (by rw [e10]; exact ⟨rfl, N10, K10, b3, sz_b3, _, _, _, f11_1, by have q := f11_3; rw [own_cfan] at q; exact q, Fw10, f11_5, by rw [← hl]; exact hcod3, by omega⟩)
abbrev C3 := jdk_42_method_3_code
theorem d3_0 : dk C3 0 (.aload_n 0) 1 := by decide +kernel
theorem d3_1 : dk C3 1 (.aload_n 1) 1 := by decide +kernel
theorem d3_2 : dk C3 2 (.iconst 0) 1 := by decide +kernel
theorem d3_3 : dk C3 3 (.aload_n 1) 1 := by decide +kernel
theorem d3_4 : dk C3 4 .arraylength 1 := by decide +kernel
theorem d3_5 : dk C3 5 .aconst_null 1 := by decide +kernel
theorem d3_6 : dk C3 6 (.invokespecial 27) 3 := by decide +kernel
theorem own_pd11 : parseMethodDescriptor "([CIILjava/lang/Void;)V" = some ⟨[(.array .char), .int, .int, (.object "java/lang/Void")], none⟩ := by decide +kernel
theorem d3_9 : dk C3 9 .return_ 1 := by decide +kernel
def Q_s3 (Z : State) (r0 : Addr) (r1 : Addr) (n : Nat) (f : Nat → Int32) (li : List Int32) (h0 : Heap) (n0 : Nat) (v : Option Value) (h : Heap) (L : List Loc) : Prop := v = none ∧ Fr n0 L ∧ Keep h0 h [r0] ∧ ∃ t, h0.size ≤ t ∧ Us Z h r0 t li
theorem rm_s3 (l : Launch) (Z : State) (a0 : Array Value) (hw : Hw a0 Z) (r0 : Addr) (r1 : Addr) (n : Nat) (f : Nat → Int32) (li : List Int32) (h0 : Heap) (n0 : Nat) (Z0 : n0 ≤ h0.size) (hst : own_St Z) (X00 : Old Z n0 h0) (E_r0 : Exa Z h0 r0 "java/lang/String") (g_r0 : n0 ≤ r0) (F_value : Fld Z h0 r0 "java/lang/String" "value" "[B" .null) (F_coder : Fld Z h0 r0 "java/lang/String" "coder" "B" (.int (0 : Int32))) (Y_r1 : Ay Z h0 r1 .char n f) (hn : n ≤ 5) (hn1 : 0 < n) (hl : n = li.length) (hf : ∀ i, i < n → f i = li.getD i 0) (hc : Chs li) : Mt l (⟨"java/lang/String", "<init>", "([C)V"⟩ : MethodName) C3 2 none ({ frames := 5, cells := 2, slots := 15, locals := 74 } : Room) #[(.ref r0), (.ref r1)] Z h0 (Q_s3 Z r0 r1 n f li h0 n0) := by
  have w := own_w hw
  refine own_go (L0 := #[vr r0, vr r1]) n0 (plainFor_of_name own_pn2) (fun m => rfl) fun p e s m below meth c s₁ E0 hx b hml hown hnm hret hlk hZ X0 e0 N0 pre0 => ?_
  have K0 : Keep h0 h0 [r0] := Keep.refl h0 _
  obtain ⟨qn1, cl1, Ar1, S1, H1⟩ := id Y_r1
  obtain ⟨_, T2, L2, X2, hQ2, st2⟩ := own_cN X0 hx hml hZ hown (rm_s4 l Z a0 hw r0 r1 n f li h0 n0 Z0 hst X00 E_r0 g_r0 F_value F_coder Y_r1 (by omega) (by omega) hl hf hc) (w 15 rfl) (w 16 rfl) (w 11 rfl) (w 18 rfl) rfl e0 (g := (mkF m 6 #[vr r0, vr r1] [.null, (.int (Int32.ofNat n)), (.int (0 : Int32)), (.ref r1), (.ref r0)])) (argsL := [(.ref r1), (.int (0 : Int32)), (.int (Int32.ofNat n)), .null]) (rest := []) (W := 0) (lenOf own_pd11 rfl) (b d3_6)
  obtain ⟨rfl, Nq2, Kq2, t2, szq2, Uq2⟩ := hQ2
  have N2 := Fr.app N0 Nq2
  have f3_1 := E_r0.keep Kq2
  have f3_4 := Y_r1.keep Kq2 (ninS (Ne.symm (own_neY E_r0 (w 10 rfl) Y_r1)) nin0)
  have od3 := X00.keep Kq2 (allS g_r0 all0)
  have Z2 : n0 ≤ T2.heap.size := Nat.le_trans Z0 Kq2.1
  have K2 := K0.trans Kq2 (allS (Or.inl (by simp)) all0)
  have ne_r0_t2 : r0 ≠ t2 := Nat.ne_of_lt (Nat.lt_of_lt_of_le E_r0.lt szq2)
  have ne_r1_t2 : r1 ≠ t2 := Nat.ne_of_lt (Nat.lt_of_lt_of_le Y_r1.lt szq2)
  have sz_t2 : h0.size ≤ t2 := Nat.le_trans K0.1 szq2
  have g_t2 : n0 ≤ t2 := Nat.le_trans Z0 szq2
  have pre5 : Pr p e below s₁ E0 T2 (mkF m 9 #[vr r0, vr r1] []) := fun t k => pre0 t (by
    refine XS.aloadN X0.here hx rfl (b d3_0) rfl rfl ?_
    refine XS.aloadN X0.here hx rfl (b d3_1) rfl rfl ?_
    refine XS.iconst X0.here hx rfl (b d3_2) ?_
    refine XS.aloadN X0.here hx rfl (b d3_3) rfl rfl ?_
    refine X0.arraylength hx (by rw [e0]; exact Ar1.1) (State.isArrayOf_alike hZ.alike Ar1.2.1) (g := (mkF m 4 #[vr r0, vr r1] [(.ref r1), (.int (0 : Int32)), (.ref r1), (.ref r0)])) rfl rfl (b d3_4) _ ?_
    rw [own_len S1]
    show Sp p e below s₁ (mkF m 5 #[vr r0, vr r1] [(.int (Int32.ofNat n)), (.int (0 : Int32)), (.ref r1), (.ref r0)]) t
    refine XS.aconstNull X0.here hx rfl (b d3_5) ?_
    refine st2 _ ?_
    exact k)
  exact own_end X2 hlk (v := none) (fun _ => rfl) pre5 (fun fs hr => X2.returnOut hx hret (b d3_9) hr) ⟨rfl, N2, K2, t2, sz_t2, Uq2⟩
abbrev C13 := jdk_42_method_154_code
theorem d13_0 : dk C13 0 (.getstatic 38) 3 := by decide +kernel
theorem d13_3 : dk C13 3 (.ifCond .eq 14) 3 := by decide +kernel
theorem d13_6 : dk C13 6 (.aload_n 0) 1 := by decide +kernel
theorem d13_7 : dk C13 7 (.getfield 15) 3 := by decide +kernel
theorem d13_10 : dk C13 10 (.ifCond .ne 7) 3 := by decide +kernel
theorem d13_13 : dk C13 13 (.iconst 1) 1 := by decide +kernel
theorem d13_14 : dk C13 14 (.goto 4) 3 := by decide +kernel
theorem d13_18 : dk C13 18 .ireturn 1 := by decide +kernel
def Q_sil0 (Z : State) (r0 : Addr) (h0 : Heap) (n0 : Nat) (v : Option Value) (h : Heap) (L : List Loc) : Prop := v = some (.int (1 : Int32)) ∧ Fr n0 L ∧ h = h0
theorem rm_sil0 (l : Launch) (Z : State) (a0 : Array Value) (hw : Hw a0 Z) (r0 : Addr) (h0 : Heap) (n0 : Nat) (Z0 : n0 ≤ h0.size) (hst : own_St Z) (X00 : Old Z n0 h0) (F_coder : Fld Z h0 r0 "java/lang/String" "coder" "B" (.int (0 : Int32))) : Mt l (⟨"java/lang/String", "isLatin1", "()Z"⟩ : MethodName) C13 1 (some .boolean) ({ frames := 0, cells := 0, slots := 0, locals := 0 } : Room) #[(.ref r0)] Z h0 (Q_sil0 Z r0 h0 n0) := by
  have w := own_w hw
  refine own_go (L0 := #[vr r0]) n0 (plainFor_of_name own_pn2) (fun m => rfl) fun p e s m below meth c s₁ E0 hx b hml hown hnm hret hlk hZ X0 e0 N0 pre0 => ?_
  obtain ⟨G1, v2, v3, P1, r_v2, r_v3, O1, O2, O3, O4, O5, O6⟩ := id hst
  obtain ⟨T1, X1, e1, st1⟩ := getS2 X0 hx hZ hown (host := "") (Or.inl (w 22 rfl)) Via.refl e0 (O1.ext X00.2) (g := (mkF m 0 #[vr r0] [])) rfl (b d13_0)
  obtain ⟨T2, X2, e2, st2⟩ := getF X1 hx hZ hown (host := "") (Or.inl (w 34 rfl)) Via.refl e1 F_coder (g := (mkF m 7 #[vr r0] [(.ref r0)])) rfl rfl (b d13_7)
  have pre3 : Pr p e below s₁ E0 T2 (mkF m 18 #[vr r0] [(.int (1 : Int32))]) := fun t k => pre0 t (by
    refine st1 _ ?_
    show Sp p e below T1 (mkF m 3 #[vr r0] [(.int G1)]) t
    refine XS.ifNo X1.here hx rfl (b d13_3) rfl ((if0 _ _).trans (feq (P1)).1) ?_
    refine XS.aloadN X1.here hx rfl (b d13_6) rfl rfl ?_
    refine st2 _ ?_
    show Sp p e below T2 (mkF m 10 #[vr r0] [(.int (0 : Int32))]) t
    refine XS.ifNo X2.here hx rfl (b d13_10) rfl ((if0 _ _).trans (teq (by decide : (0 : Int32) = (0 : Int32))).2) ?_
    refine XS.iconst X2.here hx rfl (b d13_13) ?_
    refine XS.goto X2.here hx rfl (pc0 := 14) (pc' := 18) rfl (b d13_14) (by decide) (by decide) ?_
    exact k)
  exact own_end X2 hlk (v := some (.int (1 : Int32))) (own_hv hret) pre3 (fun fs hr => retN X2 hx (t := .boolean) hret (by simp) (b d13_18) hr) (by rw [e2]; exact ⟨rfl, N0, rfl⟩)
theorem d13_17 : dk C13 17 (.iconst 0) 1 := by decide +kernel
def Q_sil1 (Z : State) (r0 : Addr) (h0 : Heap) (n0 : Nat) (v : Option Value) (h : Heap) (L : List Loc) : Prop := v = some (.int (0 : Int32)) ∧ Fr n0 L ∧ h = h0
theorem rm_sil1 (l : Launch) (Z : State) (a0 : Array Value) (hw : Hw a0 Z) (r0 : Addr) (h0 : Heap) (n0 : Nat) (Z0 : n0 ≤ h0.size) (hst : own_St Z) (X00 : Old Z n0 h0) (F_coder : Fld Z h0 r0 "java/lang/String" "coder" "B" (.int (1 : Int32))) : Mt l (⟨"java/lang/String", "isLatin1", "()Z"⟩ : MethodName) C13 1 (some .boolean) ({ frames := 0, cells := 0, slots := 0, locals := 0 } : Room) #[(.ref r0)] Z h0 (Q_sil1 Z r0 h0 n0) := by
  have w := own_w hw
  refine own_go (L0 := #[vr r0]) n0 (plainFor_of_name own_pn2) (fun m => rfl) fun p e s m below meth c s₁ E0 hx b hml hown hnm hret hlk hZ X0 e0 N0 pre0 => ?_
  obtain ⟨G1, v2, v3, P1, r_v2, r_v3, O1, O2, O3, O4, O5, O6⟩ := id hst
  obtain ⟨T1, X1, e1, st1⟩ := getS2 X0 hx hZ hown (host := "") (Or.inl (w 22 rfl)) Via.refl e0 (O1.ext X00.2) (g := (mkF m 0 #[vr r0] [])) rfl (b d13_0)
  obtain ⟨T2, X2, e2, st2⟩ := getF X1 hx hZ hown (host := "") (Or.inl (w 34 rfl)) Via.refl e1 F_coder (g := (mkF m 7 #[vr r0] [(.ref r0)])) rfl rfl (b d13_7)
  have pre3 : Pr p e below s₁ E0 T2 (mkF m 18 #[vr r0] [(.int (0 : Int32))]) := fun t k => pre0 t (by
    refine st1 _ ?_
    show Sp p e below T1 (mkF m 3 #[vr r0] [(.int G1)]) t
    refine XS.ifNo X1.here hx rfl (b d13_3) rfl ((if0 _ _).trans (feq (P1)).1) ?_
    refine XS.aloadN X1.here hx rfl (b d13_6) rfl rfl ?_
    refine st2 _ ?_
    show Sp p e below T2 (mkF m 10 #[vr r0] [(.int (1 : Int32))]) t
    refine XS.ifYes X2.here hx rfl (pc0 := 10) (pc' := 17) rfl (b d13_10) rfl ((if0 _ _).trans (feq (by decide : ¬ ((1 : Int32) = (0 : Int32)))).2) (by decide) (by decide) ?_
    refine XS.iconst X2.here hx rfl (b d13_17) ?_
    exact k)
  exact own_end X2 hlk (v := some (.int (0 : Int32))) (own_hv hret) pre3 (fun fs hr => retN X2 hx (t := .boolean) hret (by simp) (b d13_18) hr) (by rw [e2]; exact ⟨rfl, N0, rfl⟩)
abbrev C11 := jdk_42_method_152_code
theorem d11_0 : dk C11 0 (.getstatic 38) 3 := by decide +kernel
theorem d11_3 : dk C11 3 (.ifCond .eq 10) 3 := by decide +kernel
theorem d11_6 : dk C11 6 (.aload_n 0) 1 := by decide +kernel
theorem d11_7 : dk C11 7 (.getfield 15) 3 := by decide +kernel
theorem d11_10 : dk C11 10 (.goto 4) 3 := by decide +kernel
theorem d11_14 : dk C11 14 .ireturn 1 := by decide +kernel
def Q_scd0 (Z : State) (r0 : Addr) (h0 : Heap) (n0 : Nat) (v : Option Value) (h : Heap) (L : List Loc) : Prop := v = some (.int (0 : Int32)) ∧ Fr n0 L ∧ h = h0
theorem rm_scd0 (l : Launch) (Z : State) (a0 : Array Value) (hw : Hw a0 Z) (r0 : Addr) (h0 : Heap) (n0 : Nat) (Z0 : n0 ≤ h0.size) (hst : own_St Z) (X00 : Old Z n0 h0) (F_coder : Fld Z h0 r0 "java/lang/String" "coder" "B" (.int (0 : Int32))) : Mt l (⟨"java/lang/String", "coder", "()B"⟩ : MethodName) C11 1 (some .byte) ({ frames := 0, cells := 0, slots := 0, locals := 0 } : Room) #[(.ref r0)] Z h0 (Q_scd0 Z r0 h0 n0) := by
  have w := own_w hw
  refine own_go (L0 := #[vr r0]) n0 (plainFor_of_name own_pn2) (fun m => rfl) fun p e s m below meth c s₁ E0 hx b hml hown hnm hret hlk hZ X0 e0 N0 pre0 => ?_
  obtain ⟨G1, v2, v3, P1, r_v2, r_v3, O1, O2, O3, O4, O5, O6⟩ := id hst
  obtain ⟨T1, X1, e1, st1⟩ := getS2 X0 hx hZ hown (host := "") (Or.inl (w 22 rfl)) Via.refl e0 (O1.ext X00.2) (g := (mkF m 0 #[vr r0] [])) rfl (b d11_0)
  obtain ⟨T2, X2, e2, st2⟩ := getF X1 hx hZ hown (host := "") (Or.inl (w 34 rfl)) Via.refl e1 F_coder (g := (mkF m 7 #[vr r0] [(.ref r0)])) rfl rfl (b d11_7)
  have pre3 : Pr p e below s₁ E0 T2 (mkF m 14 #[vr r0] [(.int (0 : Int32))]) := fun t k => pre0 t (by
    refine st1 _ ?_
    show Sp p e below T1 (mkF m 3 #[vr r0] [(.int G1)]) t
    refine XS.ifNo X1.here hx rfl (b d11_3) rfl ((if0 _ _).trans (feq (P1)).1) ?_
    refine XS.aloadN X1.here hx rfl (b d11_6) rfl rfl ?_
    refine st2 _ ?_
    show Sp p e below T2 (mkF m 10 #[vr r0] [(.int (0 : Int32))]) t
    refine XS.goto X2.here hx rfl (pc0 := 10) (pc' := 14) rfl (b d11_10) (by decide) (by decide) ?_
    exact k)
  exact own_end X2 hlk (v := some (.int (0 : Int32))) (own_hv hret) pre3 (fun fs hr => retN X2 hx (t := .byte) hret (by simp) (b d11_14) hr) (by rw [e2]; exact ⟨rfl, N0, rfl⟩)
def Q_scd1 (Z : State) (r0 : Addr) (h0 : Heap) (n0 : Nat) (v : Option Value) (h : Heap) (L : List Loc) : Prop := v = some (.int (1 : Int32)) ∧ Fr n0 L ∧ h = h0
theorem rm_scd1 (l : Launch) (Z : State) (a0 : Array Value) (hw : Hw a0 Z) (r0 : Addr) (h0 : Heap) (n0 : Nat) (Z0 : n0 ≤ h0.size) (hst : own_St Z) (X00 : Old Z n0 h0) (F_coder : Fld Z h0 r0 "java/lang/String" "coder" "B" (.int (1 : Int32))) : Mt l (⟨"java/lang/String", "coder", "()B"⟩ : MethodName) C11 1 (some .byte) ({ frames := 0, cells := 0, slots := 0, locals := 0 } : Room) #[(.ref r0)] Z h0 (Q_scd1 Z r0 h0 n0) := by
  have w := own_w hw
  refine own_go (L0 := #[vr r0]) n0 (plainFor_of_name own_pn2) (fun m => rfl) fun p e s m below meth c s₁ E0 hx b hml hown hnm hret hlk hZ X0 e0 N0 pre0 => ?_
  obtain ⟨G1, v2, v3, P1, r_v2, r_v3, O1, O2, O3, O4, O5, O6⟩ := id hst
  obtain ⟨T1, X1, e1, st1⟩ := getS2 X0 hx hZ hown (host := "") (Or.inl (w 22 rfl)) Via.refl e0 (O1.ext X00.2) (g := (mkF m 0 #[vr r0] [])) rfl (b d11_0)
  obtain ⟨T2, X2, e2, st2⟩ := getF X1 hx hZ hown (host := "") (Or.inl (w 34 rfl)) Via.refl e1 F_coder (g := (mkF m 7 #[vr r0] [(.ref r0)])) rfl rfl (b d11_7)
  have pre3 : Pr p e below s₁ E0 T2 (mkF m 14 #[vr r0] [(.int (1 : Int32))]) := fun t k => pre0 t (by
    refine st1 _ ?_
    show Sp p e below T1 (mkF m 3 #[vr r0] [(.int G1)]) t
    refine XS.ifNo X1.here hx rfl (b d11_3) rfl ((if0 _ _).trans (feq (P1)).1) ?_
    refine XS.aloadN X1.here hx rfl (b d11_6) rfl rfl ?_
    refine st2 _ ?_
    show Sp p e below T2 (mkF m 10 #[vr r0] [(.int (1 : Int32))]) t
    refine XS.goto X2.here hx rfl (pc0 := 10) (pc' := 14) rfl (b d11_10) (by decide) (by decide) ?_
    exact k)
  exact own_end X2 hlk (v := some (.int (1 : Int32))) (own_hv hret) pre3 (fun fs hr => retN X2 hx (t := .byte) hret (by simp) (b d11_14) hr) (by rw [e2]; exact ⟨rfl, N0, rfl⟩)
abbrev C29 := jdk_42_method_153_code
theorem d29_0 : dk C29 0 (.aload_n 0) 1 := by decide +kernel
theorem d29_1 : dk C29 1 (.getfield 9) 3 := by decide +kernel
theorem d29_4 : dk C29 4 .areturn 1 := by decide +kernel
def Q_sva (Z : State) (r0 : Addr) (ta : Addr) (h0 : Heap) (n0 : Nat) (v : Option Value) (h : Heap) (L : List Loc) : Prop := v = some (.ref ta) ∧ Fr n0 L ∧ h = h0
theorem rm_sva (l : Launch) (Z : State) (a0 : Array Value) (hw : Hw a0 Z) (r0 : Addr) (ta : Addr) (h0 : Heap) (n0 : Nat) (Z0 : n0 ≤ h0.size) (F_value : Fld Z h0 r0 "java/lang/String" "value" "[B" (.ref ta)) : Mt l (⟨"java/lang/String", "value", "()[B"⟩ : MethodName) C29 1 (some (.array .byte)) ({ frames := 0, cells := 0, slots := 0, locals := 0 } : Room) #[(.ref r0)] Z h0 (Q_sva Z r0 ta h0 n0) := by
  have w := own_w hw
  refine own_go (L0 := #[vr r0]) n0 (plainFor_of_name own_pn2) (fun m => rfl) fun p e s m below meth c s₁ E0 hx b hml hown hnm hret hlk hZ X0 e0 N0 pre0 => ?_
  obtain ⟨T1, X1, e1, st1⟩ := getF X0 hx hZ hown (host := "") (Or.inl (w 36 rfl)) Via.refl e0 F_value (g := (mkF m 1 #[vr r0] [(.ref r0)])) rfl rfl (b d29_1)
  have pre2 : Pr p e below s₁ E0 T1 (mkF m 4 #[vr r0] [(.ref ta)]) := fun t k => pre0 t (by
    refine XS.aloadN X0.here hx rfl (b d29_0) rfl rfl ?_
    refine st1 _ ?_
    exact k)
  exact own_end X1 hlk (v := some (.ref ta)) (own_hv hret) pre2 (fun fs hr => own_ra X1 hx hret rfl (b d29_4) hr) (by rw [e1]; exact ⟨rfl, N0, rfl⟩)
abbrev C10 := jdk_42_method_54_code
theorem d10_0 : dk C10 0 (.aload_n 0) 1 := by decide +kernel
theorem d10_1 : dk C10 1 (.getfield 9) 3 := by decide +kernel
theorem d10_4 : dk C10 4 .arraylength 1 := by decide +kernel
theorem d10_5 : dk C10 5 (.aload_n 0) 1 := by decide +kernel
theorem d10_6 : dk C10 6 (.invokevirtual 335) 3 := by decide +kernel
theorem own_pd12 : parseMethodDescriptor "()B" = some ⟨[], some .byte⟩ := by decide +kernel
theorem d10_9 : dk C10 9 .ishr 1 := by decide +kernel
theorem d10_10 : dk C10 10 .ireturn 1 := by decide +kernel
def Q_sle (Z : State) (r0 : Addr) (ta : Addr) (li : List Int32) (h0 : Heap) (n0 : Nat) (v : Option Value) (h : Heap) (L : List Loc) : Prop := v = some (.int (Int32.ofNat li.length)) ∧ Fr n0 L ∧ h = h0
theorem rm_sle (l : Launch) (Z : State) (a0 : Array Value) (hw : Hw a0 Z) (r0 : Addr) (ta : Addr) (li : List Int32) (h0 : Heap) (n0 : Nat) (Z0 : n0 ≤ h0.size) (hst : own_St Z) (X00 : Old Z n0 h0) (U_r0 : Us Z h0 r0 ta li) : Mt l (⟨"java/lang/String", "length", "()I"⟩ : MethodName) C10 1 (some .int) ({ frames := 1, cells := 0, slots := 0, locals := 13 } : Room) #[(.ref r0)] Z h0 (Q_sle Z r0 ta li h0 n0) := by
  have w := own_w hw
  refine own_go (L0 := #[vr r0]) n0 (plainFor_of_name own_pn2) (fun m => rfl) fun p e s m below meth c s₁ E0 hx b hml hown hnm hret hlk hZ X0 e0 N0 pre0 => ?_
  obtain ⟨cd1, N1, f1, E1, Fc1, Fv1, Y1, hcod1, h51⟩ := id U_r0
  rcases hcod1.cd with rfl | rfl
  · obtain ⟨rfl, hch1, hE1⟩ := hcod1.lat
    obtain ⟨T2, X2, e2, st2⟩ := getF X0 hx hZ hown (host := "") (Or.inl (w 36 rfl)) Via.refl e0 Fv1 (g := (mkF m 1 #[vr r0] [(.ref r0)])) rfl rfl (b d10_1)
    obtain ⟨qn3, cl3, Ar3, S3, H3⟩ := id Y1
    obtain ⟨_, T4, L4, X4, hQ4, st4⟩ := own_cV X2 hx hml hZ hown (rm_scd0 l Z a0 hw r0 h0 n0 Z0 hst X00 Fc1) (w 47 rfl) (w 49 rfl) (w 11 rfl) (w 51 rfl) (w 48 rfl) (w 50 rfl) (own_nfS hZ (w 50 rfl)) E1 e2 (g := (mkF m 6 #[vr r0] [(.ref r0), (.int (Int32.ofNat li.length))])) (argsL := []) (rest := [(.int (Int32.ofNat li.length))]) (W := 1) (lenOf own_pd12 rfl) (b d10_6)
    obtain ⟨rfl, Nq4, e4⟩ := hQ4
    have N4 := Fr.app N0 Nq4
    have pre5 : Pr p e below s₁ E0 T4 (mkF m 10 #[vr r0] [(.int (Int32.ofNat li.length))]) := fun t k => pre0 t (by
      refine XS.aloadN X0.here hx rfl (b d10_0) rfl rfl ?_
      refine st2 _ ?_
      show Sp p e below T2 (mkF m 4 #[vr r0] [(.ref ta)]) t
      refine X2.arraylength hx (by rw [e2]; exact Ar3.1) (State.isArrayOf_alike hZ.alike Ar3.2.1) (g := (mkF m 4 #[vr r0] [(.ref ta)])) rfl rfl (b d10_4) _ ?_
      rw [own_len S3]
      show Sp p e below T2 (mkF m 5 #[vr r0] [(.int (Int32.ofNat li.length))]) t
      refine XS.aloadN X2.here hx rfl (b d10_5) rfl rfl ?_
      refine st4 _ ?_
      show Sp p e below T4 (mkF m 9 #[vr r0] [(.int (0 : Int32)), (.int (Int32.ofNat li.length))]) t
      refine XS.ishr X4.here hx rfl (b d10_9) rfl ?_
      show Sp p e below T4 (mkF m 10 #[vr r0] [(.int ((Int32.ofNat li.length) >>> ((0 : Int32) &&& 31)))]) t
      rw [own_shr0]
      exact k)
    exact own_end X4 hlk (v := some (.int (Int32.ofNat li.length))) (own_hv hret) pre5 (fun fs hr => retI X4 hx hret (b d10_10) hr) (by rw [e4]; exact ⟨rfl, N4, rfl⟩)
  · obtain ⟨rfl, hch1, hE1⟩ := hcod1.wid
    obtain ⟨T6, X6, e6, st6⟩ := getF X0 hx hZ hown (host := "") (Or.inl (w 36 rfl)) Via.refl e0 Fv1 (g := (mkF m 1 #[vr r0] [(.ref r0)])) rfl rfl (b d10_1)
    obtain ⟨qn7, cl7, Ar7, S7, H7⟩ := id Y1
    obtain ⟨_, T8, L8, X8, hQ8, st8⟩ := own_cV X6 hx hml hZ hown (rm_scd1 l Z a0 hw r0 h0 n0 Z0 hst X00 Fc1) (w 47 rfl) (w 49 rfl) (w 11 rfl) (w 51 rfl) (w 48 rfl) (w 50 rfl) (own_nfS hZ (w 50 rfl)) E1 e6 (g := (mkF m 6 #[vr r0] [(.ref r0), (.int (Int32.ofNat (2 * li.length)))])) (argsL := []) (rest := [(.int (Int32.ofNat (2 * li.length)))]) (W := 1) (lenOf own_pd12 rfl) (b d10_6)
    obtain ⟨rfl, Nq8, e8⟩ := hQ8
    have N8 := Fr.app N0 Nq8
    have pre9 : Pr p e below s₁ E0 T8 (mkF m 10 #[vr r0] [(.int (Int32.ofNat li.length))]) := fun t k => pre0 t (by
      refine XS.aloadN X0.here hx rfl (b d10_0) rfl rfl ?_
      refine st6 _ ?_
      show Sp p e below T6 (mkF m 4 #[vr r0] [(.ref ta)]) t
      refine X6.arraylength hx (by rw [e6]; exact Ar7.1) (State.isArrayOf_alike hZ.alike Ar7.2.1) (g := (mkF m 4 #[vr r0] [(.ref ta)])) rfl rfl (b d10_4) _ ?_
      rw [own_len S7]
      show Sp p e below T6 (mkF m 5 #[vr r0] [(.int (Int32.ofNat (2 * li.length)))]) t
      refine XS.aloadN X6.here hx rfl (b d10_5) rfl rfl ?_
      refine st8 _ ?_
      show Sp p e below T8 (mkF m 9 #[vr r0] [(.int (1 : Int32)), (.int (Int32.ofNat (2 * li.length)))]) t
      refine XS.ishr X8.here hx rfl (b d10_9) rfl ?_
      show Sp p e below T8 (mkF m 10 #[vr r0] [(.int ((Int32.ofNat (2 * li.length)) >>> ((1 : Int32) &&& 31)))]) t
      rw [own_shr (a := li.length) (by omega)]
      exact k)
    exact own_end X8 hlk (v := some (.int (Int32.ofNat li.length))) (own_hv hret) pre9 (fun fs hr => retI X8 hx hret (b d10_10) hr) (by rw [e8]; exact ⟨rfl, N8, rfl⟩)
abbrev C14 := jdk_43_method_2_code
theorem d14_0 : dk C14 0 (.iload_n 1) 1 := by decide +kernel
theorem d14_1 : dk C14 1 (.aload_n 0) 1 := by decide +kernel
theorem d14_2 : dk C14 2 .arraylength 1 := by decide +kernel
theorem d14_3 : dk C14 3 (.invokestatic 9) 3 := by decide +kernel
theorem own_pd13 : parseMethodDescriptor "(II)V" = some ⟨[.int, .int], none⟩ := by decide +kernel
theorem d14_6 : dk C14 6 (.aload_n 0) 1 := by decide +kernel
theorem d14_7 : dk C14 7 (.iload_n 1) 1 := by decide +kernel
theorem d14_8 : dk C14 8 .baload 1 := by decide +kernel
theorem d14_9 : dk C14 9 (.sipush 255) 3 := by decide +kernel
theorem d14_12 : dk C14 12 .iand 1 := by decide +kernel
theorem d14_13 : dk C14 13 .i2c 1 := by decide +kernel
theorem d14_14 : dk C14 14 .ireturn 1 := by decide +kernel
theorem own_pn14 : plainName "java/lang/StringLatin1" = true := by first | (simp [plainName, overriddenIn]; done) | decide +kernel
def Q_lc (Z : State) (r0 : Addr) (i : Nat) (N : Nat) (f : Nat → Int32) (h0 : Heap) (n0 : Nat) (v : Option Value) (h : Heap) (L : List Loc) : Prop := v = some (.int (own_rb (f i))) ∧ Fr n0 L ∧ h = h0
theorem rm_lc (l : Launch) (Z : State) (a0 : Array Value) (hw : Hw a0 Z) (r0 : Addr) (i : Nat) (N : Nat) (f : Nat → Int32) (h0 : Heap) (n0 : Nat) (Z0 : n0 ≤ h0.size) (hst : own_St Z) (X00 : Old Z n0 h0) (Y_r0 : Ay Z h0 r0 .byte N f) (hi : i < N) (hN : N ≤ 100) : Mt l (⟨"java/lang/StringLatin1", "charAt", "([BI)C"⟩ : MethodName) C14 2 (some .char) ({ frames := 2, cells := 0, slots := 0, locals := 27 } : Room) #[(.ref r0), (.int (Int32.ofNat i))] Z h0 (Q_lc Z r0 i N f h0 n0) := by
  have w := own_w hw
  refine own_go (L0 := #[vr r0, vi (Int32.ofNat i)]) n0 (plainFor_of_name own_pn14) (fun m => rfl) fun p e s m below meth c s₁ E0 hx b hml hown hnm hret hlk hZ X0 e0 N0 pre0 => ?_
  obtain ⟨qn1, cl1, Ar1, S1, H1⟩ := id Y_r0
  obtain ⟨_, T2, L2, X2, hQ2, st2⟩ := own_cS X0 hx hml hZ hown (rm_sci l Z a0 hw i N h0 n0 Z0 hst X00 (by omega) (by omega)) (w 66 rfl) (w 67 rfl) (w 11 rfl) (w 68 rfl) e0 (g := (mkF m 3 #[vr r0, vi (Int32.ofNat i)] [(.int (Int32.ofNat N)), (.int (Int32.ofNat i))])) (argsL := [(.int (Int32.ofNat i)), (.int (Int32.ofNat N))]) (rest := []) (W := 0) (lenOf own_pd13 rfl) (b d14_3)
  obtain ⟨rfl, Nq2, e2⟩ := hQ2
  have N2 := Fr.app N0 Nq2
  obtain ⟨qn3, cl3, Ar3, S3, H3⟩ := id Y_r0
  have pre5 : Pr p e below s₁ E0 T2 (mkF m 14 #[vr r0, vi (Int32.ofNat i)] [(.int (((f i) &&& (255 : Int32)).toUInt32.toUInt16.toUInt32.toInt32))]) := fun t k => pre0 t (by
    refine XS.iloadN X0.here hx rfl (b d14_0) rfl ?_
    refine XS.aloadN X0.here hx rfl (b d14_1) rfl rfl ?_
    refine X0.arraylength hx (by rw [e0]; exact Ar1.1) (State.isArrayOf_alike hZ.alike Ar1.2.1) (g := (mkF m 2 #[vr r0, vi (Int32.ofNat i)] [(.ref r0), (.int (Int32.ofNat i))])) rfl rfl (b d14_2) _ ?_
    rw [own_len S1]
    show Sp p e below s₁ (mkF m 3 #[vr r0, vi (Int32.ofNat i)] [(.int (Int32.ofNat N)), (.int (Int32.ofNat i))]) t
    refine st2 _ ?_
    show Sp p e below T2 (mkF m 6 #[vr r0, vi (Int32.ofNat i)] []) t
    refine XS.aloadN X2.here hx rfl (b d14_6) rfl rfl ?_
    refine XS.iloadN X2.here hx rfl (b d14_7) rfl ?_
    refine X2.baloadBytes hx (j := (Int32.ofNat i)) (v := (.int (f i))) (by rw [e2]; exact Ar3.1) (State.isArrayOf_alike hZ.alike Ar3.2.1) Ar3.2.2 (own_in qn3 S3 (show i < N by omega)) (own_at qn3 H3 (show i < N by omega)) (g := (mkF m 8 #[vr r0, vi (Int32.ofNat i)] [(.int (Int32.ofNat i)), (.ref r0)])) rfl rfl (b d14_8) _ ?_
    show Sp p e below T2 (mkF m 9 #[vr r0, vi (Int32.ofNat i)] [(.int (f i))]) t
    refine XS.sipush X2.here hx rfl (b d14_9) ?_
    refine XS.iand X2.here hx rfl (b d14_12) rfl ?_
    refine XS.i2c X2.here hx rfl (b d14_13) rfl ?_
    exact k)
  exact own_end X2 hlk (v := some (.int (nar .char (((f i) &&& (255 : Int32)).toUInt32.toUInt16.toUInt32.toInt32)))) (own_hv hret) pre5 (fun fs hr => retN X2 hx (t := .char) hret (by simp) (b d14_14) hr) (by rw [e2]; exact ⟨rfl, N2, rfl⟩)
abbrev C49 := jdk_52_method_91_code
theorem d49_0 : dk C49 0 (.iload_n 0) 1 := by decide +kernel
theorem d49_1 : dk C49 1 (.aload_n 1) 1 := by decide +kernel
theorem d49_2 : dk C49 2 (.invokestatic 48) 3 := by decide +kernel
theorem own_pd15 : parseMethodDescriptor "([B)I" = some ⟨[(.array .byte)], some .int⟩ := by decide +kernel
theorem d49_5 : dk C49 5 (.invokestatic 414) 3 := by decide +kernel
theorem d49_8 : dk C49 8 .return_ 1 := by decide +kernel
def Q_uci (Z : State) (r1 : Addr) (i : Nat) (n : Nat) (f : Nat → Int32) (h0 : Heap) (n0 : Nat) (v : Option Value) (h : Heap) (L : List Loc) : Prop := v = none ∧ Fr n0 L ∧ h = h0
theorem rm_uci (l : Launch) (Z : State) (a0 : Array Value) (hw : Hw a0 Z) (r1 : Addr) (i : Nat) (n : Nat) (f : Nat → Int32) (h0 : Heap) (n0 : Nat) (Z0 : n0 ≤ h0.size) (hst : own_St Z) (X00 : Old Z n0 h0) (Y_r1 : Ay Z h0 r1 .byte (2 * n) f) (hi : i < n) (hn : n ≤ 50) : Mt l (⟨"java/lang/StringUTF16", "checkIndex", "(I[B)V"⟩ : MethodName) C49 2 none ({ frames := 2, cells := 0, slots := 0, locals := 27 } : Room) #[(.int (Int32.ofNat i)), (.ref r1)] Z h0 (Q_uci Z r1 i n f h0 n0) := by
  have w := own_w hw
  refine own_go (L0 := #[vi (Int32.ofNat i), vr r1]) n0 (plainFor_of_name own_pn3) (fun m => rfl) fun p e s m below meth c s₁ E0 hx b hml hown hnm hret hlk hZ X0 e0 N0 pre0 => ?_
  obtain ⟨_, T1, L1, X1, hQ1, st1⟩ := own_cS X0 hx hml hZ hown (rm_ulen l Z a0 hw r1 n f h0 n0 Z0 Y_r1 (by omega)) (w 252 rfl) (w 253 rfl) (w 25 rfl) (w 254 rfl) e0 (g := (mkF m 2 #[vi (Int32.ofNat i), vr r1] [(.ref r1), (.int (Int32.ofNat i))])) (argsL := [(.ref r1)]) (rest := [(.int (Int32.ofNat i))]) (W := 1) (lenOf own_pd15 rfl) (b d49_2)
  obtain ⟨rfl, Nq1, e1⟩ := hQ1
  have N1 := Fr.app N0 Nq1
  obtain ⟨_, T2, L2, X2, hQ2, st2⟩ := own_cS X1 hx hml hZ hown (rm_sci l Z a0 hw i n h0 n0 Z0 hst X00 (by omega) (by omega)) (w 255 rfl) (w 67 rfl) (w 11 rfl) (w 68 rfl) e1 (g := (mkF m 5 #[vi (Int32.ofNat i), vr r1] [(.int (Int32.ofNat n)), (.int (Int32.ofNat i))])) (argsL := [(.int (Int32.ofNat i)), (.int (Int32.ofNat n))]) (rest := []) (W := 0) (lenOf own_pd13 rfl) (b d49_5)
  obtain ⟨rfl, Nq2, e2⟩ := hQ2
  have N2 := Fr.app N1 Nq2
  have pre3 : Pr p e below s₁ E0 T2 (mkF m 8 #[vi (Int32.ofNat i), vr r1] []) := fun t k => pre0 t (by
    refine XS.iloadN X0.here hx rfl (b d49_0) rfl ?_
    refine XS.aloadN X0.here hx rfl (b d49_1) rfl rfl ?_
    refine st1 _ ?_
    show Sp p e below T1 (mkF m 5 #[vi (Int32.ofNat i), vr r1] [(.int (Int32.ofNat n)), (.int (Int32.ofNat i))]) t
    refine st2 _ ?_
    exact k)
  exact own_end X2 hlk (v := none) (fun _ => rfl) pre3 (fun fs hr => X2.returnOut hx hret (b d49_8) hr) (by rw [e2]; exact ⟨rfl, N2, rfl⟩)
abbrev C48 := jdk_52_method_83_code
theorem d48_0 : dk C48 0 (.iload_n 1) 1 := by decide +kernel
theorem d48_1 : dk C48 1 (.aload_n 0) 1 := by decide +kernel
theorem d48_2 : dk C48 2 (.invokestatic 67) 3 := by decide +kernel
theorem own_pd16 : parseMethodDescriptor "(I[B)V" = some ⟨[.int, (.array .byte)], none⟩ := by decide +kernel
theorem d48_5 : dk C48 5 (.aload_n 0) 1 := by decide +kernel
theorem d48_6 : dk C48 6 (.iload_n 1) 1 := by decide +kernel
theorem d48_7 : dk C48 7 (.invokestatic 71) 3 := by decide +kernel
theorem d48_10 : dk C48 10 .ireturn 1 := by decide +kernel
def Q_uc (Z : State) (r0 : Addr) (i : Nat) (n : Nat) (f : Nat → Int32) (h0 : Heap) (n0 : Nat) (v : Option Value) (h : Heap) (L : List Loc) : Prop := v = some (.int (nar .char (own_gc (f (2 * i)) (f ((2 * i) + 1))))) ∧ Fr n0 L ∧ h = h0
theorem rm_uc (l : Launch) (Z : State) (a0 : Array Value) (hw : Hw a0 Z) (r0 : Addr) (i : Nat) (n : Nat) (f : Nat → Int32) (h0 : Heap) (n0 : Nat) (Z0 : n0 ≤ h0.size) (hst : own_St Z) (X00 : Old Z n0 h0) (Y_r0 : Ay Z h0 r0 .byte (2 * n) f) (hi : i < n) (hn : n ≤ 50) : Mt l (⟨"java/lang/StringUTF16", "charAt", "([BI)C"⟩ : MethodName) C48 2 (some .char) ({ frames := 3, cells := 0, slots := 0, locals := 40 } : Room) #[(.ref r0), (.int (Int32.ofNat i))] Z h0 (Q_uc Z r0 i n f h0 n0) := by
  have w := own_w hw
  refine own_go (L0 := #[vr r0, vi (Int32.ofNat i)]) n0 (plainFor_of_name own_pn3) (fun m => rfl) fun p e s m below meth c s₁ E0 hx b hml hown hnm hret hlk hZ X0 e0 N0 pre0 => ?_
  obtain ⟨_, T1, L1, X1, hQ1, st1⟩ := own_cS X0 hx hml hZ hown (rm_uci l Z a0 hw r0 i n f h0 n0 Z0 hst X00 Y_r0 (by omega) (by omega)) (w 249 rfl) (w 250 rfl) (w 25 rfl) (w 251 rfl) e0 (g := (mkF m 2 #[vr r0, vi (Int32.ofNat i)] [(.ref r0), (.int (Int32.ofNat i))])) (argsL := [(.int (Int32.ofNat i)), (.ref r0)]) (rest := []) (W := 0) (lenOf own_pd16 rfl) (b d48_2)
  obtain ⟨rfl, Nq1, e1⟩ := hQ1
  have N1 := Fr.app N0 Nq1
  obtain ⟨_, T2, L2, X2, hQ2, st2⟩ := own_cS X1 hx hml hZ hown (rm_gc l Z a0 hw r0 i (2 * n) f h0 n0 Z0 hst X00 Y_r0 (by omega) (by omega)) (w 243 rfl) (w 244 rfl) (w 25 rfl) (w 245 rfl) e1 (g := (mkF m 7 #[vr r0, vi (Int32.ofNat i)] [(.int (Int32.ofNat i)), (.ref r0)])) (argsL := [(.ref r0), (.int (Int32.ofNat i))]) (rest := []) (W := 0) (lenOf own_pd9 rfl) (b d48_7)
  obtain ⟨rfl, Nq2, e2⟩ := hQ2
  have N2 := Fr.app N1 Nq2
  have pre3 : Pr p e below s₁ E0 T2 (mkF m 10 #[vr r0, vi (Int32.ofNat i)] [(.int (own_gc (f (2 * i)) (f ((2 * i) + 1))))]) := fun t k => pre0 t (by
    refine XS.iloadN X0.here hx rfl (b d48_0) rfl ?_
    refine XS.aloadN X0.here hx rfl (b d48_1) rfl rfl ?_
    refine st1 _ ?_
    show Sp p e below T1 (mkF m 5 #[vr r0, vi (Int32.ofNat i)] []) t
    refine XS.aloadN X1.here hx rfl (b d48_5) rfl rfl ?_
    refine XS.iloadN X1.here hx rfl (b d48_6) rfl ?_
    refine st2 _ ?_
    exact k)
  exact own_end X2 hlk (v := some (.int (nar .char (own_gc (f (2 * i)) (f ((2 * i) + 1)))))) (own_hv hret) pre3 (fun fs hr => retN X2 hx (t := .char) hret (by simp) (b d48_10) hr) (by rw [e2]; exact ⟨rfl, N2, rfl⟩)
abbrev C12 := jdk_42_method_56_code
theorem d12_0 : dk C12 0 (.aload_n 0) 1 := by decide +kernel
theorem d12_1 : dk C12 1 (.invokevirtual 492) 3 := by decide +kernel
theorem own_pd17 : parseMethodDescriptor "()Z" = some ⟨[], some .boolean⟩ := by decide +kernel
theorem d12_4 : dk C12 4 (.ifCond .eq 12) 3 := by decide +kernel
theorem d12_7 : dk C12 7 (.aload_n 0) 1 := by decide +kernel
theorem d12_8 : dk C12 8 (.getfield 9) 3 := by decide +kernel
theorem d12_11 : dk C12 11 (.iload_n 1) 1 := by decide +kernel
theorem d12_12 : dk C12 12 (.invokestatic 495) 3 := by decide +kernel
theorem d12_15 : dk C12 15 .ireturn 1 := by decide +kernel
theorem d12_16 : dk C12 16 (.aload_n 0) 1 := by decide +kernel
theorem d12_17 : dk C12 17 (.getfield 9) 3 := by decide +kernel
theorem d12_20 : dk C12 20 (.iload_n 1) 1 := by decide +kernel
theorem d12_21 : dk C12 21 (.invokestatic 498) 3 := by decide +kernel
theorem d12_24 : dk C12 24 .ireturn 1 := by decide +kernel
def Q_sca (Z : State) (r0 : Addr) (i : Nat) (ta : Addr) (li : List Int32) (h0 : Heap) (n0 : Nat) (v : Option Value) (h : Heap) (L : List Loc) : Prop := v = some (.int (li.getD i 0)) ∧ Fr n0 L ∧ h = h0
theorem rm_sca (l : Launch) (Z : State) (a0 : Array Value) (hw : Hw a0 Z) (r0 : Addr) (i : Nat) (ta : Addr) (li : List Int32) (h0 : Heap) (n0 : Nat) (Z0 : n0 ≤ h0.size) (hst : own_St Z) (X00 : Old Z n0 h0) (U_r0 : Us Z h0 r0 ta li) (hi : i < li.length) : Mt l (⟨"java/lang/String", "charAt", "(I)C"⟩ : MethodName) C12 2 (some .char) ({ frames := 4, cells := 0, slots := 0, locals := 53 } : Room) #[(.ref r0), (.int (Int32.ofNat i))] Z h0 (Q_sca Z r0 i ta li h0 n0) := by
  have w := own_w hw
  refine own_go (L0 := #[vr r0, vi (Int32.ofNat i)]) n0 (plainFor_of_name own_pn2) (fun m => rfl) fun p e s m below meth c s₁ E0 hx b hml hown hnm hret hlk hZ X0 e0 N0 pre0 => ?_
  obtain ⟨cd1, N1, f1, E1, Fc1, Fv1, Y1, hcod1, h51⟩ := id U_r0
  rcases hcod1.cd with rfl | rfl
  · obtain ⟨rfl, hch1, hE1⟩ := hcod1.lat
    obtain ⟨_, T2, L2, X2, hQ2, st2⟩ := own_cV X0 hx hml hZ hown (rm_sil0 l Z a0 hw r0 h0 n0 Z0 hst X00 Fc1) (w 57 rfl) (w 59 rfl) (w 11 rfl) (w 61 rfl) (w 58 rfl) (w 60 rfl) (own_nfS hZ (w 60 rfl)) E1 e0 (g := (mkF m 1 #[vr r0, vi (Int32.ofNat i)] [(.ref r0)])) (argsL := []) (rest := []) (W := 0) (lenOf own_pd17 rfl) (b d12_1)
    obtain ⟨rfl, Nq2, e2⟩ := hQ2
    have N2 := Fr.app N0 Nq2
    obtain ⟨T3, X3, e3, st3⟩ := getF X2 hx hZ hown (host := "") (Or.inl (w 36 rfl)) Via.refl e2 Fv1 (g := (mkF m 8 #[vr r0, vi (Int32.ofNat i)] [(.ref r0)])) rfl rfl (b d12_8)
    obtain ⟨_, T4, L4, X4, hQ4, st4⟩ := own_cS X3 hx hml hZ hown (rm_lc l Z a0 hw ta i li.length f1 h0 n0 Z0 hst X00 Y1 (by omega) (by omega)) (w 62 rfl) (w 63 rfl) (w 64 rfl) (w 65 rfl) e3 (g := (mkF m 12 #[vr r0, vi (Int32.ofNat i)] [(.int (Int32.ofNat i)), (.ref ta)])) (argsL := [(.ref ta), (.int (Int32.ofNat i))]) (rest := []) (W := 0) (lenOf own_pd9 rfl) (b d12_12)
    obtain ⟨rfl, Nq4, e4⟩ := hQ4
    have N4 := Fr.app N2 Nq4
    have pre5 : Pr p e below s₁ E0 T4 (mkF m 15 #[vr r0, vi (Int32.ofNat i)] [(.int (own_rb (f1 i)))]) := fun t k => pre0 t (by
      refine XS.aloadN X0.here hx rfl (b d12_0) rfl rfl ?_
      refine st2 _ ?_
      show Sp p e below T2 (mkF m 4 #[vr r0, vi (Int32.ofNat i)] [(.int (1 : Int32))]) t
      refine XS.ifNo X2.here hx rfl (b d12_4) rfl ((if0 _ _).trans (feq (by decide : ¬ ((1 : Int32) = (0 : Int32)))).1) ?_
      refine XS.aloadN X2.here hx rfl (b d12_7) rfl rfl ?_
      refine st3 _ ?_
      show Sp p e below T3 (mkF m 11 #[vr r0, vi (Int32.ofNat i)] [(.ref ta)]) t
      refine XS.iloadN X3.here hx rfl (b d12_11) rfl ?_
      refine st4 _ ?_
      exact k)
    exact own_end X4 hlk (v := some (.int (nar .char (own_rb (f1 i))))) (own_hv hret) pre5 (fun fs hr => retN X4 hx (t := .char) hret (by simp) (b d12_15) hr) (by rw [e4]; exact ⟨own_lcS (hch1 i hi) (hE1 i hi), N4, rfl⟩)
  · obtain ⟨rfl, hch1, hE1⟩ := hcod1.wid
    obtain ⟨_, T6, L6, X6, hQ6, st6⟩ := own_cV X0 hx hml hZ hown (rm_sil1 l Z a0 hw r0 h0 n0 Z0 hst X00 Fc1) (w 57 rfl) (w 59 rfl) (w 11 rfl) (w 61 rfl) (w 58 rfl) (w 60 rfl) (own_nfS hZ (w 60 rfl)) E1 e0 (g := (mkF m 1 #[vr r0, vi (Int32.ofNat i)] [(.ref r0)])) (argsL := []) (rest := []) (W := 0) (lenOf own_pd17 rfl) (b d12_1)
    obtain ⟨rfl, Nq6, e6⟩ := hQ6
    have N6 := Fr.app N0 Nq6
    obtain ⟨T7, X7, e7, st7⟩ := getF X6 hx hZ hown (host := "") (Or.inl (w 36 rfl)) Via.refl e6 Fv1 (g := (mkF m 17 #[vr r0, vi (Int32.ofNat i)] [(.ref r0)])) rfl rfl (b d12_17)
    obtain ⟨_, T8, L8, X8, hQ8, st8⟩ := own_cS X7 hx hml hZ hown (rm_uc l Z a0 hw ta i li.length f1 h0 n0 Z0 hst X00 Y1 (by omega) (by omega)) (w 246 rfl) (w 247 rfl) (w 25 rfl) (w 248 rfl) e7 (g := (mkF m 21 #[vr r0, vi (Int32.ofNat i)] [(.int (Int32.ofNat i)), (.ref ta)])) (argsL := [(.ref ta), (.int (Int32.ofNat i))]) (rest := []) (W := 0) (lenOf own_pd9 rfl) (b d12_21)
    obtain ⟨rfl, Nq8, e8⟩ := hQ8
    have N8 := Fr.app N6 Nq8
    have pre9 : Pr p e below s₁ E0 T8 (mkF m 24 #[vr r0, vi (Int32.ofNat i)] [(.int (nar .char (own_gc (f1 (2 * i)) (f1 ((2 * i) + 1)))))]) := fun t k => pre0 t (by
      refine XS.aloadN X0.here hx rfl (b d12_0) rfl rfl ?_
      refine st6 _ ?_
      show Sp p e below T6 (mkF m 4 #[vr r0, vi (Int32.ofNat i)] [(.int (0 : Int32))]) t
      refine XS.ifYes X6.here hx rfl (pc0 := 4) (pc' := 16) rfl (b d12_4) rfl ((if0 _ _).trans (teq (by decide : (0 : Int32) = (0 : Int32))).1) (by decide) (by decide) ?_
      refine XS.aloadN X6.here hx rfl (b d12_16) rfl rfl ?_
      refine st7 _ ?_
      show Sp p e below T7 (mkF m 20 #[vr r0, vi (Int32.ofNat i)] [(.ref ta)]) t
      refine XS.iloadN X7.here hx rfl (b d12_20) rfl ?_
      refine st8 _ ?_
      exact k)
    exact own_end X8 hlk (v := some (.int (nar .char (nar .char (own_gc (f1 (2 * i)) (f1 ((2 * i) + 1))))))) (own_hv hret) pre9 (fun fs hr => retN X8 hx (t := .char) hret (by simp) (b d12_24) hr) (by rw [e8]; exact ⟨own_ucS (hch1 i hi) (hE1 i hi), N8, rfl⟩)
abbrev C57 := jdk_52_method_71_code
theorem d57_0 : dk C57 0 (.iload_n 1) 1 := by decide +kernel
theorem d57_1 : dk C57 1 (.aload_n 0) 1 := by decide +kernel
theorem d57_2 : dk C57 2 (.invokestatic 67) 3 := by decide +kernel
theorem d57_5 : dk C57 5 (.aload_n 0) 1 := by decide +kernel
theorem d57_6 : dk C57 6 (.iload_n 1) 1 := by decide +kernel
theorem d57_7 : dk C57 7 (.iload_n 2) 1 := by decide +kernel
theorem d57_8 : dk C57 8 (.invokestatic 111) 3 := by decide +kernel
theorem d57_11 : dk C57 11 .return_ 1 := by decide +kernel
def Q_psb (Z : State) (r0 : Addr) (p2 : Int32) (i : Nat) (n : Nat) (f : Nat → Int32) (h0 : Heap) (n0 : Nat) (v : Option Value) (h : Heap) (L : List Loc) : Prop := v = none ∧ Fr n0 L ∧ Keep h0 h [r0] ∧ Ay Z h r0 .byte (2 * n) (fun x => if x = ((2 * i) + 1) then (own_hi p2) else (fun x => if x = (2 * i) then (own_lo p2) else f x) x)
theorem rm_psb (l : Launch) (Z : State) (a0 : Array Value) (hw : Hw a0 Z) (r0 : Addr) (p2 : Int32) (i : Nat) (n : Nat) (f : Nat → Int32) (h0 : Heap) (n0 : Nat) (Z0 : n0 ≤ h0.size) (hst : own_St Z) (X00 : Old Z n0 h0) (Y_r0 : Ay Z h0 r0 .byte (2 * n) f) (hi : i < n) (hn : n ≤ 50) (g_r0 : n0 ≤ r0) : Mt l (⟨"java/lang/StringUTF16", "putCharSB", "([BII)V"⟩ : MethodName) C57 3 none ({ frames := 3, cells := 0, slots := 0, locals := 40 } : Room) #[(.ref r0), (.int (Int32.ofNat i)), (.int p2)] Z h0 (Q_psb Z r0 p2 i n f h0 n0) := by
  have w := own_w hw
  refine own_go (L0 := #[vr r0, vi (Int32.ofNat i), vi p2]) n0 (plainFor_of_name own_pn3) (fun m => rfl) fun p e s m below meth c s₁ E0 hx b hml hown hnm hret hlk hZ X0 e0 N0 pre0 => ?_
  have K0 : Keep h0 h0 [r0] := Keep.refl h0 _
  obtain ⟨_, T1, L1, X1, hQ1, st1⟩ := own_cS X0 hx hml hZ hown (rm_uci l Z a0 hw r0 i n f h0 n0 Z0 hst X00 Y_r0 (by omega) (by omega)) (w 249 rfl) (w 250 rfl) (w 25 rfl) (w 251 rfl) e0 (g := (mkF m 2 #[vr r0, vi (Int32.ofNat i), vi p2] [(.ref r0), (.int (Int32.ofNat i))])) (argsL := [(.int (Int32.ofNat i)), (.ref r0)]) (rest := []) (W := 0) (lenOf own_pd16 rfl) (b d57_2)
  obtain ⟨rfl, Nq1, e1⟩ := hQ1
  have N1 := Fr.app N0 Nq1
  obtain ⟨_, T2, L2, X2, hQ2, st2⟩ := own_cS X1 hx hml hZ hown (rm_pc l Z a0 hw r0 p2 i (2 * n) f h0 n0 Z0 hst X00 Y_r0 (by omega) g_r0 (by omega)) (w 237 rfl) (w 238 rfl) (w 25 rfl) (w 239 rfl) e1 (g := (mkF m 8 #[vr r0, vi (Int32.ofNat i), vi p2] [(.int p2), (.int (Int32.ofNat i)), (.ref r0)])) (argsL := [(.ref r0), (.int (Int32.ofNat i)), (.int p2)]) (rest := []) (W := 0) (lenOf own_pd6 rfl) (b d57_8)
  obtain ⟨rfl, Nq2, Kq2, Yq2⟩ := hQ2
  have N2 := Fr.app N1 Nq2
  have od3 := X00.keep Kq2 (allS g_r0 all0)
  have Z2 : n0 ≤ T2.heap.size := Nat.le_trans Z0 Kq2.1
  have K2 := K0.trans Kq2 (allS (Or.inl (by simp)) all0)
  have pre5 : Pr p e below s₁ E0 T2 (mkF m 11 #[vr r0, vi (Int32.ofNat i), vi p2] []) := fun t k => pre0 t (by
    refine XS.iloadN X0.here hx rfl (b d57_0) rfl ?_
    refine XS.aloadN X0.here hx rfl (b d57_1) rfl rfl ?_
    refine st1 _ ?_
    show Sp p e below T1 (mkF m 5 #[vr r0, vi (Int32.ofNat i), vi p2] []) t
    refine XS.aloadN X1.here hx rfl (b d57_5) rfl rfl ?_
    refine XS.iloadN X1.here hx rfl (b d57_6) rfl ?_
    refine XS.iloadN X1.here hx rfl (b d57_7) rfl ?_
    refine st2 _ ?_
    exact k)
  exact own_end X2 hlk (v := none) (fun _ => rfl) pre5 (fun fs hr => X2.returnOut hx hret (b d57_11) hr) ⟨rfl, N2, K2, Yq2⟩
abbrev C34 := jdk_43_method_3_code
theorem d34_0 : dk C34 0 (.iload_n 0) 1 := by decide +kernel
theorem d34_1 : dk C34 1 (.sipush 255) 3 := by decide +kernel
theorem d34_4 : dk C34 4 (.if_icmp .gt 7) 3 := by decide +kernel
theorem d34_11 : dk C34 11 (.iconst 0) 1 := by decide +kernel
theorem d34_12 : dk C34 12 .ireturn 1 := by decide +kernel
theorem d34_7 : dk C34 7 (.iconst 1) 1 := by decide +kernel
theorem d34_8 : dk C34 8 (.goto 4) 3 := by decide +kernel
def fn_ce (p0 : Int32) : Int32 := (if (255 : Int32) < p0 then (0 : Int32) else (1 : Int32))
def Q_ce (Z : State) (p0 : Int32) (h0 : Heap) (n0 : Nat) (v : Option Value) (h : Heap) (L : List Loc) : Prop := v = some (.int (fn_ce p0)) ∧ Fr n0 L ∧ h = h0
theorem rm_ce (l : Launch) (Z : State) (a0 : Array Value) (hw : Hw a0 Z) (p0 : Int32) (h0 : Heap) (n0 : Nat) (Z0 : n0 ≤ h0.size) : Mt l (⟨"java/lang/StringLatin1", "canEncode", "(C)Z"⟩ : MethodName) C34 1 (some .boolean) ({ frames := 0, cells := 0, slots := 0, locals := 0 } : Room) #[(.int p0)] Z h0 (Q_ce Z p0 h0 n0) := by
  have w := own_w hw
  refine own_go (L0 := #[vi p0]) n0 (plainFor_of_name own_pn14) (fun m => rfl) fun p e s m below meth c s₁ E0 hx b hml hown hnm hret hlk hZ X0 e0 N0 pre0 => ?_
  have pre2 : Pr p e below s₁ E0 s₁ (mkF m 4 #[vi p0] [(.int (255 : Int32)), (.int p0)]) := fun t k => pre0 t (by
    refine XS.iloadN X0.here hx rfl (b d34_0) rfl ?_
    refine XS.sipush X0.here hx rfl (b d34_1) ?_
    exact k)
  by_cases hc1 : (255 : Int32) < p0
  · have pre3 : Pr p e below s₁ E0 s₁ (mkF m 12 #[vi p0] [(.int (0 : Int32))]) := fun t k => pre2 t (by
      refine XS.icmpYes X0.here hx rfl (pc0 := 4) (pc' := 11) rfl (b d34_4) rfl (tlt hc1).2.2.1 (by decide) (by decide) ?_
      refine XS.iconst X0.here hx rfl (b d34_11) ?_
      exact k)
    exact own_end X0 hlk (v := some (.int (0 : Int32))) (own_hv hret) pre3 (fun fs hr => retN X0 hx (t := .boolean) hret (by simp) (b d34_12) hr) (by rw [e0]; exact ⟨by simp only [fn_ce, if_pos hc1], N0, rfl⟩)
  · have pre4 : Pr p e below s₁ E0 s₁ (mkF m 12 #[vi p0] [(.int (1 : Int32))]) := fun t k => pre2 t (by
      refine XS.icmpNo X0.here hx rfl (b d34_4) rfl (flt hc1).2.2.1 ?_
      refine XS.iconst X0.here hx rfl (b d34_7) ?_
      refine XS.goto X0.here hx rfl (pc0 := 8) (pc' := 12) rfl (b d34_8) (by decide) (by decide) ?_
      exact k)
    exact own_end X0 hlk (v := some (.int (1 : Int32))) (own_hv hret) pre4 (fun fs hr => retN X0 hx (t := .boolean) hret (by simp) (b d34_12) hr) (by rw [e0]; exact ⟨by simp only [fn_ce, if_neg hc1], N0, rfl⟩)
theorem own_ceF {p : Int32} (h : ¬ fn_ce p = (0 : Int32)) : p.toInt ≤ 255 := by
  unfold fn_ce at h
  by_cases q : (255 : Int32) < p
  · rw [if_pos q] at h; exact absurd rfl h
  · exact own_le255.mp q
abbrev C37 := jdk_29_method_69_code
theorem d37_0 : dk C37 0 (.iload_n 0) 1 := by decide +kernel
theorem d37_1 : dk C37 1 (.iload_n 1) 1 := by decide +kernel
theorem d37_2 : dk C37 2 (.if_icmp .gt 7) 3 := by decide +kernel
theorem d37_9 : dk C37 9 (.iload_n 1) 1 := by decide +kernel
theorem d37_10 : dk C37 10 .ireturn 1 := by decide +kernel
theorem d37_5 : dk C37 5 (.iload_n 0) 1 := by decide +kernel
theorem d37_6 : dk C37 6 (.goto 4) 3 := by decide +kernel
theorem own_pf : plainFor (⟨"java/lang/Math", "min", "(II)I"⟩ : MethodName) = true := by decide +kernel
def Q_mi (Z : State) (ka : Nat) (kb : Nat) (h0 : Heap) (n0 : Nat) (v : Option Value) (h : Heap) (L : List Loc) : Prop := v = some (.int (Int32.ofNat (min ka kb))) ∧ Fr n0 L ∧ h = h0
theorem rm_mi (l : Launch) (Z : State) (a0 : Array Value) (hw : Hw a0 Z) (ka : Nat) (kb : Nat) (h0 : Heap) (n0 : Nat) (Z0 : n0 ≤ h0.size) (h1 : ka ≤ 1000) (h2 : kb ≤ 1000) : Mt l (⟨"java/lang/Math", "min", "(II)I"⟩ : MethodName) C37 2 (some .int) ({ frames := 0, cells := 0, slots := 0, locals := 0 } : Room) #[(.int (Int32.ofNat ka)), (.int (Int32.ofNat kb))] Z h0 (Q_mi Z ka kb h0 n0) := by
  have w := own_w hw
  refine own_go (L0 := #[vi (Int32.ofNat ka), vi (Int32.ofNat kb)]) n0 own_pf (fun m => rfl) fun p e s m below meth c s₁ E0 hx b hml hown hnm hret hlk hZ X0 e0 N0 pre0 => ?_
  have pre2 : Pr p e below s₁ E0 s₁ (mkF m 2 #[vi (Int32.ofNat ka), vi (Int32.ofNat kb)] [(.int (Int32.ofNat kb)), (.int (Int32.ofNat ka))]) := fun t k => pre0 t (by
    refine XS.iloadN X0.here hx rfl (b d37_0) rfl ?_
    refine XS.iloadN X0.here hx rfl (b d37_1) rfl ?_
    exact k)
  by_cases hc1 : kb < ka
  · have pre3 : Pr p e below s₁ E0 s₁ (mkF m 10 #[vi (Int32.ofNat ka), vi (Int32.ofNat kb)] [(.int (Int32.ofNat kb))]) := fun t k => pre2 t (by
      refine XS.icmpYes X0.here hx rfl (pc0 := 2) (pc' := 9) rfl (b d37_2) rfl (tlt (own_ltT (a := kb) (b := ka) hc1 (by omega))).2.2.1 (by decide) (by decide) ?_
      refine XS.iloadN X0.here hx rfl (b d37_9) rfl ?_
      exact k)
    exact own_end X0 hlk (v := some (.int (Int32.ofNat kb))) (own_hv hret) pre3 (fun fs hr => retI X0 hx hret (b d37_10) hr) (by rw [e0]; exact ⟨by rw [show min ka kb = kb by omega], N0, rfl⟩)
  · have pre4 : Pr p e below s₁ E0 s₁ (mkF m 10 #[vi (Int32.ofNat ka), vi (Int32.ofNat kb)] [(.int (Int32.ofNat ka))]) := fun t k => pre2 t (by
      refine XS.icmpNo X0.here hx rfl (b d37_2) rfl (flt (own_ltF (a := kb) (b := ka) hc1 (by omega))).2.2.1 ?_
      refine XS.iloadN X0.here hx rfl (b d37_5) rfl ?_
      refine XS.goto X0.here hx rfl (pc0 := 6) (pc' := 10) rfl (b d37_6) (by decide) (by decide) ?_
      exact k)
    exact own_end X0 hlk (v := some (.int (Int32.ofNat ka))) (own_hv hret) pre4 (fun fs hr => retI X0 hx hret (b d37_10) hr) (by rw [e0]; exact ⟨by rw [show min ka kb = ka by omega], N0, rfl⟩)
abbrev C61 := jdk_65_method_131_code
theorem d61_0 : dk C61 0 (.iload_n 1) 1 := by decide +kernel
theorem d61_1 : dk C61 1 (.iload_n 0) 1 := by decide +kernel
theorem d61_2 : dk C61 2 (.if_icmp .ge 35) 3 := by decide +kernel
theorem d61_37 : dk C61 37 .return_ 1 := by decide +kernel
theorem own_pn18 : plainName "java/util/Arrays" = true := by first | (simp [plainName, overriddenIn]; done) | decide +kernel
def Q_ckl (Z : State) (ke : Nat) (h0 : Heap) (n0 : Nat) (v : Option Value) (h : Heap) (L : List Loc) : Prop := v = none ∧ Fr n0 L ∧ h = h0
theorem rm_ckl (l : Launch) (Z : State) (a0 : Array Value) (hw : Hw a0 Z) (ke : Nat) (h0 : Heap) (n0 : Nat) (Z0 : n0 ≤ h0.size) (h1 : ke ≤ 1000) : Mt l (⟨"java/util/Arrays", "checkLength", "(II)V"⟩ : MethodName) C61 2 none ({ frames := 0, cells := 0, slots := 0, locals := 0 } : Room) #[(.int (0 : Int32)), (.int (Int32.ofNat ke))] Z h0 (Q_ckl Z ke h0 n0) := by
  have w := own_w hw
  refine own_go (L0 := #[vi (0 : Int32), vi (Int32.ofNat ke)]) n0 (plainFor_of_name own_pn18) (fun m => rfl) fun p e s m below meth c s₁ E0 hx b hml hown hnm hret hlk hZ X0 e0 N0 pre0 => ?_
  have pre1 : Pr p e below s₁ E0 s₁ (mkF m 37 #[vi (0 : Int32), vi (Int32.ofNat ke)] []) := fun t k => pre0 t (by
    refine XS.iloadN X0.here hx rfl (b d61_0) rfl ?_
    refine XS.iloadN X0.here hx rfl (b d61_1) rfl ?_
    show Sp p e below s₁ (mkF m 2 #[vi (0 : Int32), vi (Int32.ofNat ke)] [(.int (0 : Int32)), (.int (Int32.ofNat ke))]) t
    refine XS.icmpYes X0.here hx rfl (pc0 := 2) (pc' := 37) rfl (b d61_2) rfl (flt (own_ltF (a := ke) (b := 0) (show ¬ ke < 0 by omega) (by omega))).2.1 (by decide) (by decide) ?_
    exact k)
  exact own_end X0 hlk (v := none) (fun _ => rfl) pre1 (fun fs hr => X0.returnOut hx hret (b d61_37) hr) (by rw [e0]; exact ⟨rfl, N0, rfl⟩)
abbrev C60 := jdk_65_method_133_code
theorem d60_0 : dk C60 0 (.iload_n 1) 1 := by decide +kernel
theorem d60_1 : dk C60 1 (.iload_n 2) 1 := by decide +kernel
theorem d60_2 : dk C60 2 (.invokestatic 343) 3 := by decide +kernel
theorem d60_5 : dk C60 5 (.iload_n 2) 1 := by decide +kernel
theorem d60_6 : dk C60 6 (.iload_n 1) 1 := by decide +kernel
theorem d60_7 : dk C60 7 .isub 1 := by decide +kernel
theorem d60_8 : dk C60 8 (.istore_n 3) 1 := by decide +kernel
theorem d60_9 : dk C60 9 (.iload_n 3) 1 := by decide +kernel
theorem d60_10 : dk C60 10 (.newarray .byte) 2 := by decide +kernel
theorem d60_12 : dk C60 12 (.astore 4) 2 := by decide +kernel
theorem d60_14 : dk C60 14 (.aload_n 0) 1 := by decide +kernel
theorem d60_15 : dk C60 15 (.iload_n 1) 1 := by decide +kernel
theorem d60_16 : dk C60 16 (.aload 4) 2 := by decide +kernel
theorem d60_18 : dk C60 18 (.iconst 0) 1 := by decide +kernel
theorem d60_19 : dk C60 19 (.aload_n 0) 1 := by decide +kernel
theorem d60_20 : dk C60 20 .arraylength 1 := by decide +kernel
theorem d60_21 : dk C60 21 (.iload_n 1) 1 := by decide +kernel
theorem d60_22 : dk C60 22 .isub 1 := by decide +kernel
theorem d60_23 : dk C60 23 (.iload_n 3) 1 := by decide +kernel
theorem d60_24 : dk C60 24 (.invokestatic 304) 3 := by decide +kernel
theorem own_pd19 : parseMethodDescriptor "(II)I" = some ⟨[.int, .int], some .int⟩ := by decide +kernel
theorem d60_27 : dk C60 27 (.invokestatic 150) 3 := by decide +kernel
theorem d60_30 : dk C60 30 (.aload 4) 2 := by decide +kernel
theorem d60_32 : dk C60 32 .areturn 1 := by decide +kernel
def Q_crb (Z : State) (r0 : Addr) (ke : Nat) (N : Nat) (f : Nat → Int32) (h0 : Heap) (n0 : Nat) (v : Option Value) (h : Heap) (L : List Loc) : Prop := ∃ b g, v = some (.ref b) ∧ Fr n0 L ∧ h0.size ≤ b ∧ Keep h0 h [] ∧ Ay Z h b .byte ke g ∧ Exa Z h b "[B" ∧ ∀ j, j < ke → g j = f j
theorem rm_crb (l : Launch) (Z : State) (a0 : Array Value) (hw : Hw a0 Z) (r0 : Addr) (ke : Nat) (N : Nat) (f : Nat → Int32) (h0 : Heap) (n0 : Nat) (Z0 : n0 ≤ h0.size) (Y_r0 : Ay Z h0 r0 .byte N f) (h1 : ke ≤ N) (h2 : ke ≤ 10) : Mt l (⟨"java/util/Arrays", "copyOfRangeByte", "([BII)[B"⟩ : MethodName) C60 5 (some (.array .byte)) ({ frames := 1, cells := 1, slots := 10, locals := 40 } : Room) #[(.ref r0), (.int (0 : Int32)), (.int (Int32.ofNat ke))] Z h0 (Q_crb Z r0 ke N f h0 n0) := by
  have w := own_w hw
  refine own_go (L0 := #[vr r0, vi (0 : Int32), vi (Int32.ofNat ke), vu, vu]) n0 (plainFor_of_name own_pn18) (fun m => rfl) fun p e s m below meth c s₁ E0 hx b hml hown hnm hret hlk hZ X0 e0 N0 pre0 => ?_
  have K0 : Keep h0 h0 [] := Keep.refl h0 _
  obtain ⟨_, T1, L1, X1, hQ1, st1⟩ := own_cS X0 hx hml hZ hown (rm_ckl l Z a0 hw ke h0 n0 Z0 (by omega)) (w 297 rfl) (w 298 rfl) (w 213 rfl) (w 299 rfl) e0 (g := (mkF m 2 #[vr r0, vi (0 : Int32), vi (Int32.ofNat ke), vu, vu] [(.int (Int32.ofNat ke)), (.int (0 : Int32))])) (argsL := [(.int (0 : Int32)), (.int (Int32.ofNat ke))]) (rest := []) (W := 0) (lenOf own_pd13 rfl) (b d60_2)
  obtain ⟨rfl, Nq1, e1⟩ := hQ1
  have N1 := Fr.app N0 Nq1
  obtain ⟨T2, h2, k2, X2, e2, E2, A2, Ex2, st2⟩ := newPE X1 hx hZ (w 27 rfl) e1 (g := (mkF m 10 #[vr r0, vi (0 : Int32), vi (Int32.ofNat ke), vi (Int32.ofNat ke), vu] [(.int (Int32.ofNat ke))])) rfl (b d60_10) (n := (Int32.ofNat ke)) rfl (own_nn (by omega)) (cap := 10) (by rw [own_nc (by omega)]; omega) (by decide) (by decide) (by decide) (ad := "[B") (by decide)
  obtain ⟨b2, g2⟩ : ∃ z, z = h0.size := ⟨_, rfl⟩
  rw [← g2] at A2 Ex2 st2
  have ne_r0_b2 : r0 ≠ b2 := Nat.ne_of_lt (Nat.lt_of_lt_of_le Y_r0.lt (Nat.le_of_eq g2.symm))
  have g_b2 : n0 ≤ b2 := Nat.le_trans Z0 (Nat.le_of_eq g2.symm)
  have sz_b2 : h0.size ≤ b2 := Nat.le_trans K0.1 (Nat.le_of_eq g2.symm)
  have f3_1 := Y_r0.ext E2
  have Z2 : n0 ≤ h2.size := Nat.le_trans Z0 E2.1
  have K2 := K0.ext E2
  have Y2 : Ay Z h2 b2 .byte ke (fun _ => 0) := Ay.new (by omega) A2 rfl
  obtain ⟨qn5, cl5, Ar5, S5, H5⟩ := id f3_1
  obtain ⟨_, T6, L6, X6, hQ6, st6⟩ := own_cS X2 hx hml hZ hown (rm_mi l Z a0 hw N ke h2 n0 Z2 (by omega) (by omega)) (w 300 rfl) (w 187 rfl) (w 188 rfl) (w 189 rfl) e2 (g := (mkF m 24 #[vr r0, vi (0 : Int32), vi (Int32.ofNat ke), vi (Int32.ofNat ke), vr b2] [(.int (Int32.ofNat ke)), (.int (Int32.ofNat N)), (.int (0 : Int32)), (.ref b2), (.int (0 : Int32)), (.ref r0)])) (argsL := [(.int (Int32.ofNat N)), (.int (Int32.ofNat ke))]) (rest := [(.int (0 : Int32)), (.ref b2), (.int (0 : Int32)), (.ref r0)]) (W := 4) (lenOf own_pd19 rfl) (b d60_24)
  obtain ⟨rfl, Nq6, e6⟩ := hQ6
  have N6 := Fr.app N1 Nq6
  obtain ⟨T7, h7, L7, X7, e7, N7, K7c, Y7, st7⟩ := own_cp X6 hx hZ hown (w 301 rfl) (w 155 rfl) (w 153 rfl) (w 154 rfl) e6 (sp := 0) (dp := 0) (nn := (min N ke)) f3_1 Y2 (by omega) (by omega) N6 g_b2 (g' := (mkF m 27 #[vr r0, vi (0 : Int32), vi (Int32.ofNat ke), vi (Int32.ofNat ke), vr b2] [(.int (Int32.ofNat (min N ke))), (.int (0 : Int32)), (.ref b2), (.int (0 : Int32)), (.ref r0)])) rfl (by rw [hml]; rfl) rfl (b d60_27) (by decide) (W := 0) (by show 2 * 0 + _ ≤ _; exact Nat.le_of_eq rfl) (by decide)
  have f8_1 := f3_1.keep K7c (ninS ne_r0_b2 nin0)
  have f8_3 := Ex2.keep K7c
  have Z7 : n0 ≤ h7.size := Nat.le_trans Z2 K7c.1
  have K7 := K2.trans K7c (allS (Or.inr sz_b2) all0)
  have pre10 : Pr p e below s₁ E0 T7 (mkF m 32 #[vr r0, vi (0 : Int32), vi (Int32.ofNat ke), vi (Int32.ofNat ke), vr b2] [(.ref b2)]) := fun t k => pre0 t (by
    refine XS.iloadN X0.here hx rfl (b d60_0) rfl ?_
    refine XS.iloadN X0.here hx rfl (b d60_1) rfl ?_
    refine st1 _ ?_
    show Sp p e below T1 (mkF m 5 #[vr r0, vi (0 : Int32), vi (Int32.ofNat ke), vu, vu] []) t
    refine XS.iloadN X1.here hx rfl (b d60_5) rfl ?_
    refine XS.iloadN X1.here hx rfl (b d60_6) rfl ?_
    refine XS.isub X1.here hx rfl (b d60_7) rfl ?_
    show Sp p e below T1 (mkF m 8 #[vr r0, vi (0 : Int32), vi (Int32.ofNat ke), vu, vu] [(.int ((Int32.ofNat ke) - (0 : Int32)))]) t
    rw [own_s0 ke]
    show Sp p e below T1 (mkF m 8 #[vr r0, vi (0 : Int32), vi (Int32.ofNat ke), vu, vu] [(.int (Int32.ofNat ke))]) t
    refine XS.istoreN X1.here hx rfl (b d60_8) rfl (l' := #[vr r0, vi (0 : Int32), vi (Int32.ofNat ke), vi (Int32.ofNat ke), vu]) rfl ?_
    refine XS.iloadN X1.here hx rfl (b d60_9) rfl ?_
    refine st2 _ ?_
    show Sp p e below T2 (mkF m 12 #[vr r0, vi (0 : Int32), vi (Int32.ofNat ke), vi (Int32.ofNat ke), vu] [(.ref b2)]) t
    refine XS.astore X2.here hx rfl (b d60_12) rfl rfl (l' := #[vr r0, vi (0 : Int32), vi (Int32.ofNat ke), vi (Int32.ofNat ke), vr b2]) rfl ?_
    refine XS.aloadN X2.here hx rfl (b d60_14) rfl rfl ?_
    refine XS.iloadN X2.here hx rfl (b d60_15) rfl ?_
    refine XS.aload X2.here hx rfl (b d60_16) rfl rfl ?_
    refine XS.iconst X2.here hx rfl (b d60_18) ?_
    refine XS.aloadN X2.here hx rfl (b d60_19) rfl rfl ?_
    refine X2.arraylength hx (by rw [e2]; exact Ar5.1) (State.isArrayOf_alike hZ.alike Ar5.2.1) (g := (mkF m 20 #[vr r0, vi (0 : Int32), vi (Int32.ofNat ke), vi (Int32.ofNat ke), vr b2] [(.ref r0), (.int (0 : Int32)), (.ref b2), (.int (0 : Int32)), (.ref r0)])) rfl rfl (b d60_20) _ ?_
    rw [own_len S5]
    show Sp p e below T2 (mkF m 21 #[vr r0, vi (0 : Int32), vi (Int32.ofNat ke), vi (Int32.ofNat ke), vr b2] [(.int (Int32.ofNat N)), (.int (0 : Int32)), (.ref b2), (.int (0 : Int32)), (.ref r0)]) t
    refine XS.iloadN X2.here hx rfl (b d60_21) rfl ?_
    refine XS.isub X2.here hx rfl (b d60_22) rfl ?_
    show Sp p e below T2 (mkF m 23 #[vr r0, vi (0 : Int32), vi (Int32.ofNat ke), vi (Int32.ofNat ke), vr b2] [(.int ((Int32.ofNat N) - (0 : Int32))), (.int (0 : Int32)), (.ref b2), (.int (0 : Int32)), (.ref r0)]) t
    rw [own_s0 N]
    show Sp p e below T2 (mkF m 23 #[vr r0, vi (0 : Int32), vi (Int32.ofNat ke), vi (Int32.ofNat ke), vr b2] [(.int (Int32.ofNat N)), (.int (0 : Int32)), (.ref b2), (.int (0 : Int32)), (.ref r0)]) t
    refine XS.iloadN X2.here hx rfl (b d60_23) rfl ?_
    refine st6 _ ?_
    show Sp p e below T6 (mkF m 27 #[vr r0, vi (0 : Int32), vi (Int32.ofNat ke), vi (Int32.ofNat ke), vr b2] [(.int (Int32.ofNat (min N ke))), (.int (0 : Int32)), (.ref b2), (.int (0 : Int32)), (.ref r0)]) t
    refine st7 _ ?_
    show Sp p e below T7 (mkF m 30 #[vr r0, vi (0 : Int32), vi (Int32.ofNat ke), vi (Int32.ofNat ke), vr b2] []) t
    refine XS.aload X7.here hx rfl (b d60_30) rfl rfl ?_
    exact k)
  exact own_end X7 hlk (v := some (.ref b2)) (own_hv hret) pre10 (fun fs hr => own_ra X7 hx hret rfl (b d60_32) hr) (by rw [e7]; exact ⟨b2, _, rfl, N7, sz_b2, K7, Y7, f8_3, fun j hj => own_cpj (f := f) (g := fun _ => 0) (k := min N ke) (by omega)⟩)
abbrev C42 := jdk_65_method_132_code
theorem d42_0 : dk C42 0 (.iload_n 1) 1 := by decide +kernel
theorem d42_1 : dk C42 1 (.ifCond .ne 9) 3 := by decide +kernel
theorem d42_4 : dk C42 4 (.iload_n 2) 1 := by decide +kernel
theorem d42_5 : dk C42 5 (.aload_n 0) 1 := by decide +kernel
theorem d42_6 : dk C42 6 .arraylength 1 := by decide +kernel
theorem d42_7 : dk C42 7 (.if_icmp .eq 10) 3 := by decide +kernel
theorem d42_17 : dk C42 17 (.aload_n 0) 1 := by decide +kernel
theorem d42_18 : dk C42 18 (.invokevirtual 310) 3 := by decide +kernel
theorem d42_21 : dk C42 21 (.checkcast 311) 3 := by decide +kernel
theorem d42_24 : dk C42 24 .areturn 1 := by decide +kernel
theorem d42_10 : dk C42 10 (.aload_n 0) 1 := by decide +kernel
theorem d42_11 : dk C42 11 (.iload_n 1) 1 := by decide +kernel
theorem d42_12 : dk C42 12 (.iload_n 2) 1 := by decide +kernel
theorem d42_13 : dk C42 13 (.invokestatic 339) 3 := by decide +kernel
theorem own_pd20 : parseMethodDescriptor "([BII)[B" = some ⟨[(.array .byte), .int, .int], some (.array .byte)⟩ := by decide +kernel
theorem d42_16 : dk C42 16 .areturn 1 := by decide +kernel
def Q_cor (Z : State) (r0 : Addr) (ke : Nat) (N : Nat) (f : Nat → Int32) (h0 : Heap) (n0 : Nat) (v : Option Value) (h : Heap) (L : List Loc) : Prop := ∃ b g, v = some (.ref b) ∧ Fr n0 L ∧ h0.size ≤ b ∧ Keep h0 h [] ∧ Ay Z h b .byte ke g ∧ Exa Z h b "[B" ∧ ∀ j, j < ke → g j = f j
theorem rm_cor (l : Launch) (Z : State) (a0 : Array Value) (hw : Hw a0 Z) (r0 : Addr) (ke : Nat) (N : Nat) (f : Nat → Int32) (h0 : Heap) (n0 : Nat) (Z0 : n0 ≤ h0.size) (Y_r0 : Ay Z h0 r0 .byte N f) (h1 : ke ≤ N) (h2 : ke ≤ 10) (E_r0 : Exa Z h0 r0 "[B") : Mt l (⟨"java/util/Arrays", "copyOfRange", "([BII)[B"⟩ : MethodName) C42 3 (some (.array .byte)) ({ frames := 2, cells := 1, slots := 10, locals := 56 } : Room) #[(.ref r0), (.int (0 : Int32)), (.int (Int32.ofNat ke))] Z h0 (Q_cor Z r0 ke N f h0 n0) := by
  have w := own_w hw
  refine own_go (L0 := #[vr r0, vi (0 : Int32), vi (Int32.ofNat ke)]) n0 (plainFor_of_name own_pn18) (fun m => rfl) fun p e s m below meth c s₁ E0 hx b hml hown hnm hret hlk hZ X0 e0 N0 pre0 => ?_
  have K0 : Keep h0 h0 [] := Keep.refl h0 _
  obtain ⟨qn1, cl1, Ar1, S1, H1⟩ := id Y_r0
  have pre3 : Pr p e below s₁ E0 s₁ (mkF m 7 #[vr r0, vi (0 : Int32), vi (Int32.ofNat ke)] [(.int (Int32.ofNat N)), (.int (Int32.ofNat ke))]) := fun t k => pre0 t (by
    refine XS.iloadN X0.here hx rfl (b d42_0) rfl ?_
    show Sp p e below s₁ (mkF m 1 #[vr r0, vi (0 : Int32), vi (Int32.ofNat ke)] [(.int (0 : Int32))]) t
    refine XS.ifNo X0.here hx rfl (b d42_1) rfl ((if0 _ _).trans (teq (by decide : (0 : Int32) = (0 : Int32))).2) ?_
    refine XS.iloadN X0.here hx rfl (b d42_4) rfl ?_
    refine XS.aloadN X0.here hx rfl (b d42_5) rfl rfl ?_
    refine X0.arraylength hx (by rw [e0]; exact Ar1.1) (State.isArrayOf_alike hZ.alike Ar1.2.1) (g := (mkF m 6 #[vr r0, vi (0 : Int32), vi (Int32.ofNat ke)] [(.ref r0), (.int (Int32.ofNat ke))])) rfl rfl (b d42_6) _ ?_
    rw [own_len S1]
    exact k)
  by_cases hc2 : ke = N
  · obtain ⟨T4, h4, X4, e4, E4, Y4, Ex4, st4⟩ := own_clone X0 hx hZ hown (w 215 rfl) (w 216 rfl) (w 220 rfl) (w 218 rfl) (w 219 rfl) (w 221 rfl) e0 Y_r0 E_r0 (g := (mkF m 18 #[vr r0, vi (0 : Int32), vi (Int32.ofNat ke)] [(.ref r0)])) rfl (by rw [hml]; rfl) rfl (b d42_18) (by decide) (W := 0) (cap := 10) (by show 2 * 0 + _ ≤ _; exact Nat.le_of_eq rfl) (by decide) (by omega) (by decide) (by decide)
    obtain ⟨b4, g4⟩ : ∃ z, z = h0.size := ⟨_, rfl⟩
    rw [← g4] at Y4 Ex4 st4
    have ne_r0_b4 : r0 ≠ b4 := Nat.ne_of_lt (Nat.lt_of_lt_of_le Y_r0.lt (Nat.le_of_eq g4.symm))
    have g_b4 : n0 ≤ b4 := Nat.le_trans Z0 (Nat.le_of_eq g4.symm)
    have sz_b4 : h0.size ≤ b4 := Nat.le_trans K0.1 (Nat.le_of_eq g4.symm)
    have f5_1 := Y_r0.ext E4
    have f5_2 := E_r0.ext E4
    have Z4 : n0 ≤ h4.size := Nat.le_trans Z0 E4.1
    have K4 := K0.ext E4
    obtain ⟨T7, X7, e7, st7⟩ := castY X4 hx hZ hown (w 222 rfl) e4 (Ins.self Ex4) (g := (mkF m 21 #[vr r0, vi (0 : Int32), vi (Int32.ofNat ke)] [(.ref b4)])) rfl rfl (b d42_21)
    have pre8 : Pr p e below s₁ E0 T7 (mkF m 24 #[vr r0, vi (0 : Int32), vi (Int32.ofNat ke)] [(.ref b4)]) := fun t k => pre3 t (by
      refine XS.icmpYes X0.here hx rfl (pc0 := 7) (pc' := 17) rfl (b d42_7) rfl (teq (own_eqT (a := ke) (b := N) hc2)).1 (by decide) (by decide) ?_
      refine XS.aloadN X0.here hx rfl (b d42_17) rfl rfl ?_
      refine st4 _ ?_
      show Sp p e below T4 (mkF m 21 #[vr r0, vi (0 : Int32), vi (Int32.ofNat ke)] [(.ref b4)]) t
      refine st7 _ ?_
      exact k)
    exact own_end X7 hlk (v := some (.ref b4)) (own_hv hret) pre8 (fun fs hr => own_ra X7 hx hret rfl (b d42_24) hr) (by rw [e7]; exact ⟨b4, f, rfl, N0, sz_b4, K4, by rw [hc2]; exact Y4, Ex4, fun _ _ => rfl⟩)
  · obtain ⟨_, T9, L9, X9, hQ9, st9⟩ := own_cS X0 hx hml hZ hown (rm_crb l Z a0 hw r0 ke N f h0 n0 Z0 Y_r0 (by omega) (by omega)) (w 294 rfl) (w 295 rfl) (w 213 rfl) (w 296 rfl) e0 (g := (mkF m 13 #[vr r0, vi (0 : Int32), vi (Int32.ofNat ke)] [(.int (Int32.ofNat ke)), (.int (0 : Int32)), (.ref r0)])) (argsL := [(.ref r0), (.int (0 : Int32)), (.int (Int32.ofNat ke))]) (rest := []) (W := 0) (lenOf own_pd20 rfl) (b d42_13)
    obtain ⟨b9, f9, rfl, Nq9, szq9, Kq9, Yq9, Exq9, hq9⟩ := hQ9
    have N9 := Fr.app N0 Nq9
    have f10_1 := Y_r0.keep Kq9 nin0
    have f10_2 := E_r0.keep Kq9
    have Z9 : n0 ≤ T9.heap.size := Nat.le_trans Z0 Kq9.1
    have K9 := K0.trans Kq9 all0
    have ne_r0_b9 : r0 ≠ b9 := Nat.ne_of_lt (Nat.lt_of_lt_of_le Y_r0.lt szq9)
    have sz_b9 : h0.size ≤ b9 := Nat.le_trans K0.1 szq9
    have g_b9 : n0 ≤ b9 := Nat.le_trans Z0 szq9
    have pre12 : Pr p e below s₁ E0 T9 (mkF m 16 #[vr r0, vi (0 : Int32), vi (Int32.ofNat ke)] [(.ref b9)]) := fun t k => pre3 t (by
      refine XS.icmpNo X0.here hx rfl (b d42_7) rfl (feq (own_eqF (a := ke) (b := N) hc2 (by omega) (by omega))).1 ?_
      refine XS.aloadN X0.here hx rfl (b d42_10) rfl rfl ?_
      refine XS.iloadN X0.here hx rfl (b d42_11) rfl ?_
      refine XS.iloadN X0.here hx rfl (b d42_12) rfl ?_
      refine st9 _ ?_
      exact k)
    exact own_end X9 hlk (v := some (.ref b9)) (own_hv hret) pre12 (fun fs hr => own_ra X9 hx hret rfl (b d42_16) hr) ⟨b9, _, rfl, N9, sz_b9, K9, Yq9, Exq9, hq9⟩
abbrev C56 := jdk_41_method_13_code
theorem d56_0 : dk C56 0 (.iload_n 2) 1 := by decide +kernel
theorem d56_1 : dk C56 1 (.iload_n 0) 1 := by decide +kernel
theorem d56_2 : dk C56 2 .ior 1 := by decide +kernel
theorem d56_3 : dk C56 3 (.iload_n 1) 1 := by decide +kernel
theorem d56_4 : dk C56 4 .ior 1 := by decide +kernel
theorem d56_5 : dk C56 5 (.ifCond .lt 10) 3 := by decide +kernel
theorem d56_8 : dk C56 8 (.iload_n 1) 1 := by decide +kernel
theorem d56_9 : dk C56 9 (.iload_n 2) 1 := by decide +kernel
theorem d56_10 : dk C56 10 (.iload_n 0) 1 := by decide +kernel
theorem d56_11 : dk C56 11 .isub 1 := by decide +kernel
theorem d56_12 : dk C56 12 (.if_icmp .le 11) 3 := by decide +kernel
theorem d56_23 : dk C56 23 (.iload_n 0) 1 := by decide +kernel
theorem d56_24 : dk C56 24 .ireturn 1 := by decide +kernel
def Q_cfis (Z : State) (w3 : Value) (kn : Nat) (M : Nat) (h0 : Heap) (n0 : Nat) (v : Option Value) (h : Heap) (L : List Loc) : Prop := v = some (.int (0 : Int32)) ∧ Fr n0 L ∧ h = h0
theorem rm_cfis (l : Launch) (Z : State) (a0 : Array Value) (hw : Hw a0 Z) (w3 : Value) (kn : Nat) (M : Nat) (h0 : Heap) (n0 : Nat) (Z0 : n0 ≤ h0.size) (r_w3 : w3.isRef = true) (hk : kn ≤ M) (hM : M ≤ 5) : Mt l (⟨"jdk/internal/util/Preconditions", "checkFromIndexSize", "(IIILjava/util/function/BiFunction;)I"⟩ : MethodName) C56 4 (some .int) ({ frames := 0, cells := 0, slots := 0, locals := 0 } : Room) #[(.int (0 : Int32)), (.int (Int32.ofNat kn)), (.int (Int32.ofNat M)), w3] Z h0 (Q_cfis Z w3 kn M h0 n0) := by
  have w := own_w hw
  refine own_go (L0 := #[vi (0 : Int32), vi (Int32.ofNat kn), vi (Int32.ofNat M), .val w3]) n0 (plainFor_of_name own_pn0) (fun m => by cases w3 <;> first | rfl | (simp [entryFrame, mkF, argsToLocals, Value.category]; done) | (simp [Value.isRef] at *; done)) fun p e s m below meth c s₁ E0 hx b hml hown hnm hret hlk hZ X0 e0 N0 pre0 => ?_
  have pre1 : Pr p e below s₁ E0 s₁ (mkF m 24 #[vi (0 : Int32), vi (Int32.ofNat kn), vi (Int32.ofNat M), .val w3] [(.int (0 : Int32))]) := fun t k => pre0 t (by
    refine XS.iloadN X0.here hx rfl (b d56_0) rfl ?_
    refine XS.iloadN X0.here hx rfl (b d56_1) rfl ?_
    refine XS.ior X0.here hx rfl (b d56_2) rfl ?_
    refine XS.iloadN X0.here hx rfl (b d56_3) rfl ?_
    refine XS.ior X0.here hx rfl (b d56_4) rfl ?_
    show Sp p e below s₁ (mkF m 5 #[vi (0 : Int32), vi (Int32.ofNat kn), vi (Int32.ofNat M), .val w3] [(.int (((Int32.ofNat M) ||| (0 : Int32)) ||| (Int32.ofNat kn)))]) t
    refine XS.ifNo X0.here hx rfl (b d56_5) rfl ((if0 _ _).trans (flt (own_or3 hM (by omega))).1) ?_
    refine XS.iloadN X0.here hx rfl (b d56_8) rfl ?_
    refine XS.iloadN X0.here hx rfl (b d56_9) rfl ?_
    refine XS.iloadN X0.here hx rfl (b d56_10) rfl ?_
    refine XS.isub X0.here hx rfl (b d56_11) rfl ?_
    show Sp p e below s₁ (mkF m 12 #[vi (0 : Int32), vi (Int32.ofNat kn), vi (Int32.ofNat M), .val w3] [(.int ((Int32.ofNat M) - (0 : Int32))), (.int (Int32.ofNat kn))]) t
    rw [own_s0 M]
    show Sp p e below s₁ (mkF m 12 #[vi (0 : Int32), vi (Int32.ofNat kn), vi (Int32.ofNat M), .val w3] [(.int (Int32.ofNat M)), (.int (Int32.ofNat kn))]) t
    refine XS.icmpYes X0.here hx rfl (pc0 := 12) (pc' := 23) rfl (b d56_12) rfl (flt (own_ltF (a := M) (b := kn) (show ¬ M < kn by omega) (by omega))).2.2.2 (by decide) (by decide) ?_
    refine XS.iloadN X0.here hx rfl (b d56_23) rfl ?_
    exact k)
  exact own_end X0 hlk (v := some (.int (0 : Int32))) (own_hv hret) pre1 (fun fs hr => retI X0 hx hret (b d56_24) hr) (by rw [e0]; exact ⟨rfl, N0, rfl⟩)
abbrev C55 := jdk_42_method_157_code
theorem d55_0 : dk C55 0 (.iload_n 0) 1 := by decide +kernel
theorem d55_1 : dk C55 1 (.iload_n 1) 1 := by decide +kernel
theorem d55_2 : dk C55 2 (.iload_n 2) 1 := by decide +kernel
theorem d55_3 : dk C55 3 (.getstatic 1053) 3 := by decide +kernel
theorem d55_6 : dk C55 6 (.invokestatic 1065) 3 := by decide +kernel
theorem own_pd21 : parseMethodDescriptor "(IIILjava/util/function/BiFunction;)I" = some ⟨[.int, .int, .int, (.object "java/util/function/BiFunction")], some .int⟩ := by decide +kernel
theorem d55_9 : dk C55 9 .ireturn 1 := by decide +kernel
def Q_scb (Z : State) (kn : Nat) (M : Nat) (h0 : Heap) (n0 : Nat) (v : Option Value) (h : Heap) (L : List Loc) : Prop := v = some (.int (0 : Int32)) ∧ Fr n0 L ∧ h = h0
theorem rm_scb (l : Launch) (Z : State) (a0 : Array Value) (hw : Hw a0 Z) (kn : Nat) (M : Nat) (h0 : Heap) (n0 : Nat) (Z0 : n0 ≤ h0.size) (hst : own_St Z) (X00 : Old Z n0 h0) (hk : kn ≤ M) (hM : M ≤ 5) : Mt l (⟨"java/lang/String", "checkBoundsOffCount", "(III)I"⟩ : MethodName) C55 3 (some .int) ({ frames := 1, cells := 0, slots := 0, locals := 15 } : Room) #[(.int (0 : Int32)), (.int (Int32.ofNat kn)), (.int (Int32.ofNat M))] Z h0 (Q_scb Z kn M h0 n0) := by
  have w := own_w hw
  refine own_go (L0 := #[vi (0 : Int32), vi (Int32.ofNat kn), vi (Int32.ofNat M)]) n0 (plainFor_of_name own_pn2) (fun m => rfl) fun p e s m below meth c s₁ E0 hx b hml hown hnm hret hlk hZ X0 e0 N0 pre0 => ?_
  obtain ⟨G1, v2, v3, P1, r_v2, r_v3, O1, O2, O3, O4, O5, O6⟩ := id hst
  obtain ⟨T1, X1, e1, st1⟩ := getS2 X0 hx hZ hown (host := "") (Or.inl (w 69 rfl)) Via.refl e0 (O2.ext X00.2) (g := (mkF m 3 #[vi (0 : Int32), vi (Int32.ofNat kn), vi (Int32.ofNat M)] [(.int (Int32.ofNat M)), (.int (Int32.ofNat kn)), (.int (0 : Int32))])) rfl (b d55_3)
  obtain ⟨_, T2, L2, X2, hQ2, st2⟩ := own_cS X1 hx hml hZ hown (rm_cfis l Z a0 hw v2 kn M h0 n0 Z0 r_v2 (by omega) (by omega)) (w 275 rfl) (w 276 rfl) (w 70 rfl) (w 277 rfl) e1 (g := (mkF m 6 #[vi (0 : Int32), vi (Int32.ofNat kn), vi (Int32.ofNat M)] [v2, (.int (Int32.ofNat M)), (.int (Int32.ofNat kn)), (.int (0 : Int32))])) (argsL := [(.int (0 : Int32)), (.int (Int32.ofNat kn)), (.int (Int32.ofNat M)), v2]) (rest := []) (W := 0) (lenOf own_pd21 rfl) (b d55_6)
  obtain ⟨rfl, Nq2, e2⟩ := hQ2
  have N2 := Fr.app N0 Nq2
  have pre3 : Pr p e below s₁ E0 T2 (mkF m 9 #[vi (0 : Int32), vi (Int32.ofNat kn), vi (Int32.ofNat M)] [(.int (0 : Int32))]) := fun t k => pre0 t (by
    refine XS.iloadN X0.here hx rfl (b d55_0) rfl ?_
    refine XS.iloadN X0.here hx rfl (b d55_1) rfl ?_
    refine XS.iloadN X0.here hx rfl (b d55_2) rfl ?_
    refine st1 _ ?_
    show Sp p e below T1 (mkF m 6 #[vi (0 : Int32), vi (Int32.ofNat kn), vi (Int32.ofNat M)] [v2, (.int (Int32.ofNat M)), (.int (Int32.ofNat kn)), (.int (0 : Int32))]) t
    refine st2 _ ?_
    exact k)
  exact own_end X2 hlk (v := some (.int (0 : Int32))) (own_hv hret) pre3 (fun fs hr => retI X2 hx hret (b d55_9) hr) (by rw [e2]; exact ⟨rfl, N2, rfl⟩)
abbrev C54 := jdk_52_method_94_code
theorem d54_0 : dk C54 0 (.iload_n 0) 1 := by decide +kernel
theorem d54_1 : dk C54 1 (.iload_n 1) 1 := by decide +kernel
theorem d54_2 : dk C54 2 (.aload_n 2) 1 := by decide +kernel
theorem d54_3 : dk C54 3 (.invokestatic 48) 3 := by decide +kernel
theorem d54_6 : dk C54 6 (.invokestatic 419) 3 := by decide +kernel
theorem own_pd22 : parseMethodDescriptor "(III)I" = some ⟨[.int, .int, .int], some .int⟩ := by decide +kernel
theorem d54_9 : dk C54 9 .pop 1 := by decide +kernel
theorem d54_10 : dk C54 10 .return_ 1 := by decide +kernel
def Q_ucb (Z : State) (r2 : Addr) (kn : Nat) (M : Nat) (f : Nat → Int32) (h0 : Heap) (n0 : Nat) (v : Option Value) (h : Heap) (L : List Loc) : Prop := v = none ∧ Fr n0 L ∧ h = h0
theorem rm_ucb (l : Launch) (Z : State) (a0 : Array Value) (hw : Hw a0 Z) (r2 : Addr) (kn : Nat) (M : Nat) (f : Nat → Int32) (h0 : Heap) (n0 : Nat) (Z0 : n0 ≤ h0.size) (hst : own_St Z) (X00 : Old Z n0 h0) (Y_r2 : Ay Z h0 r2 .byte (2 * M) f) (hk : kn ≤ M) (hM : M ≤ 5) : Mt l (⟨"java/lang/StringUTF16", "checkBoundsOffCount", "(II[B)V"⟩ : MethodName) C54 3 none ({ frames := 2, cells := 0, slots := 0, locals := 29 } : Room) #[(.int (0 : Int32)), (.int (Int32.ofNat kn)), (.ref r2)] Z h0 (Q_ucb Z r2 kn M f h0 n0) := by
  have w := own_w hw
  refine own_go (L0 := #[vi (0 : Int32), vi (Int32.ofNat kn), vr r2]) n0 (plainFor_of_name own_pn3) (fun m => rfl) fun p e s m below meth c s₁ E0 hx b hml hown hnm hret hlk hZ X0 e0 N0 pre0 => ?_
  obtain ⟨_, T1, L1, X1, hQ1, st1⟩ := own_cS X0 hx hml hZ hown (rm_ulen l Z a0 hw r2 M f h0 n0 Z0 Y_r2 (by omega)) (w 252 rfl) (w 253 rfl) (w 25 rfl) (w 254 rfl) e0 (g := (mkF m 3 #[vi (0 : Int32), vi (Int32.ofNat kn), vr r2] [(.ref r2), (.int (Int32.ofNat kn)), (.int (0 : Int32))])) (argsL := [(.ref r2)]) (rest := [(.int (Int32.ofNat kn)), (.int (0 : Int32))]) (W := 2) (lenOf own_pd15 rfl) (b d54_3)
  obtain ⟨rfl, Nq1, e1⟩ := hQ1
  have N1 := Fr.app N0 Nq1
  obtain ⟨_, T2, L2, X2, hQ2, st2⟩ := own_cS X1 hx hml hZ hown (rm_scb l Z a0 hw kn M h0 n0 Z0 hst X00 (by omega) (by omega)) (w 272 rfl) (w 273 rfl) (w 11 rfl) (w 274 rfl) e1 (g := (mkF m 6 #[vi (0 : Int32), vi (Int32.ofNat kn), vr r2] [(.int (Int32.ofNat M)), (.int (Int32.ofNat kn)), (.int (0 : Int32))])) (argsL := [(.int (0 : Int32)), (.int (Int32.ofNat kn)), (.int (Int32.ofNat M))]) (rest := []) (W := 0) (lenOf own_pd22 rfl) (b d54_6)
  obtain ⟨rfl, Nq2, e2⟩ := hQ2
  have N2 := Fr.app N1 Nq2
  have pre3 : Pr p e below s₁ E0 T2 (mkF m 10 #[vi (0 : Int32), vi (Int32.ofNat kn), vr r2] []) := fun t k => pre0 t (by
    refine XS.iloadN X0.here hx rfl (b d54_0) rfl ?_
    refine XS.iloadN X0.here hx rfl (b d54_1) rfl ?_
    refine XS.aloadN X0.here hx rfl (b d54_2) rfl rfl ?_
    refine st1 _ ?_
    show Sp p e below T1 (mkF m 6 #[vi (0 : Int32), vi (Int32.ofNat kn), vr r2] [(.int (Int32.ofNat M)), (.int (Int32.ofNat kn)), (.int (0 : Int32))]) t
    refine st2 _ ?_
    show Sp p e below T2 (mkF m 9 #[vi (0 : Int32), vi (Int32.ofNat kn), vr r2] [(.int (0 : Int32))]) t
    refine XS.pop X2.here hx rfl (b d54_9) rfl rfl ?_
    exact k)
  exact own_end X2 hlk (v := none) (fun _ => rfl) pre3 (fun fs hr => X2.returnOut hx hret (b d54_10) hr) (by rw [e2]; exact ⟨rfl, N2, rfl⟩)
abbrev C25 := jdk_41_method_12_code
theorem d25_0 : dk C25 0 (.iload_n 0) 1 := by decide +kernel
theorem d25_1 : dk C25 1 (.ifCond .lt 13) 3 := by decide +kernel
theorem d25_4 : dk C25 4 (.iload_n 0) 1 := by decide +kernel
theorem d25_5 : dk C25 5 (.iload_n 1) 1 := by decide +kernel
theorem d25_6 : dk C25 6 (.if_icmp .gt 8) 3 := by decide +kernel
theorem d25_9 : dk C25 9 (.iload_n 1) 1 := by decide +kernel
theorem d25_10 : dk C25 10 (.iload_n 2) 1 := by decide +kernel
theorem d25_11 : dk C25 11 (.if_icmp .le 11) 3 := by decide +kernel
theorem d25_22 : dk C25 22 (.iload_n 0) 1 := by decide +kernel
theorem d25_23 : dk C25 23 .ireturn 1 := by decide +kernel
def Q_cft (Z : State) (w3 : Value) (kn : Nat) (M : Nat) (h0 : Heap) (n0 : Nat) (v : Option Value) (h : Heap) (L : List Loc) : Prop := v = some (.int (0 : Int32)) ∧ Fr n0 L ∧ h = h0
theorem rm_cft (l : Launch) (Z : State) (a0 : Array Value) (hw : Hw a0 Z) (w3 : Value) (kn : Nat) (M : Nat) (h0 : Heap) (n0 : Nat) (Z0 : n0 ≤ h0.size) (r_w3 : w3.isRef = true) (hk : kn ≤ M) (hM : M ≤ 5) : Mt l (⟨"jdk/internal/util/Preconditions", "checkFromToIndex", "(IIILjava/util/function/BiFunction;)I"⟩ : MethodName) C25 4 (some .int) ({ frames := 0, cells := 0, slots := 0, locals := 0 } : Room) #[(.int (0 : Int32)), (.int (Int32.ofNat kn)), (.int (Int32.ofNat M)), w3] Z h0 (Q_cft Z w3 kn M h0 n0) := by
  have w := own_w hw
  refine own_go (L0 := #[vi (0 : Int32), vi (Int32.ofNat kn), vi (Int32.ofNat M), .val w3]) n0 (plainFor_of_name own_pn0) (fun m => by cases w3 <;> first | rfl | (simp [entryFrame, mkF, argsToLocals, Value.category]; done) | (simp [Value.isRef] at *; done)) fun p e s m below meth c s₁ E0 hx b hml hown hnm hret hlk hZ X0 e0 N0 pre0 => ?_
  have pre1 : Pr p e below s₁ E0 s₁ (mkF m 23 #[vi (0 : Int32), vi (Int32.ofNat kn), vi (Int32.ofNat M), .val w3] [(.int (0 : Int32))]) := fun t k => pre0 t (by
    refine XS.iloadN X0.here hx rfl (b d25_0) rfl ?_
    show Sp p e below s₁ (mkF m 1 #[vi (0 : Int32), vi (Int32.ofNat kn), vi (Int32.ofNat M), .val w3] [(.int (0 : Int32))]) t
    refine XS.ifNo X0.here hx rfl (b d25_1) rfl ((if0 _ _).trans (flt (by decide : ¬ ((0 : Int32) < (0 : Int32)))).1) ?_
    refine XS.iloadN X0.here hx rfl (b d25_4) rfl ?_
    refine XS.iloadN X0.here hx rfl (b d25_5) rfl ?_
    show Sp p e below s₁ (mkF m 6 #[vi (0 : Int32), vi (Int32.ofNat kn), vi (Int32.ofNat M), .val w3] [(.int (Int32.ofNat kn)), (.int (0 : Int32))]) t
    refine XS.icmpNo X0.here hx rfl (b d25_6) rfl (flt (own_ltF (a := kn) (b := 0) (show ¬ kn < 0 by omega) (by omega))).2.2.1 ?_
    refine XS.iloadN X0.here hx rfl (b d25_9) rfl ?_
    refine XS.iloadN X0.here hx rfl (b d25_10) rfl ?_
    show Sp p e below s₁ (mkF m 11 #[vi (0 : Int32), vi (Int32.ofNat kn), vi (Int32.ofNat M), .val w3] [(.int (Int32.ofNat M)), (.int (Int32.ofNat kn))]) t
    refine XS.icmpYes X0.here hx rfl (pc0 := 11) (pc' := 22) rfl (b d25_11) rfl (flt (own_ltF (a := M) (b := kn) (show ¬ M < kn by omega) (by omega))).2.2.2 (by decide) (by decide) ?_
    refine XS.iloadN X0.here hx rfl (b d25_22) rfl ?_
    exact k)
  exact own_end X0 hlk (v := some (.int (0 : Int32))) (own_hv hret) pre1 (fun fs hr => retI X0 hx hret (b d25_23) hr) (by rw [e0]; exact ⟨rfl, N0, rfl⟩)
abbrev C53 := jdk_52_method_86_code
theorem d53_0 : dk C53 0 (.iload_n 3) 1 := by decide +kernel
theorem d53_1 : dk C53 1 (.iload 4) 2 := by decide +kernel
theorem d53_3 : dk C53 3 (.aload_n 2) 1 := by decide +kernel
theorem d53_4 : dk C53 4 (.invokestatic 173) 3 := by decide +kernel
theorem own_pd23 : parseMethodDescriptor "(II[B)V" = some ⟨[.int, .int, (.array .byte)], none⟩ := by decide +kernel
theorem d53_7 : dk C53 7 (.iconst 0) 1 := by decide +kernel
theorem d53_8 : dk C53 8 (.istore 5) 2 := by decide +kernel
theorem d53_10 : dk C53 10 (.iload 5) 2 := by decide +kernel
theorem d53_12 : dk C53 12 (.iload 4) 2 := by decide +kernel
theorem d53_14 : dk C53 14 (.if_icmp .ge 27) 3 := by decide +kernel
theorem d53_17 : dk C53 17 (.aload_n 2) 1 := by decide +kernel
theorem d53_18 : dk C53 18 (.iload_n 3) 1 := by decide +kernel
theorem d53_19 : dk C53 19 (.iinc 3 1) 3 := by decide +kernel
theorem d53_22 : dk C53 22 (.aload_n 0) 1 := by decide +kernel
theorem d53_23 : dk C53 23 (.iload_n 1) 1 := by decide +kernel
theorem d53_24 : dk C53 24 (.iinc 1 1) 3 := by decide +kernel
theorem d53_27 : dk C53 27 .baload 1 := by decide +kernel
theorem d53_28 : dk C53 28 (.sipush 255) 3 := by decide +kernel
theorem d53_31 : dk C53 31 .iand 1 := by decide +kernel
theorem d53_32 : dk C53 32 (.invokestatic 111) 3 := by decide +kernel
theorem d53_35 : dk C53 35 (.iinc 5 1) 3 := by decide +kernel
theorem d53_38 : dk C53 38 (.goto (-28)) 3 := by decide +kernel
theorem d53_41 : dk C53 41 .return_ 1 := by decide +kernel
def Q_uin (Z : State) (r0 : Addr) (r2 : Addr) (kn : Nat) (N : Nat) (M : Nat) (f : Nat → Int32) (g0 : Nat → Int32) (h0 : Heap) (n0 : Nat) (v : Option Value) (h : Heap) (L : List Loc) : Prop := ∃ g, v = none ∧ Fr n0 L ∧ Keep h0 h [r2] ∧ Ay Z h r2 .byte (2 * M) g ∧ ∀ j, j < kn → g (2 * j) = own_lo ((f j) &&& (255 : Int32)) ∧ g (2 * j + 1) = own_hi ((f j) &&& (255 : Int32))
theorem rm_uin (l : Launch) (Z : State) (a0 : Array Value) (hw : Hw a0 Z) (r0 : Addr) (r2 : Addr) (kn : Nat) (N : Nat) (M : Nat) (f : Nat → Int32) (g0 : Nat → Int32) (h0 : Heap) (n0 : Nat) (Z0 : n0 ≤ h0.size) (hst : own_St Z) (X00 : Old Z n0 h0) (Y_r0 : Ay Z h0 r0 .byte N f) (Y_r2 : Ay Z h0 r2 .byte (2 * M) g0) (g_r2 : n0 ≤ r2) (ne02 : r0 ≠ r2) (hk : kn ≤ N) (hM : kn ≤ M) (hM5 : M ≤ 5) : Mt l (⟨"java/lang/StringUTF16", "inflate", "([BI[BII)V"⟩ : MethodName) C53 6 none ({ frames := 3, cells := 0, slots := 0, locals := 43 } : Room) #[(.ref r0), (.int (0 : Int32)), (.ref r2), (.int (0 : Int32)), (.int (Int32.ofNat kn))] Z h0 (Q_uin Z r0 r2 kn N M f g0 h0 n0) := by
  have w := own_w hw
  refine own_go (L0 := #[vr r0, vi (0 : Int32), vr r2, vi (0 : Int32), vi (Int32.ofNat kn), vu]) n0 (plainFor_of_name own_pn3) (fun m => rfl) fun p e s m below meth c s₁ E0 hx b hml hown hnm hret hlk hZ X0 e0 N0 pre0 => ?_
  have K0 : Keep h0 h0 [r2] := Keep.refl h0 _
  obtain ⟨_, T1, L1, X1, hQ1, st1⟩ := own_cS X0 hx hml hZ hown (rm_ucb l Z a0 hw r2 kn M g0 h0 n0 Z0 hst X00 Y_r2 (by omega) (by omega)) (w 269 rfl) (w 270 rfl) (w 25 rfl) (w 271 rfl) e0 (g := (mkF m 4 #[vr r0, vi (0 : Int32), vr r2, vi (0 : Int32), vi (Int32.ofNat kn), vu] [(.ref r2), (.int (Int32.ofNat kn)), (.int (0 : Int32))])) (argsL := [(.int (0 : Int32)), (.int (Int32.ofNat kn)), (.ref r2)]) (rest := []) (W := 0) (lenOf own_pd23 rfl) (b d53_4)
  obtain ⟨rfl, Nq1, e1⟩ := hQ1
  have N1 := Fr.app N0 Nq1
  have pre2 : Pr p e below s₁ E0 T1 (mkF m 10 #[vr r0, vi (0 : Int32), vr r2, vi (0 : Int32), vi (Int32.ofNat kn), vi (0 : Int32)] []) := fun t k => pre0 t (by
    refine XS.iloadN X0.here hx rfl (b d53_0) rfl ?_
    refine XS.iload X0.here hx rfl (b d53_1) rfl ?_
    refine XS.aloadN X0.here hx rfl (b d53_3) rfl rfl ?_
    refine st1 _ ?_
    show Sp p e below T1 (mkF m 7 #[vr r0, vi (0 : Int32), vr r2, vi (0 : Int32), vi (Int32.ofNat kn), vu] []) t
    refine XS.iconst X1.here hx rfl (b d53_7) ?_
    refine XS.istore X1.here hx rfl (b d53_8) rfl (l' := #[vr r0, vi (0 : Int32), vr r2, vi (0 : Int32), vi (Int32.ofNat kn), vi (0 : Int32)]) rfl ?_
    exact k)
  refine own_loop (fun k => ∃ (i : Nat) (g : Nat → Int32) (T3 : State) (LL3 : List Loc) (H3 : Heap), kn - i = k ∧ (i ≤ kn) ∧ (∀ j, j < i → g (2 * j) = own_lo ((f j) &&& (255 : Int32)) ∧ g (2 * j + 1) = own_hi ((f j) &&& (255 : Int32))) ∧ Stand p l e ({ frames := 3, cells := 0, slots := 0, locals := 43 } : Room) s m #[(.ref r0), (.int (0 : Int32)), (.ref r2), (.int (0 : Int32)), (.int (Int32.ofNat kn))] below meth c T3 LL3 (0) (0) ∧ Fr n0 LL3 ∧ T3.heap = H3 ∧ n0 ≤ H3.size ∧ Keep h0 H3 [r2] ∧ (Ay Z H3 r0 .byte N f) ∧ (Ay Z H3 r2 .byte (2 * M) g) ∧ (Old Z n0 H3) ∧ Pr p e below s₁ E0 T3 (mkF m 10 #[vr r0, vi (Int32.ofNat i), vr r2, vi (Int32.ofNat i), vi (Int32.ofNat kn), vi (Int32.ofNat i)] [])) ?_ _ ⟨0, g0, T1, _, h0, rfl, (by omega), (fun j hj => absurd hj (by omega)), X1, N1, e1, Z0, K0, Y_r0, Y_r2, X00, pre2⟩
  rintro k3 ⟨i, g, T3, LL3, H3, hm3, hi, hg, X3, N3, e3, Z3, K3, lf3_0, lf3_1, lf3_2, pre3⟩ ih3
  have pre5 : Pr p e below s₁ E0 T3 (mkF m 14 #[vr r0, vi (Int32.ofNat i), vr r2, vi (Int32.ofNat i), vi (Int32.ofNat kn), vi (Int32.ofNat i)] [(.int (Int32.ofNat kn)), (.int (Int32.ofNat i))]) := fun t k => pre3 t (by
    refine XS.iload X3.here hx rfl (b d53_10) rfl ?_
    refine XS.iload X3.here hx rfl (b d53_12) rfl ?_
    exact k)
  by_cases hc4 : i < kn
  · obtain ⟨qn6, cl6, Ar6, S6, H6⟩ := id lf3_0
    obtain ⟨_, T8, L8, X8, hQ8, st8⟩ := own_cS X3 hx hml hZ hown (rm_pc l Z a0 hw r2 ((f i) &&& (255 : Int32)) i (2 * M) g H3 n0 Z3 hst lf3_2 lf3_1 (by omega) g_r2 (by omega)) (w 237 rfl) (w 238 rfl) (w 25 rfl) (w 239 rfl) e3 (g := (mkF m 32 #[vr r0, vi (Int32.ofNat (i + 1)), vr r2, vi (Int32.ofNat (i + 1)), vi (Int32.ofNat kn), vi (Int32.ofNat i)] [(.int ((f i) &&& (255 : Int32))), (.int (Int32.ofNat i)), (.ref r2)])) (argsL := [(.ref r2), (.int (Int32.ofNat i)), (.int ((f i) &&& (255 : Int32)))]) (rest := []) (W := 0) (lenOf own_pd6 rfl) (b d53_32)
    obtain ⟨rfl, Nq8, Kq8, Yq8⟩ := hQ8
    have N8 := Fr.app N3 Nq8
    have f9_1 := lf3_0.keep Kq8 (ninS ne02 nin0)
    have od9 := lf3_2.keep Kq8 (allS g_r2 all0)
    have Z8 : n0 ≤ T8.heap.size := Nat.le_trans Z3 Kq8.1
    have K8 := K3.trans Kq8 (allS (Or.inl (by simp)) all0)
    have pre11 : Pr p e below s₁ E0 T8 (mkF m 10 #[vr r0, vi (Int32.ofNat (i + 1)), vr r2, vi (Int32.ofNat (i + 1)), vi (Int32.ofNat kn), vi (Int32.ofNat (i + 1))] []) := fun t k => pre5 t (by
      refine XS.icmpNo X3.here hx rfl (b d53_14) rfl (tlt (own_ltT (a := i) (b := kn) hc4 (by omega))).2.1 ?_
      refine XS.aloadN X3.here hx rfl (b d53_17) rfl rfl ?_
      refine XS.iloadN X3.here hx rfl (b d53_18) rfl ?_
      refine XS.iinc X3.here hx rfl (b d53_19) rfl (l' := #[vr r0, vi (Int32.ofNat i), vr r2, vi ((Int32.ofNat i) + (1 : Int32)), vi (Int32.ofNat kn), vi (Int32.ofNat i)]) rfl ?_
      show Sp p e below T3 (mkF m 22 #[vr r0, vi (Int32.ofNat i), vr r2, vi ((Int32.ofNat i) + (1 : Int32)), vi (Int32.ofNat kn), vi (Int32.ofNat i)] [(.int (Int32.ofNat i)), (.ref r2)]) t
      rw [own_a1 i]
      show Sp p e below T3 (mkF m 22 #[vr r0, vi (Int32.ofNat i), vr r2, vi (Int32.ofNat (i + 1)), vi (Int32.ofNat kn), vi (Int32.ofNat i)] [(.int (Int32.ofNat i)), (.ref r2)]) t
      refine XS.aloadN X3.here hx rfl (b d53_22) rfl rfl ?_
      refine XS.iloadN X3.here hx rfl (b d53_23) rfl ?_
      refine XS.iinc X3.here hx rfl (b d53_24) rfl (l' := #[vr r0, vi ((Int32.ofNat i) + (1 : Int32)), vr r2, vi (Int32.ofNat (i + 1)), vi (Int32.ofNat kn), vi (Int32.ofNat i)]) rfl ?_
      show Sp p e below T3 (mkF m 27 #[vr r0, vi ((Int32.ofNat i) + (1 : Int32)), vr r2, vi (Int32.ofNat (i + 1)), vi (Int32.ofNat kn), vi (Int32.ofNat i)] [(.int (Int32.ofNat i)), (.ref r0), (.int (Int32.ofNat i)), (.ref r2)]) t
      rw [own_a1 i]
      show Sp p e below T3 (mkF m 27 #[vr r0, vi (Int32.ofNat (i + 1)), vr r2, vi (Int32.ofNat (i + 1)), vi (Int32.ofNat kn), vi (Int32.ofNat i)] [(.int (Int32.ofNat i)), (.ref r0), (.int (Int32.ofNat i)), (.ref r2)]) t
      refine X3.baloadBytes hx (j := (Int32.ofNat i)) (v := (.int (f i))) (by rw [e3]; exact Ar6.1) (State.isArrayOf_alike hZ.alike Ar6.2.1) Ar6.2.2 (own_in qn6 S6 (show i < N by omega)) (own_at qn6 H6 (show i < N by omega)) (g := (mkF m 27 #[vr r0, vi (Int32.ofNat (i + 1)), vr r2, vi (Int32.ofNat (i + 1)), vi (Int32.ofNat kn), vi (Int32.ofNat i)] [(.int (Int32.ofNat i)), (.ref r0), (.int (Int32.ofNat i)), (.ref r2)])) rfl rfl (b d53_27) _ ?_
      show Sp p e below T3 (mkF m 28 #[vr r0, vi (Int32.ofNat (i + 1)), vr r2, vi (Int32.ofNat (i + 1)), vi (Int32.ofNat kn), vi (Int32.ofNat i)] [(.int (f i)), (.int (Int32.ofNat i)), (.ref r2)]) t
      refine XS.sipush X3.here hx rfl (b d53_28) ?_
      refine XS.iand X3.here hx rfl (b d53_31) rfl ?_
      refine st8 _ ?_
      show Sp p e below T8 (mkF m 35 #[vr r0, vi (Int32.ofNat (i + 1)), vr r2, vi (Int32.ofNat (i + 1)), vi (Int32.ofNat kn), vi (Int32.ofNat i)] []) t
      refine XS.iinc X8.here hx rfl (b d53_35) rfl (l' := #[vr r0, vi (Int32.ofNat (i + 1)), vr r2, vi (Int32.ofNat (i + 1)), vi (Int32.ofNat kn), vi ((Int32.ofNat i) + (1 : Int32))]) rfl ?_
      show Sp p e below T8 (mkF m 38 #[vr r0, vi (Int32.ofNat (i + 1)), vr r2, vi (Int32.ofNat (i + 1)), vi (Int32.ofNat kn), vi ((Int32.ofNat i) + (1 : Int32))] []) t
      rw [own_a1 i]
      show Sp p e below T8 (mkF m 38 #[vr r0, vi (Int32.ofNat (i + 1)), vr r2, vi (Int32.ofNat (i + 1)), vi (Int32.ofNat kn), vi (Int32.ofNat (i + 1))] []) t
      refine XS.goto X8.here hx rfl (pc0 := 38) (pc' := 10) rfl (b d53_38) (by decide) (by decide) ?_
      exact k)
    exact ih3 (kn - (i + 1)) (by omega) ⟨(i + 1), (fun x => if x = ((2 * i) + 1) then (own_hi ((f i) &&& (255 : Int32))) else (fun x => if x = (2 * i) then (own_lo ((f i) &&& (255 : Int32))) else g x) x), T8, _, T8.heap, rfl, (by omega), (own_tb (f := fun x => (f x) &&& (255 : Int32)) hg), X8, N8, rfl, Z8, K8, f9_1, Yq8, od9, pre11⟩
  · have pre12 : Pr p e below s₁ E0 T3 (mkF m 41 #[vr r0, vi (Int32.ofNat i), vr r2, vi (Int32.ofNat i), vi (Int32.ofNat kn), vi (Int32.ofNat i)] []) := fun t k => pre5 t (by
      refine XS.icmpYes X3.here hx rfl (pc0 := 14) (pc' := 41) rfl (b d53_14) rfl (flt (own_ltF (a := i) (b := kn) hc4 (by omega))).2.1 (by decide) (by decide) ?_
      exact k)
    exact own_end X3 hlk (v := none) (fun _ => rfl) pre12 (fun fs hr => X3.returnOut hx hret (b d53_41) hr) (by rw [e3]; exact ⟨g, rfl, N3, K3, lf3_1, fun j hj => hg j (by omega)⟩)
abbrev C52 := jdk_43_method_50_code
theorem d52_0 : dk C52 0 (.aload_n 0) 1 := by decide +kernel
theorem d52_1 : dk C52 1 (.iload_n 1) 1 := by decide +kernel
theorem d52_2 : dk C52 2 (.aload_n 2) 1 := by decide +kernel
theorem d52_3 : dk C52 3 (.iload_n 3) 1 := by decide +kernel
theorem d52_4 : dk C52 4 (.iload 4) 2 := by decide +kernel
theorem d52_6 : dk C52 6 (.invokestatic 240) 3 := by decide +kernel
theorem own_pd24 : parseMethodDescriptor "([BI[BII)V" = some ⟨[(.array .byte), .int, (.array .byte), .int, .int], none⟩ := by decide +kernel
theorem d52_9 : dk C52 9 .return_ 1 := by decide +kernel
def Q_lin (Z : State) (r0 : Addr) (r2 : Addr) (kn : Nat) (N : Nat) (M : Nat) (f : Nat → Int32) (g0 : Nat → Int32) (h0 : Heap) (n0 : Nat) (v : Option Value) (h : Heap) (L : List Loc) : Prop := ∃ g, v = none ∧ Fr n0 L ∧ Keep h0 h [r2] ∧ Ay Z h r2 .byte (2 * M) g ∧ ∀ j, j < kn → g (2 * j) = own_lo ((f j) &&& (255 : Int32)) ∧ g (2 * j + 1) = own_hi ((f j) &&& (255 : Int32))
theorem rm_lin (l : Launch) (Z : State) (a0 : Array Value) (hw : Hw a0 Z) (r0 : Addr) (r2 : Addr) (kn : Nat) (N : Nat) (M : Nat) (f : Nat → Int32) (g0 : Nat → Int32) (h0 : Heap) (n0 : Nat) (Z0 : n0 ≤ h0.size) (hst : own_St Z) (X00 : Old Z n0 h0) (Y_r0 : Ay Z h0 r0 .byte N f) (Y_r2 : Ay Z h0 r2 .byte (2 * M) g0) (g_r2 : n0 ≤ r2) (ne02 : r0 ≠ r2) (hk : kn ≤ N) (hM : kn ≤ M) (hM5 : M ≤ 5) : Mt l (⟨"java/lang/StringLatin1", "inflate", "([BI[BII)V"⟩ : MethodName) C52 5 none ({ frames := 4, cells := 0, slots := 0, locals := 60 } : Room) #[(.ref r0), (.int (0 : Int32)), (.ref r2), (.int (0 : Int32)), (.int (Int32.ofNat kn))] Z h0 (Q_lin Z r0 r2 kn N M f g0 h0 n0) := by
  have w := own_w hw
  refine own_go (L0 := #[vr r0, vi (0 : Int32), vr r2, vi (0 : Int32), vi (Int32.ofNat kn)]) n0 (plainFor_of_name own_pn14) (fun m => rfl) fun p e s m below meth c s₁ E0 hx b hml hown hnm hret hlk hZ X0 e0 N0 pre0 => ?_
  have K0 : Keep h0 h0 [r2] := Keep.refl h0 _
  obtain ⟨_, T1, L1, X1, hQ1, st1⟩ := own_cS X0 hx hml hZ hown (rm_uin l Z a0 hw r0 r2 kn N M f g0 h0 n0 Z0 hst X00 Y_r0 Y_r2 g_r2 ne02 (by omega) (by omega) (by omega)) (w 266 rfl) (w 267 rfl) (w 25 rfl) (w 268 rfl) e0 (g := (mkF m 6 #[vr r0, vi (0 : Int32), vr r2, vi (0 : Int32), vi (Int32.ofNat kn)] [(.int (Int32.ofNat kn)), (.int (0 : Int32)), (.ref r2), (.int (0 : Int32)), (.ref r0)])) (argsL := [(.ref r0), (.int (0 : Int32)), (.ref r2), (.int (0 : Int32)), (.int (Int32.ofNat kn))]) (rest := []) (W := 0) (lenOf own_pd24 rfl) (b d52_6)
  obtain ⟨g1, rfl, Nq1, Kq1, Yq1, hq1⟩ := hQ1
  have N1 := Fr.app N0 Nq1
  have f2_1 := Y_r0.keep Kq1 (ninS ne02 nin0)
  have od2 := X00.keep Kq1 (allS g_r2 all0)
  have Z1 : n0 ≤ T1.heap.size := Nat.le_trans Z0 Kq1.1
  have K1 := K0.trans Kq1 (allS (Or.inl (by simp)) all0)
  have pre4 : Pr p e below s₁ E0 T1 (mkF m 9 #[vr r0, vi (0 : Int32), vr r2, vi (0 : Int32), vi (Int32.ofNat kn)] []) := fun t k => pre0 t (by
    refine XS.aloadN X0.here hx rfl (b d52_0) rfl rfl ?_
    refine XS.iloadN X0.here hx rfl (b d52_1) rfl ?_
    refine XS.aloadN X0.here hx rfl (b d52_2) rfl rfl ?_
    refine XS.iloadN X0.here hx rfl (b d52_3) rfl ?_
    refine XS.iload X0.here hx rfl (b d52_4) rfl ?_
    refine st1 _ ?_
    exact k)
  exact own_end X1 hlk (v := none) (fun _ => rfl) pre4 (fun fs hr => X1.returnOut hx hret (b d52_9) hr) ⟨_, rfl, N1, K1, Yq1, hq1⟩
abbrev C28 := jdk_68_method_68_code
theorem d28_0 : dk C28 0 (.getstatic 18) 3 := by decide +kernel
theorem d28_3 : dk C28 3 (.ifCond .eq 14) 3 := by decide +kernel
theorem d28_6 : dk C28 6 (.aload_n 0) 1 := by decide +kernel
theorem d28_7 : dk C28 7 (.getfield 22) 3 := by decide +kernel
theorem d28_10 : dk C28 10 (.ifCond .ne 7) 3 := by decide +kernel
theorem d28_13 : dk C28 13 (.iconst 1) 1 := by decide +kernel
theorem d28_14 : dk C28 14 (.goto 4) 3 := by decide +kernel
theorem d28_18 : dk C28 18 .ireturn 1 := by decide +kernel
theorem own_pn25 : plainName "java/lang/AbstractStringBuilder" = true := by first | (simp [plainName, overriddenIn]; done) | decide +kernel
def Q_il0 (Z : State) (r0 : Addr) (h0 : Heap) (n0 : Nat) (v : Option Value) (h : Heap) (L : List Loc) : Prop := v = some (.int (1 : Int32)) ∧ Fr n0 L ∧ h = h0
theorem rm_il0 (l : Launch) (Z : State) (a0 : Array Value) (hw : Hw a0 Z) (r0 : Addr) (h0 : Heap) (n0 : Nat) (Z0 : n0 ≤ h0.size) (hst : own_St Z) (X00 : Old Z n0 h0) (F_cd : Fld Z h0 r0 "java/lang/AbstractStringBuilder" "coder" "B" (.int (0 : Int32))) : Mt l (⟨"java/lang/AbstractStringBuilder", "isLatin1", "()Z"⟩ : MethodName) C28 1 (some .boolean) ({ frames := 0, cells := 0, slots := 0, locals := 0 } : Room) #[(.ref r0)] Z h0 (Q_il0 Z r0 h0 n0) := by
  have w := own_w hw
  refine own_go (L0 := #[vr r0]) n0 (plainFor_of_name own_pn25) (fun m => rfl) fun p e s m below meth c s₁ E0 hx b hml hown hnm hret hlk hZ X0 e0 N0 pre0 => ?_
  obtain ⟨G1, v2, v3, P1, r_v2, r_v3, O1, O2, O3, O4, O5, O6⟩ := id hst
  obtain ⟨T1, X1, e1, st1⟩ := getS2 X0 hx hZ hown (host := "") (Or.inl (w 101 rfl)) Via.refl e0 (O1.ext X00.2) (g := (mkF m 0 #[vr r0] [])) rfl (b d28_0)
  obtain ⟨T2, X2, e2, st2⟩ := getF X1 hx hZ hown (host := "") (Or.inl (w 104 rfl)) Via.refl e1 F_cd (g := (mkF m 7 #[vr r0] [(.ref r0)])) rfl rfl (b d28_7)
  have pre3 : Pr p e below s₁ E0 T2 (mkF m 18 #[vr r0] [(.int (1 : Int32))]) := fun t k => pre0 t (by
    refine st1 _ ?_
    show Sp p e below T1 (mkF m 3 #[vr r0] [(.int G1)]) t
    refine XS.ifNo X1.here hx rfl (b d28_3) rfl ((if0 _ _).trans (feq (P1)).1) ?_
    refine XS.aloadN X1.here hx rfl (b d28_6) rfl rfl ?_
    refine st2 _ ?_
    show Sp p e below T2 (mkF m 10 #[vr r0] [(.int (0 : Int32))]) t
    refine XS.ifNo X2.here hx rfl (b d28_10) rfl ((if0 _ _).trans (teq (by decide : (0 : Int32) = (0 : Int32))).2) ?_
    refine XS.iconst X2.here hx rfl (b d28_13) ?_
    refine XS.goto X2.here hx rfl (pc0 := 14) (pc' := 18) rfl (b d28_14) (by decide) (by decide) ?_
    exact k)
  exact own_end X2 hlk (v := some (.int (1 : Int32))) (own_hv hret) pre3 (fun fs hr => retN X2 hx (t := .boolean) hret (by simp) (b d28_18) hr) (by rw [e2]; exact ⟨rfl, N0, rfl⟩)
theorem d28_17 : dk C28 17 (.iconst 0) 1 := by decide +kernel
def Q_il1 (Z : State) (r0 : Addr) (h0 : Heap) (n0 : Nat) (v : Option Value) (h : Heap) (L : List Loc) : Prop := v = some (.int (0 : Int32)) ∧ Fr n0 L ∧ h = h0
theorem rm_il1 (l : Launch) (Z : State) (a0 : Array Value) (hw : Hw a0 Z) (r0 : Addr) (h0 : Heap) (n0 : Nat) (Z0 : n0 ≤ h0.size) (hst : own_St Z) (X00 : Old Z n0 h0) (F_cd : Fld Z h0 r0 "java/lang/AbstractStringBuilder" "coder" "B" (.int (1 : Int32))) : Mt l (⟨"java/lang/AbstractStringBuilder", "isLatin1", "()Z"⟩ : MethodName) C28 1 (some .boolean) ({ frames := 0, cells := 0, slots := 0, locals := 0 } : Room) #[(.ref r0)] Z h0 (Q_il1 Z r0 h0 n0) := by
  have w := own_w hw
  refine own_go (L0 := #[vr r0]) n0 (plainFor_of_name own_pn25) (fun m => rfl) fun p e s m below meth c s₁ E0 hx b hml hown hnm hret hlk hZ X0 e0 N0 pre0 => ?_
  obtain ⟨G1, v2, v3, P1, r_v2, r_v3, O1, O2, O3, O4, O5, O6⟩ := id hst
  obtain ⟨T1, X1, e1, st1⟩ := getS2 X0 hx hZ hown (host := "") (Or.inl (w 101 rfl)) Via.refl e0 (O1.ext X00.2) (g := (mkF m 0 #[vr r0] [])) rfl (b d28_0)
  obtain ⟨T2, X2, e2, st2⟩ := getF X1 hx hZ hown (host := "") (Or.inl (w 104 rfl)) Via.refl e1 F_cd (g := (mkF m 7 #[vr r0] [(.ref r0)])) rfl rfl (b d28_7)
  have pre3 : Pr p e below s₁ E0 T2 (mkF m 18 #[vr r0] [(.int (0 : Int32))]) := fun t k => pre0 t (by
    refine st1 _ ?_
    show Sp p e below T1 (mkF m 3 #[vr r0] [(.int G1)]) t
    refine XS.ifNo X1.here hx rfl (b d28_3) rfl ((if0 _ _).trans (feq (P1)).1) ?_
    refine XS.aloadN X1.here hx rfl (b d28_6) rfl rfl ?_
    refine st2 _ ?_
    show Sp p e below T2 (mkF m 10 #[vr r0] [(.int (1 : Int32))]) t
    refine XS.ifYes X2.here hx rfl (pc0 := 10) (pc' := 17) rfl (b d28_10) rfl ((if0 _ _).trans (feq (by decide : ¬ ((1 : Int32) = (0 : Int32)))).2) (by decide) (by decide) ?_
    refine XS.iconst X2.here hx rfl (b d28_17) ?_
    exact k)
  exact own_end X2 hlk (v := some (.int (0 : Int32))) (own_hv hret) pre3 (fun fs hr => retN X2 hx (t := .boolean) hret (by simp) (b d28_18) hr) (by rw [e2]; exact ⟨rfl, N0, rfl⟩)
abbrev C41 := jdk_68_method_64_code
theorem d41_0 : dk C41 0 (.aload_n 0) 1 := by decide +kernel
theorem d41_1 : dk C41 1 (.getfield 15) 3 := by decide +kernel
theorem d41_4 : dk C41 4 .areturn 1 := by decide +kernel
def Q_bgv (Z : State) (r0 : Addr) (ta : Addr) (h0 : Heap) (n0 : Nat) (v : Option Value) (h : Heap) (L : List Loc) : Prop := v = some (.ref ta) ∧ Fr n0 L ∧ h = h0
theorem rm_bgv (l : Launch) (Z : State) (a0 : Array Value) (hw : Hw a0 Z) (r0 : Addr) (ta : Addr) (h0 : Heap) (n0 : Nat) (Z0 : n0 ≤ h0.size) (F_va : Fld Z h0 r0 "java/lang/AbstractStringBuilder" "value" "[B" (.ref ta)) : Mt l (⟨"java/lang/AbstractStringBuilder", "getValue", "()[B"⟩ : MethodName) C41 1 (some (.array .byte)) ({ frames := 0, cells := 0, slots := 0, locals := 0 } : Room) #[(.ref r0)] Z h0 (Q_bgv Z r0 ta h0 n0) := by
  have w := own_w hw
  refine own_go (L0 := #[vr r0]) n0 (plainFor_of_name own_pn25) (fun m => rfl) fun p e s m below meth c s₁ E0 hx b hml hown hnm hret hlk hZ X0 e0 N0 pre0 => ?_
  obtain ⟨T1, X1, e1, st1⟩ := getF X0 hx hZ hown (host := "") (Or.inl (w 102 rfl)) Via.refl e0 F_va (g := (mkF m 1 #[vr r0] [(.ref r0)])) rfl rfl (b d41_1)
  have pre2 : Pr p e below s₁ E0 T1 (mkF m 4 #[vr r0] [(.ref ta)]) := fun t k => pre0 t (by
    refine XS.aloadN X0.here hx rfl (b d41_0) rfl rfl ?_
    refine st1 _ ?_
    exact k)
  exact own_end X1 hlk (v := some (.ref ta)) (own_hv hret) pre2 (fun fs hr => own_ra X1 hx hret rfl (b d41_4) hr) (by rw [e1]; exact ⟨rfl, N0, rfl⟩)
abbrev C31 := jdk_68_method_6_code
theorem d31_0 : dk C31 0 (.aload_n 0) 1 := by decide +kernel
theorem d31_1 : dk C31 1 (.getfield 79) 3 := by decide +kernel
theorem d31_4 : dk C31 4 .ireturn 1 := by decide +kernel
def Q_bln (Z : State) (r0 : Addr) (kn : Nat) (h0 : Heap) (n0 : Nat) (v : Option Value) (h : Heap) (L : List Loc) : Prop := v = some (.int (Int32.ofNat kn)) ∧ Fr n0 L ∧ h = h0
theorem rm_bln (l : Launch) (Z : State) (a0 : Array Value) (hw : Hw a0 Z) (r0 : Addr) (kn : Nat) (h0 : Heap) (n0 : Nat) (Z0 : n0 ≤ h0.size) (F_ct : Fld Z h0 r0 "java/lang/AbstractStringBuilder" "count" "I" (.int (Int32.ofNat kn))) : Mt l (⟨"java/lang/AbstractStringBuilder", "length", "()I"⟩ : MethodName) C31 1 (some .int) ({ frames := 0, cells := 0, slots := 0, locals := 0 } : Room) #[(.ref r0)] Z h0 (Q_bln Z r0 kn h0 n0) := by
  have w := own_w hw
  refine own_go (L0 := #[vr r0]) n0 (plainFor_of_name own_pn25) (fun m => rfl) fun p e s m below meth c s₁ E0 hx b hml hown hnm hret hlk hZ X0 e0 N0 pre0 => ?_
  obtain ⟨T1, X1, e1, st1⟩ := getF X0 hx hZ hown (host := "") (Or.inl (w 128 rfl)) Via.refl e0 F_ct (g := (mkF m 1 #[vr r0] [(.ref r0)])) rfl rfl (b d31_1)
  have pre2 : Pr p e below s₁ E0 T1 (mkF m 4 #[vr r0] [(.int (Int32.ofNat kn))]) := fun t k => pre0 t (by
    refine XS.aloadN X0.here hx rfl (b d31_0) rfl rfl ?_
    refine st1 _ ?_
    exact k)
  exact own_end X1 hlk (v := some (.int (Int32.ofNat kn))) (own_hv hret) pre2 (fun fs hr => retI X1 hx hret (b d31_4) hr) (by rw [e1]; exact ⟨rfl, N0, rfl⟩)
abbrev C30 := jdk_67_method_93_code
theorem d30_0 : dk C30 0 (.aload_n 0) 1 := by decide +kernel
theorem d30_1 : dk C30 1 (.invokespecial 343) 3 := by decide +kernel
theorem own_pd26 : parseMethodDescriptor "()I" = some ⟨[], some .int⟩ := by decide +kernel
theorem d30_4 : dk C30 4 .ireturn 1 := by decide +kernel
theorem own_pn27 : plainName "java/lang/StringBuilder" = true := by first | (simp [plainName, overriddenIn]; done) | decide +kernel
def Q_sbl (Z : State) (r0 : Addr) (kn : Nat) (h0 : Heap) (n0 : Nat) (v : Option Value) (h : Heap) (L : List Loc) : Prop := v = some (.int (Int32.ofNat kn)) ∧ Fr n0 L ∧ h = h0
theorem rm_sbl (l : Launch) (Z : State) (a0 : Array Value) (hw : Hw a0 Z) (r0 : Addr) (kn : Nat) (h0 : Heap) (n0 : Nat) (Z0 : n0 ≤ h0.size) (E_r0 : Exa Z h0 r0 "java/lang/StringBuilder") (F_ct : Fld Z h0 r0 "java/lang/AbstractStringBuilder" "count" "I" (.int (Int32.ofNat kn))) : Mt l (⟨"java/lang/StringBuilder", "length", "()I"⟩ : MethodName) C30 1 (some .int) ({ frames := 1, cells := 0, slots := 0, locals := 12 } : Room) #[(.ref r0)] Z h0 (Q_sbl Z r0 kn h0 n0) := by
  have w := own_w hw
  refine own_go (L0 := #[vr r0]) n0 (plainFor_of_name own_pn27) (fun m => rfl) fun p e s m below meth c s₁ E0 hx b hml hown hnm hret hlk hZ X0 e0 N0 pre0 => ?_
  obtain ⟨_, T1, L1, X1, hQ1, st1⟩ := own_cU X0 hx hml hZ hown (rm_bln l Z a0 hw r0 kn h0 n0 Z0 F_ct) (w 161 rfl) (w 162 rfl) (w 98 rfl) (w 164 rfl) (own_same (y' := yIL) (by decide) (w 163 rfl) (w 144 rfl) (w 143 rfl) rfl) (w 113 rfl) (by decide) E_r0 e0 (g := (mkF m 1 #[vr r0] [(.ref r0)])) (argsL := []) (rest := []) (W := 0) (lenOf own_pd26 rfl) (b d30_1)
  obtain ⟨rfl, Nq1, e1⟩ := hQ1
  have N1 := Fr.app N0 Nq1
  have pre2 : Pr p e below s₁ E0 T1 (mkF m 4 #[vr r0] [(.int (Int32.ofNat kn))]) := fun t k => pre0 t (by
    refine XS.aloadN X0.here hx rfl (b d30_0) rfl rfl ?_
    refine st1 _ ?_
    exact k)
  exact own_end X1 hlk (v := some (.int (Int32.ofNat kn))) (own_hv hret) pre2 (fun fs hr => retI X1 hx hret (b d30_4) hr) (by rw [e1]; exact ⟨rfl, N1, rfl⟩)
abbrev C26 := jdk_68_method_9_code
theorem d26_0 : dk C26 0 (.aload_n 0) 1 := by decide +kernel
theorem d26_1 : dk C26 1 (.getfield 15) 3 := by decide +kernel
theorem d26_4 : dk C26 4 .arraylength 1 := by decide +kernel
theorem d26_5 : dk C26 5 (.aload_n 0) 1 := by decide +kernel
theorem d26_6 : dk C26 6 (.getfield 22) 3 := by decide +kernel
theorem d26_9 : dk C26 9 .ishr 1 := by decide +kernel
theorem d26_10 : dk C26 10 (.istore_n 2) 1 := by decide +kernel
theorem d26_11 : dk C26 11 (.iload_n 1) 1 := by decide +kernel
theorem d26_12 : dk C26 12 (.iload_n 2) 1 := by decide +kernel
theorem d26_13 : dk C26 13 .isub 1 := by decide +kernel
theorem d26_14 : dk C26 14 (.ifCond .le 24) 3 := by decide +kernel
theorem d26_38 : dk C26 38 .return_ 1 := by decide +kernel
def Q_eci0 (Z : State) (r0 : Addr) (kn : Nat) (ta : Addr) (cap : Nat) (f : Nat → Int32) (h0 : Heap) (n0 : Nat) (v : Option Value) (h : Heap) (L : List Loc) : Prop := v = none ∧ Fr n0 L ∧ h = h0
theorem rm_eci0 (l : Launch) (Z : State) (a0 : Array Value) (hw : Hw a0 Z) (r0 : Addr) (kn : Nat) (ta : Addr) (cap : Nat) (f : Nat → Int32) (h0 : Heap) (n0 : Nat) (Z0 : n0 ≤ h0.size) (F_cd : Fld Z h0 r0 "java/lang/AbstractStringBuilder" "coder" "B" (.int (0 : Int32))) (F_va : Fld Z h0 r0 "java/lang/AbstractStringBuilder" "value" "[B" (.ref ta)) (Y_ta : Ay Z h0 ta .byte cap f) (h1 : kn ≤ cap) (h2 : cap ≤ 50) : Mt l (⟨"java/lang/AbstractStringBuilder", "ensureCapacityInternal", "(I)V"⟩ : MethodName) C26 3 none ({ frames := 0, cells := 0, slots := 0, locals := 0 } : Room) #[(.ref r0), (.int (Int32.ofNat kn))] Z h0 (Q_eci0 Z r0 kn ta cap f h0 n0) := by
  have w := own_w hw
  refine own_go (L0 := #[vr r0, vi (Int32.ofNat kn), vu]) n0 (plainFor_of_name own_pn25) (fun m => rfl) fun p e s m below meth c s₁ E0 hx b hml hown hnm hret hlk hZ X0 e0 N0 pre0 => ?_
  obtain ⟨T1, X1, e1, st1⟩ := getF X0 hx hZ hown (host := "") (Or.inl (w 102 rfl)) Via.refl e0 F_va (g := (mkF m 1 #[vr r0, vi (Int32.ofNat kn), vu] [(.ref r0)])) rfl rfl (b d26_1)
  obtain ⟨qn2, cl2, Ar2, S2, H2⟩ := id Y_ta
  obtain ⟨T3, X3, e3, st3⟩ := getF X1 hx hZ hown (host := "") (Or.inl (w 104 rfl)) Via.refl e1 F_cd (g := (mkF m 6 #[vr r0, vi (Int32.ofNat kn), vu] [(.ref r0), (.int (Int32.ofNat cap))])) rfl rfl (b d26_6)
  have pre4 : Pr p e below s₁ E0 T3 (mkF m 38 #[vr r0, vi (Int32.ofNat kn), vi (Int32.ofNat cap)] []) := fun t k => pre0 t (by
    refine XS.aloadN X0.here hx rfl (b d26_0) rfl rfl ?_
    refine st1 _ ?_
    show Sp p e below T1 (mkF m 4 #[vr r0, vi (Int32.ofNat kn), vu] [(.ref ta)]) t
    refine X1.arraylength hx (by rw [e1]; exact Ar2.1) (State.isArrayOf_alike hZ.alike Ar2.2.1) (g := (mkF m 4 #[vr r0, vi (Int32.ofNat kn), vu] [(.ref ta)])) rfl rfl (b d26_4) _ ?_
    rw [own_len S2]
    show Sp p e below T1 (mkF m 5 #[vr r0, vi (Int32.ofNat kn), vu] [(.int (Int32.ofNat cap))]) t
    refine XS.aloadN X1.here hx rfl (b d26_5) rfl rfl ?_
    refine st3 _ ?_
    show Sp p e below T3 (mkF m 9 #[vr r0, vi (Int32.ofNat kn), vu] [(.int (0 : Int32)), (.int (Int32.ofNat cap))]) t
    refine XS.ishr X3.here hx rfl (b d26_9) rfl ?_
    show Sp p e below T3 (mkF m 10 #[vr r0, vi (Int32.ofNat kn), vu] [(.int ((Int32.ofNat cap) >>> ((0 : Int32) &&& 31)))]) t
    rw [own_shr0]
    show Sp p e below T3 (mkF m 10 #[vr r0, vi (Int32.ofNat kn), vu] [(.int (Int32.ofNat cap))]) t
    refine XS.istoreN X3.here hx rfl (b d26_10) rfl (l' := #[vr r0, vi (Int32.ofNat kn), vi (Int32.ofNat cap)]) rfl ?_
    refine XS.iloadN X3.here hx rfl (b d26_11) rfl ?_
    refine XS.iloadN X3.here hx rfl (b d26_12) rfl ?_
    refine XS.isub X3.here hx rfl (b d26_13) rfl ?_
    show Sp p e below T3 (mkF m 14 #[vr r0, vi (Int32.ofNat kn), vi (Int32.ofNat cap)] [(.int ((Int32.ofNat kn) - (Int32.ofNat cap)))]) t
    refine XS.ifYes X3.here hx rfl (pc0 := 14) (pc' := 38) rfl (b d26_14) rfl ((if0 _ _).trans (flt (own_nog h1 (by omega))).2.2.2) (by decide) (by decide) ?_
    exact k)
  exact own_end X3 hlk (v := none) (fun _ => rfl) pre4 (fun fs hr => X3.returnOut hx hret (b d26_38) hr) (by rw [e3]; exact ⟨rfl, N0, rfl⟩)
def Q_eci1 (Z : State) (r0 : Addr) (kn : Nat) (ta : Addr) (cap : Nat) (f : Nat → Int32) (h0 : Heap) (n0 : Nat) (v : Option Value) (h : Heap) (L : List Loc) : Prop := v = none ∧ Fr n0 L ∧ h = h0
theorem rm_eci1 (l : Launch) (Z : State) (a0 : Array Value) (hw : Hw a0 Z) (r0 : Addr) (kn : Nat) (ta : Addr) (cap : Nat) (f : Nat → Int32) (h0 : Heap) (n0 : Nat) (Z0 : n0 ≤ h0.size) (F_cd : Fld Z h0 r0 "java/lang/AbstractStringBuilder" "coder" "B" (.int (1 : Int32))) (F_va : Fld Z h0 r0 "java/lang/AbstractStringBuilder" "value" "[B" (.ref ta)) (Y_ta : Ay Z h0 ta .byte (2 * cap) f) (h1 : kn ≤ cap) (h2 : cap ≤ 50) : Mt l (⟨"java/lang/AbstractStringBuilder", "ensureCapacityInternal", "(I)V"⟩ : MethodName) C26 3 none ({ frames := 0, cells := 0, slots := 0, locals := 0 } : Room) #[(.ref r0), (.int (Int32.ofNat kn))] Z h0 (Q_eci1 Z r0 kn ta cap f h0 n0) := by
  have w := own_w hw
  refine own_go (L0 := #[vr r0, vi (Int32.ofNat kn), vu]) n0 (plainFor_of_name own_pn25) (fun m => rfl) fun p e s m below meth c s₁ E0 hx b hml hown hnm hret hlk hZ X0 e0 N0 pre0 => ?_
  obtain ⟨T1, X1, e1, st1⟩ := getF X0 hx hZ hown (host := "") (Or.inl (w 102 rfl)) Via.refl e0 F_va (g := (mkF m 1 #[vr r0, vi (Int32.ofNat kn), vu] [(.ref r0)])) rfl rfl (b d26_1)
  obtain ⟨qn2, cl2, Ar2, S2, H2⟩ := id Y_ta
  obtain ⟨T3, X3, e3, st3⟩ := getF X1 hx hZ hown (host := "") (Or.inl (w 104 rfl)) Via.refl e1 F_cd (g := (mkF m 6 #[vr r0, vi (Int32.ofNat kn), vu] [(.ref r0), (.int (Int32.ofNat (2 * cap)))])) rfl rfl (b d26_6)
  have pre4 : Pr p e below s₁ E0 T3 (mkF m 38 #[vr r0, vi (Int32.ofNat kn), vi (Int32.ofNat cap)] []) := fun t k => pre0 t (by
    refine XS.aloadN X0.here hx rfl (b d26_0) rfl rfl ?_
    refine st1 _ ?_
    show Sp p e below T1 (mkF m 4 #[vr r0, vi (Int32.ofNat kn), vu] [(.ref ta)]) t
    refine X1.arraylength hx (by rw [e1]; exact Ar2.1) (State.isArrayOf_alike hZ.alike Ar2.2.1) (g := (mkF m 4 #[vr r0, vi (Int32.ofNat kn), vu] [(.ref ta)])) rfl rfl (b d26_4) _ ?_
    rw [own_len S2]
    show Sp p e below T1 (mkF m 5 #[vr r0, vi (Int32.ofNat kn), vu] [(.int (Int32.ofNat (2 * cap)))]) t
    refine XS.aloadN X1.here hx rfl (b d26_5) rfl rfl ?_
    refine st3 _ ?_
    show Sp p e below T3 (mkF m 9 #[vr r0, vi (Int32.ofNat kn), vu] [(.int (1 : Int32)), (.int (Int32.ofNat (2 * cap)))]) t
    refine XS.ishr X3.here hx rfl (b d26_9) rfl ?_
    show Sp p e below T3 (mkF m 10 #[vr r0, vi (Int32.ofNat kn), vu] [(.int ((Int32.ofNat (2 * cap)) >>> ((1 : Int32) &&& 31)))]) t
    rw [own_shr (a := cap) (by omega)]
    show Sp p e below T3 (mkF m 10 #[vr r0, vi (Int32.ofNat kn), vu] [(.int (Int32.ofNat cap))]) t
    refine XS.istoreN X3.here hx rfl (b d26_10) rfl (l' := #[vr r0, vi (Int32.ofNat kn), vi (Int32.ofNat cap)]) rfl ?_
    refine XS.iloadN X3.here hx rfl (b d26_11) rfl ?_
    refine XS.iloadN X3.here hx rfl (b d26_12) rfl ?_
    refine XS.isub X3.here hx rfl (b d26_13) rfl ?_
    show Sp p e below T3 (mkF m 14 #[vr r0, vi (Int32.ofNat kn), vi (Int32.ofNat cap)] [(.int ((Int32.ofNat kn) - (Int32.ofNat cap)))]) t
    refine XS.ifYes X3.here hx rfl (pc0 := 14) (pc' := 38) rfl (b d26_14) rfl ((if0 _ _).trans (flt (own_nog h1 (by omega))).2.2.2) (by decide) (by decide) ?_
    exact k)
  exact own_end X3 hlk (v := none) (fun _ => rfl) pre4 (fun fs hr => X3.returnOut hx hret (b d26_38) hr) (by rw [e3]; exact ⟨rfl, N0, rfl⟩)
abbrev C51 := jdk_68_method_11_code
theorem d51_0 : dk C51 0 (.aload_n 0) 1 := by decide +kernel
theorem d51_1 : dk C51 1 (.invokevirtual 83) 3 := by decide +kernel
theorem d51_4 : dk C51 4 (.ifCond .ne 4) 3 := by decide +kernel
theorem d51_8 : dk C51 8 (.aload_n 0) 1 := by decide +kernel
theorem d51_9 : dk C51 9 (.getfield 15) 3 := by decide +kernel
theorem d51_12 : dk C51 12 .arraylength 1 := by decide +kernel
theorem d51_13 : dk C51 13 (.invokestatic 26) 3 := by decide +kernel
theorem d51_16 : dk C51 16 (.astore_n 1) 1 := by decide +kernel
theorem d51_17 : dk C51 17 (.aload_n 0) 1 := by decide +kernel
theorem d51_18 : dk C51 18 (.getfield 15) 3 := by decide +kernel
theorem d51_21 : dk C51 21 (.iconst 0) 1 := by decide +kernel
theorem d51_22 : dk C51 22 (.aload_n 1) 1 := by decide +kernel
theorem d51_23 : dk C51 23 (.iconst 0) 1 := by decide +kernel
theorem d51_24 : dk C51 24 (.aload_n 0) 1 := by decide +kernel
theorem d51_25 : dk C51 25 (.getfield 79) 3 := by decide +kernel
theorem d51_28 : dk C51 28 (.invokestatic 125) 3 := by decide +kernel
theorem d51_31 : dk C51 31 (.aload_n 0) 1 := by decide +kernel
theorem d51_32 : dk C51 32 (.aload_n 1) 1 := by decide +kernel
theorem d51_33 : dk C51 33 (.putfield 15) 3 := by decide +kernel
theorem d51_36 : dk C51 36 (.aload_n 0) 1 := by decide +kernel
theorem d51_37 : dk C51 37 (.iconst 1) 1 := by decide +kernel
theorem d51_38 : dk C51 38 (.putfield 22) 3 := by decide +kernel
theorem d51_41 : dk C51 41 .return_ 1 := by decide +kernel
def Q_inf (Z : State) (r0 : Addr) (ta : Addr) (kn : Nat) (ml : Int32) (N : Nat) (f : Nat → Int32) (h0 : Heap) (n0 : Nat) (v : Option Value) (h : Heap) (L : List Loc) : Prop := v = none ∧ Fr n0 L ∧ Keep h0 h [r0] ∧ ∃ tn g, h0.size ≤ tn ∧ Exa Z h r0 "java/lang/StringBuilder" ∧ Fld Z h r0 "java/lang/AbstractStringBuilder" "coder" "B" (.int (1 : Int32)) ∧ Fld Z h r0 "java/lang/AbstractStringBuilder" "value" "[B" (.ref tn) ∧ Fld Z h r0 "java/lang/AbstractStringBuilder" "count" "I" (.int (Int32.ofNat kn)) ∧ Fld Z h r0 "java/lang/AbstractStringBuilder" "maybeLatin1" "Z" (.int ml) ∧ Ay Z h tn .byte (2 * N) g ∧ Exa Z h tn "[B" ∧ ∀ j, j < kn → g (2 * j) = own_lo ((f j) &&& (255 : Int32)) ∧ g (2 * j + 1) = own_hi ((f j) &&& (255 : Int32))
theorem rm_inf (l : Launch) (Z : State) (a0 : Array Value) (hw : Hw a0 Z) (r0 : Addr) (ta : Addr) (kn : Nat) (ml : Int32) (N : Nat) (f : Nat → Int32) (h0 : Heap) (n0 : Nat) (Z0 : n0 ≤ h0.size) (hst : own_St Z) (X00 : Old Z n0 h0) (E_r0 : Exa Z h0 r0 "java/lang/StringBuilder") (F_cd : Fld Z h0 r0 "java/lang/AbstractStringBuilder" "coder" "B" (.int (0 : Int32))) (F_va : Fld Z h0 r0 "java/lang/AbstractStringBuilder" "value" "[B" (.ref ta)) (F_ct : Fld Z h0 r0 "java/lang/AbstractStringBuilder" "count" "I" (.int (Int32.ofNat kn))) (F_ml : Fld Z h0 r0 "java/lang/AbstractStringBuilder" "maybeLatin1" "Z" (.int ml)) (Y_ta : Ay Z h0 ta .byte N f) (E_ta : Exa Z h0 ta "[B") (g_r0 : n0 ≤ r0) (g_ta : n0 ≤ ta) (hk : kn ≤ N) (hN : N ≤ 5) : Mt l (⟨"java/lang/AbstractStringBuilder", "inflate", "()V"⟩ : MethodName) C51 2 none ({ frames := 5, cells := 1, slots := 10, locals := 76 } : Room) #[(.ref r0)] Z h0 (Q_inf Z r0 ta kn ml N f h0 n0) := by
  have w := own_w hw
  refine own_go (L0 := #[vr r0, vu]) n0 (plainFor_of_name own_pn25) (fun m => rfl) fun p e s m below meth c s₁ E0 hx b hml hown hnm hret hlk hZ X0 e0 N0 pre0 => ?_
  have K0 : Keep h0 h0 [r0] := Keep.refl h0 _
  obtain ⟨_, T1, L1, X1, hQ1, st1⟩ := own_cV X0 hx hml hZ hown (rm_il0 l Z a0 hw r0 h0 n0 Z0 hst X00 F_cd) (w 141 rfl) (w 143 rfl) (w 98 rfl) (w 145 rfl) (w 142 rfl) (w 144 rfl) (own_nfS hZ (w 144 rfl)) E_r0 e0 (g := (mkF m 1 #[vr r0, vu] [(.ref r0)])) (argsL := []) (rest := []) (W := 0) (lenOf own_pd17 rfl) (b d51_1)
  obtain ⟨rfl, Nq1, e1⟩ := hQ1
  have N1 := Fr.app N0 Nq1
  obtain ⟨T2, X2, e2, st2⟩ := getF X1 hx hZ hown (host := "") (Or.inl (w 102 rfl)) Via.refl e1 F_va (g := (mkF m 9 #[vr r0, vu] [(.ref r0)])) rfl rfl (b d51_9)
  obtain ⟨qn3, cl3, Ar3, S3, H3⟩ := id Y_ta
  obtain ⟨_, T4, L4, X4, hQ4, st4⟩ := own_cS X2 hx hml hZ hown (rm_nbf l Z a0 hw N h0 n0 Z0 (by omega)) (w 262 rfl) (w 231 rfl) (w 25 rfl) (w 232 rfl) e2 (g := (mkF m 13 #[vr r0, vu] [(.int (Int32.ofNat N))])) (argsL := [(.int (Int32.ofNat N))]) (rest := []) (W := 0) (lenOf own_pd5 rfl) (b d51_13)
  obtain ⟨b4, rfl, Nq4, szq4, Kq4, Yq4, Exq4⟩ := hQ4
  have N4 := Fr.app N1 Nq4
  have f5_1 := E_r0.keep Kq4
  have f5_2 := F_cd.keep Kq4 nin0
  have f5_3 := F_va.keep Kq4 nin0
  have f5_4 := F_ct.keep Kq4 nin0
  have f5_5 := F_ml.keep Kq4 nin0
  have f5_6 := Y_ta.keep Kq4 nin0
  have f5_7 := E_ta.keep Kq4
  have od5 := X00.keep Kq4 all0
  have Z4 : n0 ≤ T4.heap.size := Nat.le_trans Z0 Kq4.1
  have K4 := K0.trans Kq4 all0
  have ne_r0_b4 : r0 ≠ b4 := Nat.ne_of_lt (Nat.lt_of_lt_of_le E_r0.lt szq4)
  have ne_ta_b4 : ta ≠ b4 := Nat.ne_of_lt (Nat.lt_of_lt_of_le Y_ta.lt szq4)
  have sz_b4 : h0.size ≤ b4 := Nat.le_trans K0.1 szq4
  have g_b4 : n0 ≤ b4 := Nat.le_trans Z0 szq4
  obtain ⟨T7, X7, e7, st7⟩ := getF X4 hx hZ hown (host := "") (Or.inl (w 102 rfl)) Via.refl rfl f5_3 (g := (mkF m 18 #[vr r0, vr b4] [(.ref r0)])) rfl rfl (b d51_18)
  obtain ⟨T8, X8, e8, st8⟩ := getF X7 hx hZ hown (host := "") (Or.inl (w 128 rfl)) Via.refl e7 f5_4 (g := (mkF m 25 #[vr r0, vr b4] [(.ref r0), (.int (0 : Int32)), (.ref b4), (.int (0 : Int32)), (.ref ta)])) rfl rfl (b d51_25)
  obtain ⟨_, T9, L9, X9, hQ9, st9⟩ := own_cS X8 hx hml hZ hown (rm_lin l Z a0 hw ta b4 kn N N f (fun _ => 0) T4.heap n0 Z4 hst od5 f5_6 Yq4 g_b4 ne_ta_b4 (by omega) (by omega) (by omega)) (w 263 rfl) (w 264 rfl) (w 64 rfl) (w 265 rfl) e8 (g := (mkF m 28 #[vr r0, vr b4] [(.int (Int32.ofNat kn)), (.int (0 : Int32)), (.ref b4), (.int (0 : Int32)), (.ref ta)])) (argsL := [(.ref ta), (.int (0 : Int32)), (.ref b4), (.int (0 : Int32)), (.int (Int32.ofNat kn))]) (rest := []) (W := 0) (lenOf own_pd24 rfl) (b d51_28)
  obtain ⟨g9, rfl, Nq9, Kq9, Yq9, hq9⟩ := hQ9
  have N9 := Fr.app N4 Nq9
  have f10_1 := f5_1.keep Kq9
  have f10_2 := f5_2.keep Kq9 (ninS ne_r0_b4 nin0)
  have f10_3 := f5_3.keep Kq9 (ninS ne_r0_b4 nin0)
  have f10_4 := f5_4.keep Kq9 (ninS ne_r0_b4 nin0)
  have f10_5 := f5_5.keep Kq9 (ninS ne_r0_b4 nin0)
  have f10_6 := f5_6.keep Kq9 (ninS ne_ta_b4 nin0)
  have f10_7 := f5_7.keep Kq9
  have od10 := od5.keep Kq9 (allS g_b4 all0)
  have f10_9 := Exq4.keep Kq9
  have Z9 : n0 ≤ T9.heap.size := Nat.le_trans Z4 Kq9.1
  have K9 := K4.trans Kq9 (allS (Or.inr sz_b4) all0)
  obtain ⟨T12, h12, X12, e12, W12, st12⟩ := putF X9 hx hZ hown (host := "") (Or.inl (w 102 rfl)) Via.refl rfl f10_3 f10_1 (Or.inl (w 103 rfl)) (w 89 rfl) (ty := (.array .byte)) (by decide) rfl rfl (g := (mkF m 33 #[vr r0, vr b4] [(.ref b4), (.ref r0)])) rfl rfl (b d51_33)
  have Fw12 := f10_3.same W12
  have f13_1 := f10_1.wr W12
  have f13_2 := f10_2.other W12 (Or.inr (slot_ne (Or.inl (w 105 rfl)) (Or.inl (w 103 rfl)) (by decide) (t := .byte) (t' := (.array .byte)) (by decide) (by decide)))
  have f13_4 := f10_4.other W12 (Or.inr (slot_ne (Or.inl (w 129 rfl)) (Or.inl (w 103 rfl)) (by decide) (t := .int) (t' := (.array .byte)) (by decide) (by decide)))
  have f13_5 := f10_5.other W12 (Or.inr (slot_ne (Or.inl (w 283 rfl)) (Or.inl (w 103 rfl)) (by decide) (t := .boolean) (t' := (.array .byte)) (by decide) (by decide)))
  have f13_6 := f10_6.other W12 (Ne.symm (own_neY f10_1 (w 89 rfl) f10_6))
  have f13_7 := f10_7.wr W12
  have od13 := od10.wr W12 g_r0
  have f13_8 := f10_9.wr W12
  have f13_9 := Yq9.other W12 (Ne.symm ne_r0_b4)
  have N12 := Fr.snoc X12 N9 g_r0
  have Z12 : n0 ≤ h12.size := Nat.le_trans Z9 (Keep.of_wr W12).1
  have K12 := K9.wr W12 (Or.inl (by simp))
  obtain ⟨T15, h15, X15, e15, W15, st15⟩ := putFN X12 hx hZ hown (w 104 rfl) Via.refl e12 f13_2 f13_1 (Or.inl (w 105 rfl)) (w 89 rfl) (ty := .byte) (v' := (.int (1 : Int32))) (by decide) rfl rfl (g := (mkF m 38 #[vr r0, vr b4] [(.int (1 : Int32)), (.ref r0)])) rfl rfl (b d51_38)
  have Fw15 := f13_2.same W15
  have f16_1 := f13_1.wr W15
  have f16_3 := Fw12.other W15 (Or.inr (slot_ne (Or.inl (w 103 rfl)) (Or.inl (w 105 rfl)) (by decide) (t := (.array .byte)) (t' := .byte) (by decide) (by decide)))
  have f16_4 := f13_4.other W15 (Or.inr (slot_ne (Or.inl (w 129 rfl)) (Or.inl (w 105 rfl)) (by decide) (t := .int) (t' := .byte) (by decide) (by decide)))
  have f16_5 := f13_5.other W15 (Or.inr (slot_ne (Or.inl (w 283 rfl)) (Or.inl (w 105 rfl)) (by decide) (t := .boolean) (t' := .byte) (by decide) (by decide)))
  have f16_6 := f13_6.other W15 (Ne.symm (own_neY f13_1 (w 89 rfl) f13_6))
  have f16_7 := f13_7.wr W15
  have od16 := od13.wr W15 g_r0
  have f16_8 := f13_8.wr W15
  have f16_9 := f13_9.other W15 (Ne.symm ne_r0_b4)
  have N15 := Fr.snoc X15 N12 g_r0
  have Z15 : n0 ≤ h15.size := Nat.le_trans Z12 (Keep.of_wr W15).1
  have K15 := K12.wr W15 (Or.inl (by simp))
  have pre18 : Pr p e below s₁ E0 T15 (mkF m 41 #[vr r0, vr b4] []) := fun t k => pre0 t (by
    refine XS.aloadN X0.here hx rfl (b d51_0) rfl rfl ?_
    refine st1 _ ?_
    show Sp p e below T1 (mkF m 4 #[vr r0, vu] [(.int (1 : Int32))]) t
    refine XS.ifYes X1.here hx rfl (pc0 := 4) (pc' := 8) rfl (b d51_4) rfl ((if0 _ _).trans (feq (by decide : ¬ ((1 : Int32) = (0 : Int32)))).2) (by decide) (by decide) ?_
    refine XS.aloadN X1.here hx rfl (b d51_8) rfl rfl ?_
    refine st2 _ ?_
    show Sp p e below T2 (mkF m 12 #[vr r0, vu] [(.ref ta)]) t
    refine X2.arraylength hx (by rw [e2]; exact Ar3.1) (State.isArrayOf_alike hZ.alike Ar3.2.1) (g := (mkF m 12 #[vr r0, vu] [(.ref ta)])) rfl rfl (b d51_12) _ ?_
    rw [own_len S3]
    show Sp p e below T2 (mkF m 13 #[vr r0, vu] [(.int (Int32.ofNat N))]) t
    refine st4 _ ?_
    show Sp p e below T4 (mkF m 16 #[vr r0, vu] [(.ref b4)]) t
    refine XS.astoreN X4.here hx rfl (b d51_16) rfl rfl (l' := #[vr r0, vr b4]) rfl ?_
    refine XS.aloadN X4.here hx rfl (b d51_17) rfl rfl ?_
    refine st7 _ ?_
    show Sp p e below T7 (mkF m 21 #[vr r0, vr b4] [(.ref ta)]) t
    refine XS.iconst X7.here hx rfl (b d51_21) ?_
    refine XS.aloadN X7.here hx rfl (b d51_22) rfl rfl ?_
    refine XS.iconst X7.here hx rfl (b d51_23) ?_
    refine XS.aloadN X7.here hx rfl (b d51_24) rfl rfl ?_
    refine st8 _ ?_
    show Sp p e below T8 (mkF m 28 #[vr r0, vr b4] [(.int (Int32.ofNat kn)), (.int (0 : Int32)), (.ref b4), (.int (0 : Int32)), (.ref ta)]) t
    refine st9 _ ?_
    show Sp p e below T9 (mkF m 31 #[vr r0, vr b4] []) t
    refine XS.aloadN X9.here hx rfl (b d51_31) rfl rfl ?_
    refine XS.aloadN X9.here hx rfl (b d51_32) rfl rfl ?_
    refine st12 _ ?_
    show Sp p e below T12 (mkF m 36 #[vr r0, vr b4] []) t
    refine XS.aloadN X12.here hx rfl (b d51_36) rfl rfl ?_
    refine XS.iconst X12.here hx rfl (b d51_37) ?_
    refine st15 _ ?_
    exact k)
  exact own_end X15 hlk (v := none) (fun _ => rfl) pre18 (fun fs hr => X15.returnOut hx hret (b d51_41) hr) (by rw [e15]; exact ⟨rfl, N15, K15, b4, _, sz_b4, f16_1, Fw15, f16_3, f16_4, f16_5, f16_9, f16_8, hq9⟩)
abbrev C22 := jdk_68_method_2_code
theorem d22_0 : dk C22 0 (.aload_n 0) 1 := by decide +kernel
theorem d22_1 : dk C22 1 (.invokespecial 3) 3 := by decide +kernel
theorem d22_4 : dk C22 4 (.getstatic 18) 3 := by decide +kernel
theorem d22_7 : dk C22 7 (.ifCond .eq 18) 3 := by decide +kernel
theorem d22_10 : dk C22 10 (.aload_n 0) 1 := by decide +kernel
theorem d22_11 : dk C22 11 (.iload_n 1) 1 := by decide +kernel
theorem d22_12 : dk C22 12 (.newarray .byte) 2 := by decide +kernel
theorem d22_14 : dk C22 14 (.putfield 15) 3 := by decide +kernel
theorem d22_17 : dk C22 17 (.aload_n 0) 1 := by decide +kernel
theorem d22_18 : dk C22 18 (.iconst 0) 1 := by decide +kernel
theorem d22_19 : dk C22 19 (.putfield 22) 3 := by decide +kernel
theorem d22_22 : dk C22 22 (.goto 16) 3 := by decide +kernel
theorem d22_38 : dk C22 38 .return_ 1 := by decide +kernel
def Q_abi (Z : State) (r0 : Addr) (cap : Nat) (h0 : Heap) (n0 : Nat) (v : Option Value) (h : Heap) (L : List Loc) : Prop := v = none ∧ Fr n0 L ∧ Keep h0 h [r0] ∧ ∃ tn, h0.size ≤ tn ∧ Exa Z h r0 "java/lang/StringBuilder" ∧ Fld Z h r0 "java/lang/AbstractStringBuilder" "coder" "B" (.int (0 : Int32)) ∧ Fld Z h r0 "java/lang/AbstractStringBuilder" "value" "[B" (.ref tn) ∧ Fld Z h r0 "java/lang/AbstractStringBuilder" "count" "I" (.int (0 : Int32)) ∧ Fld Z h r0 "java/lang/AbstractStringBuilder" "maybeLatin1" "Z" (.int (0 : Int32)) ∧ Ay Z h tn .byte cap (fun _ => 0) ∧ Exa Z h tn "[B"
theorem rm_abi (l : Launch) (Z : State) (a0 : Array Value) (hw : Hw a0 Z) (r0 : Addr) (cap : Nat) (h0 : Heap) (n0 : Nat) (Z0 : n0 ≤ h0.size) (hst : own_St Z) (X00 : Old Z n0 h0) (E_r0 : Exa Z h0 r0 "java/lang/StringBuilder") (g_r0 : n0 ≤ r0) (F_va : Fld Z h0 r0 "java/lang/AbstractStringBuilder" "value" "[B" .null) (F_cd : Fld Z h0 r0 "java/lang/AbstractStringBuilder" "coder" "B" (.int (0 : Int32))) (F_ct : Fld Z h0 r0 "java/lang/AbstractStringBuilder" "count" "I" (.int (0 : Int32))) (F_ml : Fld Z h0 r0 "java/lang/AbstractStringBuilder" "maybeLatin1" "Z" (.int (0 : Int32))) (h5 : cap ≤ 5) : Mt l (⟨"java/lang/AbstractStringBuilder", "<init>", "(I)V"⟩ : MethodName) C22 2 none ({ frames := 1, cells := 1, slots := 5, locals := 12 } : Room) #[(.ref r0), (.int (Int32.ofNat cap))] Z h0 (Q_abi Z r0 cap h0 n0) := by
  have w := own_w hw
  refine own_go (L0 := #[vr r0, vi (Int32.ofNat cap)]) n0 (plainFor_of_name own_pn25) (fun m => rfl) fun p e s m below meth c s₁ E0 hx b hml hown hnm hret hlk hZ X0 e0 N0 pre0 => ?_
  have K0 : Keep h0 h0 [r0] := Keep.refl h0 _
  obtain ⟨G1, v2, v3, P1, r_v2, r_v3, O1, O2, O3, O4, O5, O6⟩ := id hst
  obtain ⟨T1, X1, e1, st1⟩ := initO X0 hx hZ hown (w 100 rfl) (w 20 rfl) (w 21 rfl) e0 (g := (mkF m 1 #[vr r0, vi (Int32.ofNat cap)] [(.ref r0)])) rfl (by rw [hml]; rfl) rfl (b d22_1) (by decide) (W := 0) (by show 2 * 0 + _ ≤ _; exact Nat.le_of_eq rfl) (by decide)
  obtain ⟨T2, X2, e2, st2⟩ := getS2 X1 hx hZ hown (host := "") (Or.inl (w 101 rfl)) Via.refl e1 (O1.ext X00.2) (g := (mkF m 4 #[vr r0, vi (Int32.ofNat cap)] [])) rfl (b d22_4)
  obtain ⟨T3, h3, k3, X3, e3, E3, A3, Ex3, st3⟩ := newPE X2 hx hZ (w 27 rfl) e2 (g := (mkF m 12 #[vr r0, vi (Int32.ofNat cap)] [(.int (Int32.ofNat cap)), (.ref r0)])) rfl (b d22_12) (n := (Int32.ofNat cap)) rfl (own_nn (by omega)) (cap := 5) (by rw [own_nc (by omega)]; omega) (by decide) (by decide) (by decide) (ad := "[B") (by decide)
  obtain ⟨b3, g3⟩ : ∃ z, z = h0.size := ⟨_, rfl⟩
  rw [← g3] at A3 Ex3 st3
  have ne_r0_b3 : r0 ≠ b3 := Nat.ne_of_lt (Nat.lt_of_lt_of_le E_r0.lt (Nat.le_of_eq g3.symm))
  have g_b3 : n0 ≤ b3 := Nat.le_trans Z0 (Nat.le_of_eq g3.symm)
  have sz_b3 : h0.size ≤ b3 := Nat.le_trans K0.1 (Nat.le_of_eq g3.symm)
  have f4_1 := E_r0.ext E3
  have f4_2 := F_va.ext E3
  have f4_3 := F_cd.ext E3
  have f4_4 := F_ct.ext E3
  have f4_5 := F_ml.ext E3
  have od4 := X00.ext E3
  have Z3 : n0 ≤ h3.size := Nat.le_trans Z0 E3.1
  have K3 := K0.ext E3
  have Y3 : Ay Z h3 b3 .byte cap (fun _ => 0) := Ay.new (by omega) A3 rfl
  obtain ⟨T6, h6, X6, e6, W6, st6⟩ := putF X3 hx hZ hown (host := "") (Or.inl (w 102 rfl)) Via.refl e3 f4_2 f4_1 (Or.inl (w 103 rfl)) (w 89 rfl) (ty := (.array .byte)) (by decide) rfl rfl (g := (mkF m 14 #[vr r0, vi (Int32.ofNat cap)] [(.ref b3), (.ref r0)])) rfl rfl (b d22_14)
  have Fw6 := f4_2.same W6
  have f7_1 := f4_1.wr W6
  have f7_3 := f4_3.other W6 (Or.inr (slot_ne (Or.inl (w 105 rfl)) (Or.inl (w 103 rfl)) (by decide) (t := .byte) (t' := (.array .byte)) (by decide) (by decide)))
  have f7_4 := f4_4.other W6 (Or.inr (slot_ne (Or.inl (w 129 rfl)) (Or.inl (w 103 rfl)) (by decide) (t := .int) (t' := (.array .byte)) (by decide) (by decide)))
  have f7_5 := f4_5.other W6 (Or.inr (slot_ne (Or.inl (w 283 rfl)) (Or.inl (w 103 rfl)) (by decide) (t := .boolean) (t' := (.array .byte)) (by decide) (by decide)))
  have od7 := od4.wr W6 g_r0
  have f7_6 := Y3.other W6 (Ne.symm ne_r0_b3)
  have f7_7 := Ex3.wr W6
  have N6 := Fr.snoc X6 N0 g_r0
  have Z6 : n0 ≤ h6.size := Nat.le_trans Z3 (Keep.of_wr W6).1
  have K6 := K3.wr W6 (Or.inl (by simp))
  obtain ⟨T9, h9, X9, e9, W9, st9⟩ := putFN X6 hx hZ hown (w 104 rfl) Via.refl e6 f7_3 f7_1 (Or.inl (w 105 rfl)) (w 89 rfl) (ty := .byte) (v' := (.int (0 : Int32))) (by decide) rfl rfl (g := (mkF m 19 #[vr r0, vi (Int32.ofNat cap)] [(.int (0 : Int32)), (.ref r0)])) rfl rfl (b d22_19)
  have Fw9 := f7_3.same W9
  have f10_1 := f7_1.wr W9
  have f10_2 := Fw6.other W9 (Or.inr (slot_ne (Or.inl (w 103 rfl)) (Or.inl (w 105 rfl)) (by decide) (t := (.array .byte)) (t' := .byte) (by decide) (by decide)))
  have f10_4 := f7_4.other W9 (Or.inr (slot_ne (Or.inl (w 129 rfl)) (Or.inl (w 105 rfl)) (by decide) (t := .int) (t' := .byte) (by decide) (by decide)))
  have f10_5 := f7_5.other W9 (Or.inr (slot_ne (Or.inl (w 283 rfl)) (Or.inl (w 105 rfl)) (by decide) (t := .boolean) (t' := .byte) (by decide) (by decide)))
  have od10 := od7.wr W9 g_r0
  have f10_6 := f7_6.other W9 (Ne.symm ne_r0_b3)
  have f10_7 := f7_7.wr W9
  have N9 := Fr.snoc X9 N6 g_r0
  have Z9 : n0 ≤ h9.size := Nat.le_trans Z6 (Keep.of_wr W9).1
  have K9 := K6.wr W9 (Or.inl (by simp))
  have pre12 : Pr p e below s₁ E0 T9 (mkF m 38 #[vr r0, vi (Int32.ofNat cap)] []) := fun t k => pre0 t (by
    refine XS.aloadN X0.here hx rfl (b d22_0) rfl rfl ?_
    refine st1 _ ?_
    show Sp p e below T1 (mkF m 4 #[vr r0, vi (Int32.ofNat cap)] []) t
    refine st2 _ ?_
    show Sp p e below T2 (mkF m 7 #[vr r0, vi (Int32.ofNat cap)] [(.int G1)]) t
    refine XS.ifNo X2.here hx rfl (b d22_7) rfl ((if0 _ _).trans (feq (P1)).1) ?_
    refine XS.aloadN X2.here hx rfl (b d22_10) rfl rfl ?_
    refine XS.iloadN X2.here hx rfl (b d22_11) rfl ?_
    refine st3 _ ?_
    show Sp p e below T3 (mkF m 14 #[vr r0, vi (Int32.ofNat cap)] [(.ref b3), (.ref r0)]) t
    refine st6 _ ?_
    show Sp p e below T6 (mkF m 17 #[vr r0, vi (Int32.ofNat cap)] []) t
    refine XS.aloadN X6.here hx rfl (b d22_17) rfl rfl ?_
    refine XS.iconst X6.here hx rfl (b d22_18) ?_
    refine st9 _ ?_
    show Sp p e below T9 (mkF m 22 #[vr r0, vi (Int32.ofNat cap)] []) t
    refine XS.goto X9.here hx rfl (pc0 := 22) (pc' := 38) rfl (b d22_22) (by decide) (by decide) ?_
    exact k)
  exact own_end X9 hlk (v := none) (fun _ => rfl) pre12 (fun fs hr => X9.returnOut hx hret (b d22_38) hr) (by rw [e9]; exact ⟨rfl, N9, K9, b3, sz_b3, f10_1, Fw9, f10_2, f10_4, f10_5, f10_6, f10_7⟩)
abbrev C21 := jdk_67_method_2_code
theorem d21_0 : dk C21 0 (.aload_n 0) 1 := by decide +kernel
theorem d21_1 : dk C21 1 (.iload_n 1) 1 := by decide +kernel
theorem d21_2 : dk C21 2 (.invokespecial 1) 3 := by decide +kernel
theorem own_pd28 : parseMethodDescriptor "(I)V" = some ⟨[.int], none⟩ := by decide +kernel
theorem d21_5 : dk C21 5 .return_ 1 := by decide +kernel
def Q_sbi (Z : State) (r0 : Addr) (cap : Nat) (h0 : Heap) (n0 : Nat) (v : Option Value) (h : Heap) (L : List Loc) : Prop := v = none ∧ Fr n0 L ∧ Keep h0 h [r0] ∧ ∃ tn, h0.size ≤ tn ∧ Exa Z h r0 "java/lang/StringBuilder" ∧ Fld Z h r0 "java/lang/AbstractStringBuilder" "coder" "B" (.int (0 : Int32)) ∧ Fld Z h r0 "java/lang/AbstractStringBuilder" "value" "[B" (.ref tn) ∧ Fld Z h r0 "java/lang/AbstractStringBuilder" "count" "I" (.int (0 : Int32)) ∧ Fld Z h r0 "java/lang/AbstractStringBuilder" "maybeLatin1" "Z" (.int (0 : Int32)) ∧ Ay Z h tn .byte cap (fun _ => 0) ∧ Exa Z h tn "[B"
theorem rm_sbi (l : Launch) (Z : State) (a0 : Array Value) (hw : Hw a0 Z) (r0 : Addr) (cap : Nat) (h0 : Heap) (n0 : Nat) (Z0 : n0 ≤ h0.size) (hst : own_St Z) (X00 : Old Z n0 h0) (E_r0 : Exa Z h0 r0 "java/lang/StringBuilder") (g_r0 : n0 ≤ r0) (F_va : Fld Z h0 r0 "java/lang/AbstractStringBuilder" "value" "[B" .null) (F_cd : Fld Z h0 r0 "java/lang/AbstractStringBuilder" "coder" "B" (.int (0 : Int32))) (F_ct : Fld Z h0 r0 "java/lang/AbstractStringBuilder" "count" "I" (.int (0 : Int32))) (F_ml : Fld Z h0 r0 "java/lang/AbstractStringBuilder" "maybeLatin1" "Z" (.int (0 : Int32))) (h5 : cap ≤ 5) : Mt l (⟨"java/lang/StringBuilder", "<init>", "(I)V"⟩ : MethodName) C21 2 none ({ frames := 2, cells := 1, slots := 5, locals := 25 } : Room) #[(.ref r0), (.int (Int32.ofNat cap))] Z h0 (Q_sbi Z r0 cap h0 n0) := by
  have w := own_w hw
  refine own_go (L0 := #[vr r0, vi (Int32.ofNat cap)]) n0 (plainFor_of_name own_pn27) (fun m => rfl) fun p e s m below meth c s₁ E0 hx b hml hown hnm hret hlk hZ X0 e0 N0 pre0 => ?_
  have K0 : Keep h0 h0 [r0] := Keep.refl h0 _
  obtain ⟨_, T1, L1, X1, hQ1, st1⟩ := own_cN X0 hx hml hZ hown (rm_abi l Z a0 hw r0 cap h0 n0 Z0 hst X00 E_r0 g_r0 F_va F_cd F_ct F_ml (by omega)) (w 94 rfl) (w 95 rfl) (w 98 rfl) (w 99 rfl) rfl e0 (g := (mkF m 2 #[vr r0, vi (Int32.ofNat cap)] [(.int (Int32.ofNat cap)), (.ref r0)])) (argsL := [(.int (Int32.ofNat cap))]) (rest := []) (W := 0) (lenOf own_pd28 rfl) (b d21_2)
  obtain ⟨rfl, Nq1, Kq1, t1, szq1, Eq1, Fq1c, Fq1v, Fq1k, Fq1m, Yq1, Exq1⟩ := hQ1
  have N1 := Fr.app N0 Nq1
  have f2_1 := E_r0.keep Kq1
  have od2 := X00.keep Kq1 (allS g_r0 all0)
  have Z1 : n0 ≤ T1.heap.size := Nat.le_trans Z0 Kq1.1
  have K1 := K0.trans Kq1 (allS (Or.inl (by simp)) all0)
  have ne_r0_t1 : r0 ≠ t1 := Nat.ne_of_lt (Nat.lt_of_lt_of_le E_r0.lt szq1)
  have sz_t1 : h0.size ≤ t1 := Nat.le_trans K0.1 szq1
  have g_t1 : n0 ≤ t1 := Nat.le_trans Z0 szq1
  have pre4 : Pr p e below s₁ E0 T1 (mkF m 5 #[vr r0, vi (Int32.ofNat cap)] []) := fun t k => pre0 t (by
    refine XS.aloadN X0.here hx rfl (b d21_0) rfl rfl ?_
    refine XS.iloadN X0.here hx rfl (b d21_1) rfl ?_
    refine st1 _ ?_
    exact k)
  exact own_end X1 hlk (v := none) (fun _ => rfl) pre4 (fun fs hr => X1.returnOut hx hret (b d21_5) hr) ⟨rfl, N1, K1, t1, sz_t1, Eq1, Fq1c, Fq1v, Fq1k, Fq1m, Yq1, Exq1⟩
abbrev C36 := jdk_68_method_14_code
theorem d36_0 : dk C36 0 (.aload_n 0) 1 := by decide +kernel
theorem d36_1 : dk C36 1 (.getfield 22) 3 := by decide +kernel
theorem d36_4 : dk C36 4 (.istore_n 2) 1 := by decide +kernel
theorem d36_5 : dk C36 5 (.aload_n 0) 1 := by decide +kernel
theorem d36_6 : dk C36 6 (.getfield 15) 3 := by decide +kernel
theorem d36_9 : dk C36 9 (.astore_n 3) 1 := by decide +kernel
theorem d36_10 : dk C36 10 (.aload_n 0) 1 := by decide +kernel
theorem d36_11 : dk C36 11 (.getfield 79) 3 := by decide +kernel
theorem d36_14 : dk C36 14 (.aload_n 3) 1 := by decide +kernel
theorem d36_15 : dk C36 15 .arraylength 1 := by decide +kernel
theorem d36_16 : dk C36 16 (.iload_n 2) 1 := by decide +kernel
theorem d36_17 : dk C36 17 .ishr 1 := by decide +kernel
theorem d36_18 : dk C36 18 (.invokestatic 138) 3 := by decide +kernel
theorem d36_21 : dk C36 21 (.istore 4) 2 := by decide +kernel
theorem d36_23 : dk C36 23 (.iload_n 1) 1 := by decide +kernel
theorem d36_24 : dk C36 24 (.iload 4) 2 := by decide +kernel
theorem d36_26 : dk C36 26 (.invokestatic 144) 3 := by decide +kernel
theorem d36_29 : dk C36 29 (.iload_n 2) 1 := by decide +kernel
theorem d36_30 : dk C36 30 (.ifCond .ne 12) 3 := by decide +kernel
theorem d36_33 : dk C36 33 (.aload_n 3) 1 := by decide +kernel
theorem d36_34 : dk C36 34 (.iload_n 1) 1 := by decide +kernel
theorem d36_35 : dk C36 35 .baload 1 := by decide +kernel
theorem d36_36 : dk C36 36 (.sipush 255) 3 := by decide +kernel
theorem d36_39 : dk C36 39 .iand 1 := by decide +kernel
theorem d36_40 : dk C36 40 .i2c 1 := by decide +kernel
theorem d36_41 : dk C36 41 .ireturn 1 := by decide +kernel
theorem d36_42 : dk C36 42 (.aload_n 3) 1 := by decide +kernel
theorem d36_43 : dk C36 43 (.iload_n 1) 1 := by decide +kernel
theorem d36_44 : dk C36 44 (.invokestatic 148) 3 := by decide +kernel
theorem d36_47 : dk C36 47 .ireturn 1 := by decide +kernel
def Q_bca (Z : State) (r0 : Addr) (i : Nat) (ta : Addr) (cap : Nat) (li : List Int32) (h0 : Heap) (n0 : Nat) (v : Option Value) (h : Heap) (L : List Loc) : Prop := v = some (.int (li.getD i 0)) ∧ Fr n0 L ∧ h = h0
theorem rm_bca (l : Launch) (Z : State) (a0 : Array Value) (hw : Hw a0 Z) (r0 : Addr) (i : Nat) (ta : Addr) (cap : Nat) (li : List Int32) (h0 : Heap) (n0 : Nat) (Z0 : n0 ≤ h0.size) (hst : own_St Z) (X00 : Old Z n0 h0) (B_r0 : Sb Z h0 r0 ta cap li) (hi : i < li.length) : Mt l (⟨"java/lang/AbstractStringBuilder", "charAt", "(I)C"⟩ : MethodName) C36 5 (some .char) ({ frames := 2, cells := 0, slots := 0, locals := 27 } : Room) #[(.ref r0), (.int (Int32.ofNat i))] Z h0 (Q_bca Z r0 i ta cap li h0 n0) := by
  have w := own_w hw
  refine own_go (L0 := #[vr r0, vi (Int32.ofNat i), vu, vu, vu]) n0 (plainFor_of_name own_pn25) (fun m => rfl) fun p e s m below meth c s₁ E0 hx b hml hown hnm hret hlk hZ X0 e0 N0 pre0 => ?_
  obtain ⟨cd1, ml1, N1, f1, E1, Fc1, Fv1, Fk1, Fm1, Y1, Ey1, hcod1, hle1, h51⟩ := id B_r0
  rcases hcod1.cd with rfl | rfl
  · obtain ⟨rfl, hch1, hE1⟩ := hcod1.latB
    obtain ⟨T2, X2, e2, st2⟩ := getF X0 hx hZ hown (host := "") (Or.inl (w 104 rfl)) Via.refl e0 Fc1 (g := (mkF m 1 #[vr r0, vi (Int32.ofNat i), vu, vu, vu] [(.ref r0)])) rfl rfl (b d36_1)
    obtain ⟨T3, X3, e3, st3⟩ := getF X2 hx hZ hown (host := "") (Or.inl (w 102 rfl)) Via.refl e2 Fv1 (g := (mkF m 6 #[vr r0, vi (Int32.ofNat i), vi (0 : Int32), vu, vu] [(.ref r0)])) rfl rfl (b d36_6)
    obtain ⟨T4, X4, e4, st4⟩ := getF X3 hx hZ hown (host := "") (Or.inl (w 128 rfl)) Via.refl e3 Fk1 (g := (mkF m 11 #[vr r0, vi (Int32.ofNat i), vi (0 : Int32), vr ta, vu] [(.ref r0)])) rfl rfl (b d36_11)
    obtain ⟨qn5, cl5, Ar5, S5, H5⟩ := id Y1
    obtain ⟨_, T6, L6, X6, hQ6, st6⟩ := own_cS X4 hx hml hZ hown (rm_mi l Z a0 hw li.length cap h0 n0 Z0 (by omega) (by omega)) (w 186 rfl) (w 187 rfl) (w 188 rfl) (w 189 rfl) e4 (g := (mkF m 18 #[vr r0, vi (Int32.ofNat i), vi (0 : Int32), vr ta, vu] [(.int (Int32.ofNat cap)), (.int (Int32.ofNat li.length))])) (argsL := [(.int (Int32.ofNat li.length)), (.int (Int32.ofNat cap))]) (rest := []) (W := 0) (lenOf own_pd19 rfl) (b d36_18)
    obtain ⟨rfl, Nq6, e6⟩ := hQ6
    have N6 := Fr.app N0 Nq6
    obtain ⟨_, T7, L7, X7, hQ7, st7⟩ := own_cS X6 hx hml hZ hown (rm_sci l Z a0 hw i (min li.length cap) h0 n0 Z0 hst X00 (by omega) (by omega)) (w 190 rfl) (w 67 rfl) (w 11 rfl) (w 68 rfl) e6 (g := (mkF m 26 #[vr r0, vi (Int32.ofNat i), vi (0 : Int32), vr ta, vi (Int32.ofNat (min li.length cap))] [(.int (Int32.ofNat (min li.length cap))), (.int (Int32.ofNat i))])) (argsL := [(.int (Int32.ofNat i)), (.int (Int32.ofNat (min li.length cap)))]) (rest := []) (W := 0) (lenOf own_pd13 rfl) (b d36_26)
    obtain ⟨rfl, Nq7, e7⟩ := hQ7
    have N7 := Fr.app N6 Nq7
    obtain ⟨qn8, cl8, Ar8, S8, H8⟩ := id Y1
    have pre10 : Pr p e below s₁ E0 T7 (mkF m 41 #[vr r0, vi (Int32.ofNat i), vi (0 : Int32), vr ta, vi (Int32.ofNat (min li.length cap))] [(.int (((f1 i) &&& (255 : Int32)).toUInt32.toUInt16.toUInt32.toInt32))]) := fun t k => pre0 t (by
      refine XS.aloadN X0.here hx rfl (b d36_0) rfl rfl ?_
      refine st2 _ ?_
      show Sp p e below T2 (mkF m 4 #[vr r0, vi (Int32.ofNat i), vu, vu, vu] [(.int (0 : Int32))]) t
      refine XS.istoreN X2.here hx rfl (b d36_4) rfl (l' := #[vr r0, vi (Int32.ofNat i), vi (0 : Int32), vu, vu]) rfl ?_
      refine XS.aloadN X2.here hx rfl (b d36_5) rfl rfl ?_
      refine st3 _ ?_
      show Sp p e below T3 (mkF m 9 #[vr r0, vi (Int32.ofNat i), vi (0 : Int32), vu, vu] [(.ref ta)]) t
      refine XS.astoreN X3.here hx rfl (b d36_9) rfl rfl (l' := #[vr r0, vi (Int32.ofNat i), vi (0 : Int32), vr ta, vu]) rfl ?_
      refine XS.aloadN X3.here hx rfl (b d36_10) rfl rfl ?_
      refine st4 _ ?_
      show Sp p e below T4 (mkF m 14 #[vr r0, vi (Int32.ofNat i), vi (0 : Int32), vr ta, vu] [(.int (Int32.ofNat li.length))]) t
      refine XS.aloadN X4.here hx rfl (b d36_14) rfl rfl ?_
      refine X4.arraylength hx (by rw [e4]; exact Ar5.1) (State.isArrayOf_alike hZ.alike Ar5.2.1) (g := (mkF m 15 #[vr r0, vi (Int32.ofNat i), vi (0 : Int32), vr ta, vu] [(.ref ta), (.int (Int32.ofNat li.length))])) rfl rfl (b d36_15) _ ?_
      rw [own_len S5]
      show Sp p e below T4 (mkF m 16 #[vr r0, vi (Int32.ofNat i), vi (0 : Int32), vr ta, vu] [(.int (Int32.ofNat cap)), (.int (Int32.ofNat li.length))]) t
      refine XS.iloadN X4.here hx rfl (b d36_16) rfl ?_
      refine XS.ishr X4.here hx rfl (b d36_17) rfl ?_
      show Sp p e below T4 (mkF m 18 #[vr r0, vi (Int32.ofNat i), vi (0 : Int32), vr ta, vu] [(.int ((Int32.ofNat cap) >>> ((0 : Int32) &&& 31))), (.int (Int32.ofNat li.length))]) t
      rw [own_shr0]
      show Sp p e below T4 (mkF m 18 #[vr r0, vi (Int32.ofNat i), vi (0 : Int32), vr ta, vu] [(.int (Int32.ofNat cap)), (.int (Int32.ofNat li.length))]) t
      refine st6 _ ?_
      show Sp p e below T6 (mkF m 21 #[vr r0, vi (Int32.ofNat i), vi (0 : Int32), vr ta, vu] [(.int (Int32.ofNat (min li.length cap)))]) t
      refine XS.istore X6.here hx rfl (b d36_21) rfl (l' := #[vr r0, vi (Int32.ofNat i), vi (0 : Int32), vr ta, vi (Int32.ofNat (min li.length cap))]) rfl ?_
      refine XS.iloadN X6.here hx rfl (b d36_23) rfl ?_
      refine XS.iload X6.here hx rfl (b d36_24) rfl ?_
      refine st7 _ ?_
      show Sp p e below T7 (mkF m 29 #[vr r0, vi (Int32.ofNat i), vi (0 : Int32), vr ta, vi (Int32.ofNat (min li.length cap))] []) t
      refine XS.iloadN X7.here hx rfl (b d36_29) rfl ?_
      show Sp p e below T7 (mkF m 30 #[vr r0, vi (Int32.ofNat i), vi (0 : Int32), vr ta, vi (Int32.ofNat (min li.length cap))] [(.int (0 : Int32))]) t
      refine XS.ifNo X7.here hx rfl (b d36_30) rfl ((if0 _ _).trans (teq (by decide : (0 : Int32) = (0 : Int32))).2) ?_
      refine XS.aloadN X7.here hx rfl (b d36_33) rfl rfl ?_
      refine XS.iloadN X7.here hx rfl (b d36_34) rfl ?_
      refine X7.baloadBytes hx (j := (Int32.ofNat i)) (v := (.int (f1 i))) (by rw [e7]; exact Ar8.1) (State.isArrayOf_alike hZ.alike Ar8.2.1) Ar8.2.2 (own_in qn8 S8 (show i < cap by omega)) (own_at qn8 H8 (show i < cap by omega)) (g := (mkF m 35 #[vr r0, vi (Int32.ofNat i), vi (0 : Int32), vr ta, vi (Int32.ofNat (min li.length cap))] [(.int (Int32.ofNat i)), (.ref ta)])) rfl rfl (b d36_35) _ ?_
      show Sp p e below T7 (mkF m 36 #[vr r0, vi (Int32.ofNat i), vi (0 : Int32), vr ta, vi (Int32.ofNat (min li.length cap))] [(.int (f1 i))]) t
      refine XS.sipush X7.here hx rfl (b d36_36) ?_
      refine XS.iand X7.here hx rfl (b d36_39) rfl ?_
      refine XS.i2c X7.here hx rfl (b d36_40) rfl ?_
      exact k)
    exact own_end X7 hlk (v := some (.int (nar .char (((f1 i) &&& (255 : Int32)).toUInt32.toUInt16.toUInt32.toInt32)))) (own_hv hret) pre10 (fun fs hr => retN X7 hx (t := .char) hret (by simp) (b d36_41) hr) (by rw [e7]; exact ⟨own_lcB (hch1 i hi) (hE1 i hi), N7, rfl⟩)
  · obtain ⟨rfl, hch1, hE1⟩ := hcod1.wid
    obtain ⟨T11, X11, e11, st11⟩ := getF X0 hx hZ hown (host := "") (Or.inl (w 104 rfl)) Via.refl e0 Fc1 (g := (mkF m 1 #[vr r0, vi (Int32.ofNat i), vu, vu, vu] [(.ref r0)])) rfl rfl (b d36_1)
    obtain ⟨T12, X12, e12, st12⟩ := getF X11 hx hZ hown (host := "") (Or.inl (w 102 rfl)) Via.refl e11 Fv1 (g := (mkF m 6 #[vr r0, vi (Int32.ofNat i), vi (1 : Int32), vu, vu] [(.ref r0)])) rfl rfl (b d36_6)
    obtain ⟨T13, X13, e13, st13⟩ := getF X12 hx hZ hown (host := "") (Or.inl (w 128 rfl)) Via.refl e12 Fk1 (g := (mkF m 11 #[vr r0, vi (Int32.ofNat i), vi (1 : Int32), vr ta, vu] [(.ref r0)])) rfl rfl (b d36_11)
    obtain ⟨qn14, cl14, Ar14, S14, H14⟩ := id Y1
    obtain ⟨_, T15, L15, X15, hQ15, st15⟩ := own_cS X13 hx hml hZ hown (rm_mi l Z a0 hw li.length cap h0 n0 Z0 (by omega) (by omega)) (w 186 rfl) (w 187 rfl) (w 188 rfl) (w 189 rfl) e13 (g := (mkF m 18 #[vr r0, vi (Int32.ofNat i), vi (1 : Int32), vr ta, vu] [(.int (Int32.ofNat cap)), (.int (Int32.ofNat li.length))])) (argsL := [(.int (Int32.ofNat li.length)), (.int (Int32.ofNat cap))]) (rest := []) (W := 0) (lenOf own_pd19 rfl) (b d36_18)
    obtain ⟨rfl, Nq15, e15⟩ := hQ15
    have N15 := Fr.app N0 Nq15
    obtain ⟨_, T16, L16, X16, hQ16, st16⟩ := own_cS X15 hx hml hZ hown (rm_sci l Z a0 hw i (min li.length cap) h0 n0 Z0 hst X00 (by omega) (by omega)) (w 190 rfl) (w 67 rfl) (w 11 rfl) (w 68 rfl) e15 (g := (mkF m 26 #[vr r0, vi (Int32.ofNat i), vi (1 : Int32), vr ta, vi (Int32.ofNat (min li.length cap))] [(.int (Int32.ofNat (min li.length cap))), (.int (Int32.ofNat i))])) (argsL := [(.int (Int32.ofNat i)), (.int (Int32.ofNat (min li.length cap)))]) (rest := []) (W := 0) (lenOf own_pd13 rfl) (b d36_26)
    obtain ⟨rfl, Nq16, e16⟩ := hQ16
    have N16 := Fr.app N15 Nq16
    obtain ⟨_, T17, L17, X17, hQ17, st17⟩ := own_cS X16 hx hml hZ hown (rm_gc l Z a0 hw ta i (2 * cap) f1 h0 n0 Z0 hst X00 Y1 (by omega) (by omega)) (w 278 rfl) (w 244 rfl) (w 25 rfl) (w 245 rfl) e16 (g := (mkF m 44 #[vr r0, vi (Int32.ofNat i), vi (1 : Int32), vr ta, vi (Int32.ofNat (min li.length cap))] [(.int (Int32.ofNat i)), (.ref ta)])) (argsL := [(.ref ta), (.int (Int32.ofNat i))]) (rest := []) (W := 0) (lenOf own_pd9 rfl) (b d36_44)
    obtain ⟨rfl, Nq17, e17⟩ := hQ17
    have N17 := Fr.app N16 Nq17
    have pre18 : Pr p e below s₁ E0 T17 (mkF m 47 #[vr r0, vi (Int32.ofNat i), vi (1 : Int32), vr ta, vi (Int32.ofNat (min li.length cap))] [(.int (own_gc (f1 (2 * i)) (f1 ((2 * i) + 1))))]) := fun t k => pre0 t (by
      refine XS.aloadN X0.here hx rfl (b d36_0) rfl rfl ?_
      refine st11 _ ?_
      show Sp p e below T11 (mkF m 4 #[vr r0, vi (Int32.ofNat i), vu, vu, vu] [(.int (1 : Int32))]) t
      refine XS.istoreN X11.here hx rfl (b d36_4) rfl (l' := #[vr r0, vi (Int32.ofNat i), vi (1 : Int32), vu, vu]) rfl ?_
      refine XS.aloadN X11.here hx rfl (b d36_5) rfl rfl ?_
      refine st12 _ ?_
      show Sp p e below T12 (mkF m 9 #[vr r0, vi (Int32.ofNat i), vi (1 : Int32), vu, vu] [(.ref ta)]) t
      refine XS.astoreN X12.here hx rfl (b d36_9) rfl rfl (l' := #[vr r0, vi (Int32.ofNat i), vi (1 : Int32), vr ta, vu]) rfl ?_
      refine XS.aloadN X12.here hx rfl (b d36_10) rfl rfl ?_
      refine st13 _ ?_
      show Sp p e below T13 (mkF m 14 #[vr r0, vi (Int32.ofNat i), vi (1 : Int32), vr ta, vu] [(.int (Int32.ofNat li.length))]) t
      refine XS.aloadN X13.here hx rfl (b d36_14) rfl rfl ?_
      refine X13.arraylength hx (by rw [e13]; exact Ar14.1) (State.isArrayOf_alike hZ.alike Ar14.2.1) (g := (mkF m 15 #[vr r0, vi (Int32.ofNat i), vi (1 : Int32), vr ta, vu] [(.ref ta), (.int (Int32.ofNat li.length))])) rfl rfl (b d36_15) _ ?_
      rw [own_len S14]
      show Sp p e below T13 (mkF m 16 #[vr r0, vi (Int32.ofNat i), vi (1 : Int32), vr ta, vu] [(.int (Int32.ofNat (2 * cap))), (.int (Int32.ofNat li.length))]) t
      refine XS.iloadN X13.here hx rfl (b d36_16) rfl ?_
      refine XS.ishr X13.here hx rfl (b d36_17) rfl ?_
      show Sp p e below T13 (mkF m 18 #[vr r0, vi (Int32.ofNat i), vi (1 : Int32), vr ta, vu] [(.int ((Int32.ofNat (2 * cap)) >>> ((1 : Int32) &&& 31))), (.int (Int32.ofNat li.length))]) t
      rw [own_shr (a := cap) (by omega)]
      show Sp p e below T13 (mkF m 18 #[vr r0, vi (Int32.ofNat i), vi (1 : Int32), vr ta, vu] [(.int (Int32.ofNat cap)), (.int (Int32.ofNat li.length))]) t
      refine st15 _ ?_
      show Sp p e below T15 (mkF m 21 #[vr r0, vi (Int32.ofNat i), vi (1 : Int32), vr ta, vu] [(.int (Int32.ofNat (min li.length cap)))]) t
      refine XS.istore X15.here hx rfl (b d36_21) rfl (l' := #[vr r0, vi (Int32.ofNat i), vi (1 : Int32), vr ta, vi (Int32.ofNat (min li.length cap))]) rfl ?_
      refine XS.iloadN X15.here hx rfl (b d36_23) rfl ?_
      refine XS.iload X15.here hx rfl (b d36_24) rfl ?_
      refine st16 _ ?_
      show Sp p e below T16 (mkF m 29 #[vr r0, vi (Int32.ofNat i), vi (1 : Int32), vr ta, vi (Int32.ofNat (min li.length cap))] []) t
      refine XS.iloadN X16.here hx rfl (b d36_29) rfl ?_
      show Sp p e below T16 (mkF m 30 #[vr r0, vi (Int32.ofNat i), vi (1 : Int32), vr ta, vi (Int32.ofNat (min li.length cap))] [(.int (1 : Int32))]) t
      refine XS.ifYes X16.here hx rfl (pc0 := 30) (pc' := 42) rfl (b d36_30) rfl ((if0 _ _).trans (feq (by decide : ¬ ((1 : Int32) = (0 : Int32)))).2) (by decide) (by decide) ?_
      refine XS.aloadN X16.here hx rfl (b d36_42) rfl rfl ?_
      refine XS.iloadN X16.here hx rfl (b d36_43) rfl ?_
      refine st17 _ ?_
      exact k)
    exact own_end X17 hlk (v := some (.int (nar .char (own_gc (f1 (2 * i)) (f1 ((2 * i) + 1)))))) (own_hv hret) pre18 (fun fs hr => retN X17 hx (t := .char) hret (by simp) (b d36_47) hr) (by rw [e17]; exact ⟨own_ucB (hch1 i hi) (hE1 i hi), N17, rfl⟩)
abbrev C35 := jdk_67_method_88_code
theorem d35_0 : dk C35 0 (.aload_n 0) 1 := by decide +kernel
theorem d35_1 : dk C35 1 (.iload_n 1) 1 := by decide +kernel
theorem d35_2 : dk C35 2 (.invokespecial 329) 3 := by decide +kernel
theorem own_pd29 : parseMethodDescriptor "(I)C" = some ⟨[.int], some .char⟩ := by decide +kernel
theorem d35_5 : dk C35 5 .ireturn 1 := by decide +kernel
def Q_sbc (Z : State) (r0 : Addr) (i : Nat) (ta : Addr) (cap : Nat) (li : List Int32) (h0 : Heap) (n0 : Nat) (v : Option Value) (h : Heap) (L : List Loc) : Prop := v = some (.int (li.getD i 0)) ∧ Fr n0 L ∧ h = h0
theorem rm_sbc (l : Launch) (Z : State) (a0 : Array Value) (hw : Hw a0 Z) (r0 : Addr) (i : Nat) (ta : Addr) (cap : Nat) (li : List Int32) (h0 : Heap) (n0 : Nat) (Z0 : n0 ≤ h0.size) (hst : own_St Z) (X00 : Old Z n0 h0) (B_r0 : Sb Z h0 r0 ta cap li) (hi : i < li.length) (hc : Chs li) : Mt l (⟨"java/lang/StringBuilder", "charAt", "(I)C"⟩ : MethodName) C35 2 (some .char) ({ frames := 3, cells := 0, slots := 0, locals := 43 } : Room) #[(.ref r0), (.int (Int32.ofNat i))] Z h0 (Q_sbc Z r0 i ta cap li h0 n0) := by
  have w := own_w hw
  refine own_go (L0 := #[vr r0, vi (Int32.ofNat i)]) n0 (plainFor_of_name own_pn27) (fun m => rfl) fun p e s m below meth c s₁ E0 hx b hml hown hnm hret hlk hZ X0 e0 N0 pre0 => ?_
  obtain ⟨_, T1, L1, X1, hQ1, st1⟩ := own_cU X0 hx hml hZ hown (rm_bca l Z a0 hw r0 i ta cap li h0 n0 Z0 hst X00 B_r0 (by omega)) (w 182 rfl) (w 183 rfl) (w 98 rfl) (w 185 rfl) (own_same (y' := yIL) (by decide) (w 184 rfl) (w 144 rfl) (w 143 rfl) rfl) (w 113 rfl) (by decide) (B_r0.exa) e0 (g := (mkF m 2 #[vr r0, vi (Int32.ofNat i)] [(.int (Int32.ofNat i)), (.ref r0)])) (argsL := [(.int (Int32.ofNat i))]) (rest := []) (W := 0) (lenOf own_pd29 rfl) (b d35_2)
  obtain ⟨rfl, Nq1, e1⟩ := hQ1
  have N1 := Fr.app N0 Nq1
  have pre2 : Pr p e below s₁ E0 T1 (mkF m 5 #[vr r0, vi (Int32.ofNat i)] [(.int (li.getD i 0))]) := fun t k => pre0 t (by
    refine XS.aloadN X0.here hx rfl (b d35_0) rfl rfl ?_
    refine XS.iloadN X0.here hx rfl (b d35_1) rfl ?_
    refine st1 _ ?_
    exact k)
  exact own_end X1 hlk (v := some (.int (nar .char (li.getD i 0)))) (own_hv hret) pre2 (fun fs hr => retN X1 hx (t := .char) hret (by simp) (b d35_5) hr) (by rw [e1]; exact ⟨by rw [own_narc (hc i hi)], N1, rfl⟩)
abbrev C59 := jdk_68_method_13_code
theorem d59_0 : dk C59 0 (.iload_n 1) 1 := by decide +kernel
theorem d59_1 : dk C59 1 (.ifCond .ge 12) 3 := by decide +kernel
theorem d59_13 : dk C59 13 (.aload_n 0) 1 := by decide +kernel
theorem d59_14 : dk C59 14 (.iload_n 1) 1 := by decide +kernel
theorem d59_15 : dk C59 15 (.invokevirtual 100) 3 := by decide +kernel
theorem d59_18 : dk C59 18 (.aload_n 0) 1 := by decide +kernel
theorem d59_19 : dk C59 19 (.getfield 79) 3 := by decide +kernel
theorem d59_22 : dk C59 22 (.iload_n 1) 1 := by decide +kernel
theorem d59_23 : dk C59 23 (.if_icmp .ge 40) 3 := by decide +kernel
theorem d59_63 : dk C59 63 (.aload_n 0) 1 := by decide +kernel
theorem d59_64 : dk C59 64 (.getfield 79) 3 := by decide +kernel
theorem d59_67 : dk C59 67 (.iload_n 1) 1 := by decide +kernel
theorem d59_68 : dk C59 68 (.if_icmp .le 8) 3 := by decide +kernel
theorem d59_71 : dk C59 71 (.aload_n 0) 1 := by decide +kernel
theorem d59_72 : dk C59 72 (.iconst 1) 1 := by decide +kernel
theorem d59_73 : dk C59 73 (.putfield 73) 3 := by decide +kernel
theorem d59_76 : dk C59 76 (.aload_n 0) 1 := by decide +kernel
theorem d59_77 : dk C59 77 (.iload_n 1) 1 := by decide +kernel
theorem d59_78 : dk C59 78 (.putfield 79) 3 := by decide +kernel
theorem d59_81 : dk C59 81 .return_ 1 := by decide +kernel
def Q_bsl (Z : State) (r0 : Addr) (kn : Nat) (ta : Addr) (cap : Nat) (li : List Int32) (h0 : Heap) (n0 : Nat) (v : Option Value) (h : Heap) (L : List Loc) : Prop := v = none ∧ Fr n0 L ∧ Keep h0 h [r0] ∧ Sb Z h r0 ta cap (li.take kn)
theorem rm_bsl (l : Launch) (Z : State) (a0 : Array Value) (hw : Hw a0 Z) (r0 : Addr) (kn : Nat) (ta : Addr) (cap : Nat) (li : List Int32) (h0 : Heap) (n0 : Nat) (Z0 : n0 ≤ h0.size) (hst : own_St Z) (X00 : Old Z n0 h0) (B_r0 : Sb Z h0 r0 ta cap li) (g_r0 : n0 ≤ r0) (hk : kn < li.length) : Mt l (⟨"java/lang/AbstractStringBuilder", "setLength", "(I)V"⟩ : MethodName) C59 2 none ({ frames := 1, cells := 0, slots := 0, locals := 14 } : Room) #[(.ref r0), (.int (Int32.ofNat kn))] Z h0 (Q_bsl Z r0 kn ta cap li h0 n0) := by
  have w := own_w hw
  refine own_go (L0 := #[vr r0, vi (Int32.ofNat kn)]) n0 (plainFor_of_name own_pn25) (fun m => rfl) fun p e s m below meth c s₁ E0 hx b hml hown hnm hret hlk hZ X0 e0 N0 pre0 => ?_
  have K0 : Keep h0 h0 [r0] := Keep.refl h0 _
  obtain ⟨cd1, ml1, N1, f1, E1, Fc1, Fv1, Fk1, Fm1, Y1, Ey1, hcod1, hle1, h51⟩ := id B_r0
  rcases hcod1.cd with rfl | rfl
  · obtain ⟨rfl, hch1, hE1⟩ := hcod1.latB
    obtain ⟨_, T2, L2, X2, hQ2, st2⟩ := own_cV X0 hx hml hZ hown (rm_eci0 l Z a0 hw r0 kn ta cap f1 h0 n0 Z0 Fc1 Fv1 Y1 (by omega) (by omega)) (w 130 rfl) (w 131 rfl) (w 98 rfl) (w 134 rfl) (own_decl (w 131 rfl) (w 134 rfl)) (w 133 rfl) (own_nfS hZ (w 133 rfl)) E1 e0 (g := (mkF m 15 #[vr r0, vi (Int32.ofNat kn)] [(.int (Int32.ofNat kn)), (.ref r0)])) (argsL := [(.int (Int32.ofNat kn))]) (rest := []) (W := 0) (lenOf own_pd28 rfl) (b d59_15)
    obtain ⟨rfl, Nq2, e2⟩ := hQ2
    have N2 := Fr.app N0 Nq2
    obtain ⟨T3, X3, e3, st3⟩ := getF X2 hx hZ hown (host := "") (Or.inl (w 128 rfl)) Via.refl e2 Fk1 (g := (mkF m 19 #[vr r0, vi (Int32.ofNat kn)] [(.ref r0)])) rfl rfl (b d59_19)
    obtain ⟨T4, X4, e4, st4⟩ := getF X3 hx hZ hown (host := "") (Or.inl (w 128 rfl)) Via.refl e3 Fk1 (g := (mkF m 64 #[vr r0, vi (Int32.ofNat kn)] [(.ref r0)])) rfl rfl (b d59_64)
    obtain ⟨T5, h5, X5, e5, W5, st5⟩ := putFN X4 hx hZ hown (w 293 rfl) Via.refl e4 Fm1 E1 (Or.inl (w 283 rfl)) (w 89 rfl) (ty := .boolean) (v' := (.int (1 : Int32))) (by decide) rfl rfl (g := (mkF m 73 #[vr r0, vi (Int32.ofNat kn)] [(.int (1 : Int32)), (.ref r0)])) rfl rfl (b d59_73)
    have Fw5 := Fm1.same W5
    have od6 := X00.wr W5 g_r0
    have f6_1 := E1.wr W5
    have f6_2 := Fc1.other W5 (Or.inr (slot_ne (Or.inl (w 105 rfl)) (Or.inl (w 283 rfl)) (by decide) (t := .byte) (t' := .boolean) (by decide) (by decide)))
    have f6_3 := Fv1.other W5 (Or.inr (slot_ne (Or.inl (w 103 rfl)) (Or.inl (w 283 rfl)) (by decide) (t := (.array .byte)) (t' := .boolean) (by decide) (by decide)))
    have f6_4 := Fk1.other W5 (Or.inr (slot_ne (Or.inl (w 129 rfl)) (Or.inl (w 283 rfl)) (by decide) (t := .int) (t' := .boolean) (by decide) (by decide)))
    have f6_6 := Y1.other W5 (Ne.symm (own_neY E1 (w 89 rfl) Y1))
    have f6_7 := Ey1.wr W5
    have N5 := Fr.snoc X5 N2 g_r0
    have Z5 : n0 ≤ h5.size := Nat.le_trans Z0 (Keep.of_wr W5).1
    have K5 := K0.wr W5 (Or.inl (by simp))
    obtain ⟨T8, h8, X8, e8, W8, st8⟩ := putF X5 hx hZ hown (host := "") (Or.inl (w 128 rfl)) Via.refl e5 f6_4 f6_1 (Or.inl (w 129 rfl)) (w 89 rfl) (ty := .int) (by decide) rfl rfl (g := (mkF m 78 #[vr r0, vi (Int32.ofNat kn)] [(.int (Int32.ofNat kn)), (.ref r0)])) rfl rfl (b d59_78)
    have Fw8 := f6_4.same W8
    have od9 := od6.wr W8 g_r0
    have f9_1 := f6_1.wr W8
    have f9_2 := f6_2.other W8 (Or.inr (slot_ne (Or.inl (w 105 rfl)) (Or.inl (w 129 rfl)) (by decide) (t := .byte) (t' := .int) (by decide) (by decide)))
    have f9_3 := f6_3.other W8 (Or.inr (slot_ne (Or.inl (w 103 rfl)) (Or.inl (w 129 rfl)) (by decide) (t := (.array .byte)) (t' := .int) (by decide) (by decide)))
    have f9_5 := Fw5.other W8 (Or.inr (slot_ne (Or.inl (w 283 rfl)) (Or.inl (w 129 rfl)) (by decide) (t := .boolean) (t' := .int) (by decide) (by decide)))
    have f9_6 := f6_6.other W8 (Ne.symm (own_neY f6_1 (w 89 rfl) f6_6))
    have f9_7 := f6_7.wr W8
    have N8 := Fr.snoc X8 N5 g_r0
    have Z8 : n0 ≤ h8.size := Nat.le_trans Z5 (Keep.of_wr W8).1
    have K8 := K5.wr W8 (Or.inl (by simp))
    have pre11 : Pr p e below s₁ E0 T8 (mkF m 81 #[vr r0, vi (Int32.ofNat kn)] []) := fun t k => pre0 t (by
      refine XS.iloadN X0.here hx rfl (b d59_0) rfl ?_
      show Sp p e below s₁ (mkF m 1 #[vr r0, vi (Int32.ofNat kn)] [(.int (Int32.ofNat kn))]) t
      refine XS.ifYes X0.here hx rfl (pc0 := 1) (pc' := 13) rfl (b d59_1) rfl ((if0 _ _).trans (flt (own_ltF (a := kn) (b := 0) (show ¬ kn < 0 by omega) (by omega))).2.1) (by decide) (by decide) ?_
      refine XS.aloadN X0.here hx rfl (b d59_13) rfl rfl ?_
      refine XS.iloadN X0.here hx rfl (b d59_14) rfl ?_
      refine st2 _ ?_
      show Sp p e below T2 (mkF m 18 #[vr r0, vi (Int32.ofNat kn)] []) t
      refine XS.aloadN X2.here hx rfl (b d59_18) rfl rfl ?_
      refine st3 _ ?_
      show Sp p e below T3 (mkF m 22 #[vr r0, vi (Int32.ofNat kn)] [(.int (Int32.ofNat li.length))]) t
      refine XS.iloadN X3.here hx rfl (b d59_22) rfl ?_
      show Sp p e below T3 (mkF m 23 #[vr r0, vi (Int32.ofNat kn)] [(.int (Int32.ofNat kn)), (.int (Int32.ofNat li.length))]) t
      refine XS.icmpYes X3.here hx rfl (pc0 := 23) (pc' := 63) rfl (b d59_23) rfl (flt (own_ltF (a := li.length) (b := kn) (show ¬ li.length < kn by omega) (by omega))).2.1 (by decide) (by decide) ?_
      refine XS.aloadN X3.here hx rfl (b d59_63) rfl rfl ?_
      refine st4 _ ?_
      show Sp p e below T4 (mkF m 67 #[vr r0, vi (Int32.ofNat kn)] [(.int (Int32.ofNat li.length))]) t
      refine XS.iloadN X4.here hx rfl (b d59_67) rfl ?_
      show Sp p e below T4 (mkF m 68 #[vr r0, vi (Int32.ofNat kn)] [(.int (Int32.ofNat kn)), (.int (Int32.ofNat li.length))]) t
      refine XS.icmpNo X4.here hx rfl (b d59_68) rfl (tlt (own_ltT (a := kn) (b := li.length) (show kn < li.length by omega) (by omega))).2.2.2 ?_
      refine XS.aloadN X4.here hx rfl (b d59_71) rfl rfl ?_
      refine XS.iconst X4.here hx rfl (b d59_72) ?_
      refine st5 _ ?_
      show Sp p e below T5 (mkF m 76 #[vr r0, vi (Int32.ofNat kn)] []) t
      refine XS.aloadN X5.here hx rfl (b d59_76) rfl rfl ?_
      refine XS.iloadN X5.here hx rfl (b d59_77) rfl ?_
      refine st8 _ ?_
      exact k)
    exact own_end X8 hlk (v := none) (fun _ => rfl) pre11 (fun fs hr => X8.returnOut hx hret (b d59_81) hr) (by rw [e8]; exact ⟨rfl, N8, K8, Sb.mk' f9_1 f9_2 f9_3 Fw8 f9_5 f9_6 f9_7 (by rw [List.length_take]; omega) (own_Codt kn hcod1) (by rw [List.length_take]; omega) (by omega)⟩)
  · obtain ⟨rfl, hch1, hE1⟩ := hcod1.wid
    obtain ⟨_, T12, L12, X12, hQ12, st12⟩ := own_cV X0 hx hml hZ hown (rm_eci1 l Z a0 hw r0 kn ta cap f1 h0 n0 Z0 Fc1 Fv1 Y1 (by omega) (by omega)) (w 130 rfl) (w 131 rfl) (w 98 rfl) (w 134 rfl) (own_decl (w 131 rfl) (w 134 rfl)) (w 133 rfl) (own_nfS hZ (w 133 rfl)) E1 e0 (g := (mkF m 15 #[vr r0, vi (Int32.ofNat kn)] [(.int (Int32.ofNat kn)), (.ref r0)])) (argsL := [(.int (Int32.ofNat kn))]) (rest := []) (W := 0) (lenOf own_pd28 rfl) (b d59_15)
    obtain ⟨rfl, Nq12, e12⟩ := hQ12
    have N12 := Fr.app N0 Nq12
    obtain ⟨T13, X13, e13, st13⟩ := getF X12 hx hZ hown (host := "") (Or.inl (w 128 rfl)) Via.refl e12 Fk1 (g := (mkF m 19 #[vr r0, vi (Int32.ofNat kn)] [(.ref r0)])) rfl rfl (b d59_19)
    obtain ⟨T14, X14, e14, st14⟩ := getF X13 hx hZ hown (host := "") (Or.inl (w 128 rfl)) Via.refl e13 Fk1 (g := (mkF m 64 #[vr r0, vi (Int32.ofNat kn)] [(.ref r0)])) rfl rfl (b d59_64)
    obtain ⟨T15, h15, X15, e15, W15, st15⟩ := putFN X14 hx hZ hown (w 293 rfl) Via.refl e14 Fm1 E1 (Or.inl (w 283 rfl)) (w 89 rfl) (ty := .boolean) (v' := (.int (1 : Int32))) (by decide) rfl rfl (g := (mkF m 73 #[vr r0, vi (Int32.ofNat kn)] [(.int (1 : Int32)), (.ref r0)])) rfl rfl (b d59_73)
    have Fw15 := Fm1.same W15
    have od16 := X00.wr W15 g_r0
    have f16_1 := E1.wr W15
    have f16_2 := Fc1.other W15 (Or.inr (slot_ne (Or.inl (w 105 rfl)) (Or.inl (w 283 rfl)) (by decide) (t := .byte) (t' := .boolean) (by decide) (by decide)))
    have f16_3 := Fv1.other W15 (Or.inr (slot_ne (Or.inl (w 103 rfl)) (Or.inl (w 283 rfl)) (by decide) (t := (.array .byte)) (t' := .boolean) (by decide) (by decide)))
    have f16_4 := Fk1.other W15 (Or.inr (slot_ne (Or.inl (w 129 rfl)) (Or.inl (w 283 rfl)) (by decide) (t := .int) (t' := .boolean) (by decide) (by decide)))
    have f16_6 := Y1.other W15 (Ne.symm (own_neY E1 (w 89 rfl) Y1))
    have f16_7 := Ey1.wr W15
    have N15 := Fr.snoc X15 N12 g_r0
    have Z15 : n0 ≤ h15.size := Nat.le_trans Z0 (Keep.of_wr W15).1
    have K15 := K0.wr W15 (Or.inl (by simp))
    obtain ⟨T18, h18, X18, e18, W18, st18⟩ := putF X15 hx hZ hown (host := "") (Or.inl (w 128 rfl)) Via.refl e15 f16_4 f16_1 (Or.inl (w 129 rfl)) (w 89 rfl) (ty := .int) (by decide) rfl rfl (g := (mkF m 78 #[vr r0, vi (Int32.ofNat kn)] [(.int (Int32.ofNat kn)), (.ref r0)])) rfl rfl (b d59_78)
    have Fw18 := f16_4.same W18
    have od19 := od16.wr W18 g_r0
    have f19_1 := f16_1.wr W18
    have f19_2 := f16_2.other W18 (Or.inr (slot_ne (Or.inl (w 105 rfl)) (Or.inl (w 129 rfl)) (by decide) (t := .byte) (t' := .int) (by decide) (by decide)))
    have f19_3 := f16_3.other W18 (Or.inr (slot_ne (Or.inl (w 103 rfl)) (Or.inl (w 129 rfl)) (by decide) (t := (.array .byte)) (t' := .int) (by decide) (by decide)))
    have f19_5 := Fw15.other W18 (Or.inr (slot_ne (Or.inl (w 283 rfl)) (Or.inl (w 129 rfl)) (by decide) (t := .boolean) (t' := .int) (by decide) (by decide)))
    have f19_6 := f16_6.other W18 (Ne.symm (own_neY f16_1 (w 89 rfl) f16_6))
    have f19_7 := f16_7.wr W18
    have N18 := Fr.snoc X18 N15 g_r0
    have Z18 : n0 ≤ h18.size := Nat.le_trans Z15 (Keep.of_wr W18).1
    have K18 := K15.wr W18 (Or.inl (by simp))
    have pre21 : Pr p e below s₁ E0 T18 (mkF m 81 #[vr r0, vi (Int32.ofNat kn)] []) := fun t k => pre0 t (by
      refine XS.iloadN X0.here hx rfl (b d59_0) rfl ?_
      show Sp p e below s₁ (mkF m 1 #[vr r0, vi (Int32.ofNat kn)] [(.int (Int32.ofNat kn))]) t
      refine XS.ifYes X0.here hx rfl (pc0 := 1) (pc' := 13) rfl (b d59_1) rfl ((if0 _ _).trans (flt (own_ltF (a := kn) (b := 0) (show ¬ kn < 0 by omega) (by omega))).2.1) (by decide) (by decide) ?_
      refine XS.aloadN X0.here hx rfl (b d59_13) rfl rfl ?_
      refine XS.iloadN X0.here hx rfl (b d59_14) rfl ?_
      refine st12 _ ?_
      show Sp p e below T12 (mkF m 18 #[vr r0, vi (Int32.ofNat kn)] []) t
      refine XS.aloadN X12.here hx rfl (b d59_18) rfl rfl ?_
      refine st13 _ ?_
      show Sp p e below T13 (mkF m 22 #[vr r0, vi (Int32.ofNat kn)] [(.int (Int32.ofNat li.length))]) t
      refine XS.iloadN X13.here hx rfl (b d59_22) rfl ?_
      show Sp p e below T13 (mkF m 23 #[vr r0, vi (Int32.ofNat kn)] [(.int (Int32.ofNat kn)), (.int (Int32.ofNat li.length))]) t
      refine XS.icmpYes X13.here hx rfl (pc0 := 23) (pc' := 63) rfl (b d59_23) rfl (flt (own_ltF (a := li.length) (b := kn) (show ¬ li.length < kn by omega) (by omega))).2.1 (by decide) (by decide) ?_
      refine XS.aloadN X13.here hx rfl (b d59_63) rfl rfl ?_
      refine st14 _ ?_
      show Sp p e below T14 (mkF m 67 #[vr r0, vi (Int32.ofNat kn)] [(.int (Int32.ofNat li.length))]) t
      refine XS.iloadN X14.here hx rfl (b d59_67) rfl ?_
      show Sp p e below T14 (mkF m 68 #[vr r0, vi (Int32.ofNat kn)] [(.int (Int32.ofNat kn)), (.int (Int32.ofNat li.length))]) t
      refine XS.icmpNo X14.here hx rfl (b d59_68) rfl (tlt (own_ltT (a := kn) (b := li.length) (show kn < li.length by omega) (by omega))).2.2.2 ?_
      refine XS.aloadN X14.here hx rfl (b d59_71) rfl rfl ?_
      refine XS.iconst X14.here hx rfl (b d59_72) ?_
      refine st15 _ ?_
      show Sp p e below T15 (mkF m 76 #[vr r0, vi (Int32.ofNat kn)] []) t
      refine XS.aloadN X15.here hx rfl (b d59_76) rfl rfl ?_
      refine XS.iloadN X15.here hx rfl (b d59_77) rfl ?_
      refine st18 _ ?_
      exact k)
    exact own_end X18 hlk (v := none) (fun _ => rfl) pre21 (fun fs hr => X18.returnOut hx hret (b d59_81) hr) (by rw [e18]; exact ⟨rfl, N18, K18, Sb.mk' f19_1 f19_2 f19_3 Fw18 f19_5 f19_6 f19_7 (by rw [List.length_take]; omega) (own_Codt kn hcod1) (by rw [List.length_take]; omega) (by omega)⟩)
abbrev C58 := jdk_67_method_89_code
theorem d58_0 : dk C58 0 (.aload_n 0) 1 := by decide +kernel
theorem d58_1 : dk C58 1 (.iload_n 1) 1 := by decide +kernel
theorem d58_2 : dk C58 2 (.invokespecial 333) 3 := by decide +kernel
theorem d58_5 : dk C58 5 .return_ 1 := by decide +kernel
def Q_ssl (Z : State) (r0 : Addr) (kn : Nat) (ta : Addr) (cap : Nat) (li : List Int32) (h0 : Heap) (n0 : Nat) (v : Option Value) (h : Heap) (L : List Loc) : Prop := v = none ∧ Fr n0 L ∧ Keep h0 h [r0] ∧ Sb Z h r0 ta cap (li.take kn)
theorem rm_ssl (l : Launch) (Z : State) (a0 : Array Value) (hw : Hw a0 Z) (r0 : Addr) (kn : Nat) (ta : Addr) (cap : Nat) (li : List Int32) (h0 : Heap) (n0 : Nat) (Z0 : n0 ≤ h0.size) (hst : own_St Z) (X00 : Old Z n0 h0) (B_r0 : Sb Z h0 r0 ta cap li) (g_r0 : n0 ≤ r0) (hk : kn < li.length) : Mt l (⟨"java/lang/StringBuilder", "setLength", "(I)V"⟩ : MethodName) C58 2 none ({ frames := 2, cells := 0, slots := 0, locals := 27 } : Room) #[(.ref r0), (.int (Int32.ofNat kn))] Z h0 (Q_ssl Z r0 kn ta cap li h0 n0) := by
  have w := own_w hw
  refine own_go (L0 := #[vr r0, vi (Int32.ofNat kn)]) n0 (plainFor_of_name own_pn27) (fun m => rfl) fun p e s m below meth c s₁ E0 hx b hml hown hnm hret hlk hZ X0 e0 N0 pre0 => ?_
  have K0 : Keep h0 h0 [r0] := Keep.refl h0 _
  obtain ⟨_, T1, L1, X1, hQ1, st1⟩ := own_cU X0 hx hml hZ hown (rm_bsl l Z a0 hw r0 kn ta cap li h0 n0 Z0 hst X00 B_r0 g_r0 (by omega)) (w 289 rfl) (w 290 rfl) (w 98 rfl) (w 292 rfl) (own_same (y' := yIL) (by decide) (w 291 rfl) (w 144 rfl) (w 143 rfl) rfl) (w 113 rfl) (by decide) (B_r0.exa) e0 (g := (mkF m 2 #[vr r0, vi (Int32.ofNat kn)] [(.int (Int32.ofNat kn)), (.ref r0)])) (argsL := [(.int (Int32.ofNat kn))]) (rest := []) (W := 0) (lenOf own_pd28 rfl) (b d58_2)
  obtain ⟨rfl, Nq1, Kq1, Bq1⟩ := hQ1
  have N1 := Fr.app N0 Nq1
  have od2 := X00.keep Kq1 (allS g_r0 all0)
  have Z1 : n0 ≤ T1.heap.size := Nat.le_trans Z0 Kq1.1
  have K1 := K0.trans Kq1 (allS (Or.inl (by simp)) all0)
  have pre4 : Pr p e below s₁ E0 T1 (mkF m 5 #[vr r0, vi (Int32.ofNat kn)] []) := fun t k => pre0 t (by
    refine XS.aloadN X0.here hx rfl (b d58_0) rfl rfl ?_
    refine XS.iloadN X0.here hx rfl (b d58_1) rfl ?_
    refine st1 _ ?_
    exact k)
  exact own_end X1 hlk (v := none) (fun _ => rfl) pre4 (fun fs hr => X1.returnOut hx hret (b d58_5) hr) ⟨rfl, N1, K1, Bq1⟩
abbrev C33 := jdk_68_method_31_code
theorem d33_0 : dk C33 0 (.aload_n 0) 1 := by decide +kernel
theorem d33_1 : dk C33 1 (.aload_n 0) 1 := by decide +kernel
theorem d33_2 : dk C33 2 (.getfield 79) 3 := by decide +kernel
theorem d33_5 : dk C33 5 (.iconst 1) 1 := by decide +kernel
theorem d33_6 : dk C33 6 .iadd 1 := by decide +kernel
theorem d33_7 : dk C33 7 (.invokevirtual 100) 3 := by decide +kernel
theorem d33_10 : dk C33 10 (.aload_n 0) 1 := by decide +kernel
theorem d33_11 : dk C33 11 (.invokevirtual 83) 3 := by decide +kernel
theorem d33_14 : dk C33 14 (.ifCond .eq 31) 3 := by decide +kernel
theorem d33_17 : dk C33 17 (.iload_n 1) 1 := by decide +kernel
theorem d33_18 : dk C33 18 (.invokestatic 191) 3 := by decide +kernel
theorem own_pd30 : parseMethodDescriptor "(C)Z" = some ⟨[.char], some .boolean⟩ := by decide +kernel
theorem d33_21 : dk C33 21 (.ifCond .eq 24) 3 := by decide +kernel
theorem d33_45 : dk C33 45 (.aload_n 0) 1 := by decide +kernel
theorem d33_46 : dk C33 46 (.invokevirtual 83) 3 := by decide +kernel
theorem d33_49 : dk C33 49 (.ifCond .eq 7) 3 := by decide +kernel
theorem d33_52 : dk C33 52 (.aload_n 0) 1 := by decide +kernel
theorem d33_53 : dk C33 53 (.invokevirtual 195) 3 := by decide +kernel
theorem own_pd31 : parseMethodDescriptor "()V" = some ⟨[], none⟩ := by decide +kernel
theorem d33_56 : dk C33 56 (.aload_n 0) 1 := by decide +kernel
theorem d33_57 : dk C33 57 (.getfield 15) 3 := by decide +kernel
theorem d33_60 : dk C33 60 (.aload_n 0) 1 := by decide +kernel
theorem d33_61 : dk C33 61 .dup 1 := by decide +kernel
theorem d33_62 : dk C33 62 (.getfield 79) 3 := by decide +kernel
theorem d33_65 : dk C33 65 .dup_x1 1 := by decide +kernel
theorem d33_66 : dk C33 66 (.iconst 1) 1 := by decide +kernel
theorem d33_67 : dk C33 67 .iadd 1 := by decide +kernel
theorem d33_68 : dk C33 68 (.putfield 79) 3 := by decide +kernel
theorem d33_71 : dk C33 71 (.iload_n 1) 1 := by decide +kernel
theorem d33_72 : dk C33 72 (.invokestatic 197) 3 := by decide +kernel
theorem d33_75 : dk C33 75 (.aload_n 0) 1 := by decide +kernel
theorem d33_76 : dk C33 76 .areturn 1 := by decide +kernel
theorem d33_24 : dk C33 24 (.aload_n 0) 1 := by decide +kernel
theorem d33_25 : dk C33 25 (.getfield 15) 3 := by decide +kernel
theorem d33_28 : dk C33 28 (.aload_n 0) 1 := by decide +kernel
theorem d33_29 : dk C33 29 .dup 1 := by decide +kernel
theorem d33_30 : dk C33 30 (.getfield 79) 3 := by decide +kernel
theorem d33_33 : dk C33 33 .dup_x1 1 := by decide +kernel
theorem d33_34 : dk C33 34 (.iconst 1) 1 := by decide +kernel
theorem d33_35 : dk C33 35 .iadd 1 := by decide +kernel
theorem d33_36 : dk C33 36 (.putfield 79) 3 := by decide +kernel
theorem d33_39 : dk C33 39 (.iload_n 1) 1 := by decide +kernel
theorem d33_40 : dk C33 40 .i2b 1 := by decide +kernel
theorem d33_41 : dk C33 41 .bastore 1 := by decide +kernel
theorem d33_42 : dk C33 42 (.goto 33) 3 := by decide +kernel
def Q_bac (Z : State) (r0 : Addr) (p1 : Int32) (ta : Addr) (cap : Nat) (li : List Int32) (h0 : Heap) (n0 : Nat) (v : Option Value) (h : Heap) (L : List Loc) : Prop := v = some (.ref r0) ∧ Fr n0 L ∧ Keep h0 h [r0, ta] ∧ ∃ tn, (tn = ta ∨ h0.size ≤ tn) ∧ Sb Z h r0 tn cap (li ++ [p1])
theorem rm_bac (l : Launch) (Z : State) (a0 : Array Value) (hw : Hw a0 Z) (r0 : Addr) (p1 : Int32) (ta : Addr) (cap : Nat) (li : List Int32) (h0 : Heap) (n0 : Nat) (Z0 : n0 ≤ h0.size) (hst : own_St Z) (X00 : Old Z n0 h0) (B_r0 : Sb Z h0 r0 ta cap li) (g_r0 : n0 ≤ r0) (g_ta : n0 ≤ ta) (hk : li.length < cap) (hc : Chr p1) : Mt l (⟨"java/lang/AbstractStringBuilder", "append", "(C)Ljava/lang/AbstractStringBuilder;"⟩ : MethodName) C33 2 (some (.object "java/lang/AbstractStringBuilder")) ({ frames := 6, cells := 1, slots := 10, locals := 89 } : Room) #[(.ref r0), (.int p1)] Z h0 (Q_bac Z r0 p1 ta cap li h0 n0) := by
  have w := own_w hw
  refine own_go (L0 := #[vr r0, vi p1]) n0 (plainFor_of_name own_pn25) (fun m => rfl) fun p e s m below meth c s₁ E0 hx b hml hown hnm hret hlk hZ X0 e0 N0 pre0 => ?_
  have K0 : Keep h0 h0 [r0, ta] := Keep.refl h0 _
  obtain ⟨cd1, ml1, N1, f1, E1, Fc1, Fv1, Fk1, Fm1, Y1, Ey1, hcod1, hle1, h51⟩ := id B_r0
  rcases hcod1.cd with rfl | rfl
  · obtain ⟨rfl, hch1, hE1⟩ := hcod1.latB
    obtain ⟨T2, X2, e2, st2⟩ := getF X0 hx hZ hown (host := "") (Or.inl (w 128 rfl)) Via.refl e0 Fk1 (g := (mkF m 2 #[vr r0, vi p1] [(.ref r0), (.ref r0)])) rfl rfl (b d33_2)
    obtain ⟨_, T3, L3, X3, hQ3, st3⟩ := own_cV X2 hx hml hZ hown (rm_eci0 l Z a0 hw r0 (li.length + 1) ta cap f1 h0 n0 Z0 Fc1 Fv1 Y1 (by omega) (by omega)) (w 130 rfl) (w 131 rfl) (w 98 rfl) (w 134 rfl) (own_decl (w 131 rfl) (w 134 rfl)) (w 133 rfl) (own_nfS hZ (w 133 rfl)) E1 e2 (g := (mkF m 7 #[vr r0, vi p1] [(.int (Int32.ofNat (li.length + 1))), (.ref r0)])) (argsL := [(.int (Int32.ofNat (li.length + 1)))]) (rest := []) (W := 0) (lenOf own_pd28 rfl) (b d33_7)
    obtain ⟨rfl, Nq3, e3⟩ := hQ3
    have N3 := Fr.app N0 Nq3
    obtain ⟨_, T4, L4, X4, hQ4, st4⟩ := own_cV X3 hx hml hZ hown (rm_il0 l Z a0 hw r0 h0 n0 Z0 hst X00 Fc1) (w 141 rfl) (w 143 rfl) (w 98 rfl) (w 145 rfl) (w 142 rfl) (w 144 rfl) (own_nfS hZ (w 144 rfl)) E1 e3 (g := (mkF m 11 #[vr r0, vi p1] [(.ref r0)])) (argsL := []) (rest := []) (W := 0) (lenOf own_pd17 rfl) (b d33_11)
    obtain ⟨rfl, Nq4, e4⟩ := hQ4
    have N4 := Fr.app N3 Nq4
    obtain ⟨_, T5, L5, X5, hQ5, st5⟩ := own_cS X4 hx hml hZ hown (rm_ce l Z a0 hw p1 h0 n0 Z0) (w 174 rfl) (w 175 rfl) (w 64 rfl) (w 176 rfl) e4 (g := (mkF m 18 #[vr r0, vi p1] [(.int p1)])) (argsL := [(.int p1)]) (rest := []) (W := 0) (lenOf own_pd30 rfl) (b d33_18)
    obtain ⟨rfl, Nq5, e5⟩ := hQ5
    have N5 := Fr.app N4 Nq5
    have pre7 : Pr p e below s₁ E0 T5 (mkF m 21 #[vr r0, vi p1] [(.int (fn_ce p1))]) := fun t k => pre0 t (by
      refine XS.aloadN X0.here hx rfl (b d33_0) rfl rfl ?_
      refine XS.aloadN X0.here hx rfl (b d33_1) rfl rfl ?_
      refine st2 _ ?_
      show Sp p e below T2 (mkF m 5 #[vr r0, vi p1] [(.int (Int32.ofNat li.length)), (.ref r0)]) t
      refine XS.iconst X2.here hx rfl (b d33_5) ?_
      refine XS.iadd X2.here hx rfl (b d33_6) rfl ?_
      show Sp p e below T2 (mkF m 7 #[vr r0, vi p1] [(.int ((Int32.ofNat li.length) + (1 : Int32))), (.ref r0)]) t
      rw [own_a1 li.length]
      show Sp p e below T2 (mkF m 7 #[vr r0, vi p1] [(.int (Int32.ofNat (li.length + 1))), (.ref r0)]) t
      refine st3 _ ?_
      show Sp p e below T3 (mkF m 10 #[vr r0, vi p1] []) t
      refine XS.aloadN X3.here hx rfl (b d33_10) rfl rfl ?_
      refine st4 _ ?_
      show Sp p e below T4 (mkF m 14 #[vr r0, vi p1] [(.int (1 : Int32))]) t
      refine XS.ifNo X4.here hx rfl (b d33_14) rfl ((if0 _ _).trans (feq (by decide : ¬ ((1 : Int32) = (0 : Int32)))).1) ?_
      refine XS.iloadN X4.here hx rfl (b d33_17) rfl ?_
      refine st5 _ ?_
      exact k)
    by_cases hc6 : (fn_ce p1) = (0 : Int32)
    · obtain ⟨_, T8, L8, X8, hQ8, st8⟩ := own_cV X5 hx hml hZ hown (rm_il0 l Z a0 hw r0 h0 n0 Z0 hst X00 Fc1) (w 141 rfl) (w 143 rfl) (w 98 rfl) (w 145 rfl) (w 142 rfl) (w 144 rfl) (own_nfS hZ (w 144 rfl)) E1 e5 (g := (mkF m 46 #[vr r0, vi p1] [(.ref r0)])) (argsL := []) (rest := []) (W := 0) (lenOf own_pd17 rfl) (b d33_46)
      obtain ⟨rfl, Nq8, e8⟩ := hQ8
      have N8 := Fr.app N5 Nq8
      obtain ⟨_, T9, L9, X9, hQ9, st9⟩ := own_cV X8 hx hml hZ hown (rm_inf l Z a0 hw r0 ta li.length ml1 cap f1 h0 n0 Z0 hst X00 E1 Fc1 Fv1 Fk1 Fm1 Y1 Ey1 g_r0 g_ta (by omega) (by omega)) (w 257 rfl) (w 258 rfl) (w 98 rfl) (w 261 rfl) (own_decl (w 258 rfl) (w 261 rfl)) (w 260 rfl) (own_nfS hZ (w 260 rfl)) E1 e8 (g := (mkF m 53 #[vr r0, vi p1] [(.ref r0)])) (argsL := []) (rest := []) (W := 0) (lenOf own_pd31 rfl) (b d33_53)
      obtain ⟨rfl, Nq9, Kq9, t9, g9, szq9, Eq9, Fq9c, Fq9v, Fq9k, Fq9m, Yq9, Exq9, hq9⟩ := hQ9
      have N9 := Fr.app N8 Nq9
      have od10 := X00.keep Kq9 (allS g_r0 all0)
      have f10_1 := E1.keep Kq9
      have f10_6 := Y1.keep Kq9 (ninS (Ne.symm (own_neY E1 (w 89 rfl) Y1)) nin0)
      have f10_7 := Ey1.keep Kq9
      have Z9 : n0 ≤ T9.heap.size := Nat.le_trans Z0 Kq9.1
      have K9 := K0.trans Kq9 (allS (Or.inl (by simp)) all0)
      have ne_r0_t9 : r0 ≠ t9 := Nat.ne_of_lt (Nat.lt_of_lt_of_le E1.lt szq9)
      have ne_ta_t9 : ta ≠ t9 := Nat.ne_of_lt (Nat.lt_of_lt_of_le Y1.lt szq9)
      have sz_t9 : h0.size ≤ t9 := Nat.le_trans K0.1 szq9
      have g_t9 : n0 ≤ t9 := Nat.le_trans Z0 szq9
      obtain ⟨T12, X12, e12, st12⟩ := getF X9 hx hZ hown (host := "") (Or.inl (w 102 rfl)) Via.refl rfl Fq9v (g := (mkF m 57 #[vr r0, vi p1] [(.ref r0)])) rfl rfl (b d33_57)
      obtain ⟨T13, X13, e13, st13⟩ := getF X12 hx hZ hown (host := "") (Or.inl (w 128 rfl)) Via.refl e12 Fq9k (g := (mkF m 62 #[vr r0, vi p1] [(.ref r0), (.ref r0), (.ref t9)])) rfl rfl (b d33_62)
      obtain ⟨T14, h14, X14, e14, W14, st14⟩ := putF X13 hx hZ hown (host := "") (Or.inl (w 128 rfl)) Via.refl e13 Fq9k Eq9 (Or.inl (w 129 rfl)) (w 89 rfl) (ty := .int) (by decide) rfl rfl (g := (mkF m 68 #[vr r0, vi p1] [(.int (Int32.ofNat (li.length + 1))), (.ref r0), (.int (Int32.ofNat li.length)), (.ref t9)])) rfl rfl (b d33_68)
      have Fw14 := Fq9k.same W14
      have od15 := od10.wr W14 g_r0
      have f15_1 := Eq9.wr W14
      have f15_2 := f10_6.other W14 (Ne.symm (own_neY Eq9 (w 89 rfl) f10_6))
      have f15_3 := f10_7.wr W14
      have f15_4 := Fq9c.other W14 (Or.inr (slot_ne (Or.inl (w 105 rfl)) (Or.inl (w 129 rfl)) (by decide) (t := .byte) (t' := .int) (by decide) (by decide)))
      have f15_5 := Fq9v.other W14 (Or.inr (slot_ne (Or.inl (w 103 rfl)) (Or.inl (w 129 rfl)) (by decide) (t := (.array .byte)) (t' := .int) (by decide) (by decide)))
      have f15_7 := Fq9m.other W14 (Or.inr (slot_ne (Or.inl (w 283 rfl)) (Or.inl (w 129 rfl)) (by decide) (t := .boolean) (t' := .int) (by decide) (by decide)))
      have f15_8 := Yq9.other W14 (Ne.symm ne_r0_t9)
      have f15_9 := Exq9.wr W14
      have N14 := Fr.snoc X14 N9 g_r0
      have Z14 : n0 ≤ h14.size := Nat.le_trans Z9 (Keep.of_wr W14).1
      have K14 := K9.wr W14 (Or.inl (by simp))
      obtain ⟨_, T17, L17, X17, hQ17, st17⟩ := own_cS X14 hx hml hZ hown (rm_psb l Z a0 hw t9 p1 li.length cap g9 h14 n0 Z14 hst od15 f15_8 (by omega) (by omega) g_t9) (w 279 rfl) (w 280 rfl) (w 25 rfl) (w 281 rfl) e14 (g := (mkF m 72 #[vr r0, vi p1] [(.int p1), (.int (Int32.ofNat li.length)), (.ref t9)])) (argsL := [(.ref t9), (.int (Int32.ofNat li.length)), (.int p1)]) (rest := []) (W := 0) (lenOf own_pd6 rfl) (b d33_72)
      obtain ⟨rfl, Nq17, Kq17, Yq17⟩ := hQ17
      have N17 := Fr.app N14 Nq17
      have od18 := od15.keep Kq17 (allS g_t9 all0)
      have f18_1 := f15_1.keep Kq17
      have f18_2 := f15_2.keep Kq17 (ninS ne_ta_t9 nin0)
      have f18_3 := f15_3.keep Kq17
      have f18_4 := f15_4.keep Kq17 (ninS ne_r0_t9 nin0)
      have f18_5 := f15_5.keep Kq17 (ninS ne_r0_t9 nin0)
      have f18_6 := Fw14.keep Kq17 (ninS ne_r0_t9 nin0)
      have f18_7 := f15_7.keep Kq17 (ninS ne_r0_t9 nin0)
      have f18_9 := f15_9.keep Kq17
      have Z17 : n0 ≤ T17.heap.size := Nat.le_trans Z14 Kq17.1
      have K17 := K14.trans Kq17 (allS (Or.inr sz_t9) all0)
      have pre20 : Pr p e below s₁ E0 T17 (mkF m 76 #[vr r0, vi p1] [(.ref r0)]) := fun t k => pre7 t (by
        refine XS.ifYes X5.here hx rfl (pc0 := 21) (pc' := 45) rfl (b d33_21) rfl ((if0 _ _).trans (teq hc6).1) (by decide) (by decide) ?_
        refine XS.aloadN X5.here hx rfl (b d33_45) rfl rfl ?_
        refine st8 _ ?_
        show Sp p e below T8 (mkF m 49 #[vr r0, vi p1] [(.int (1 : Int32))]) t
        refine XS.ifNo X8.here hx rfl (b d33_49) rfl ((if0 _ _).trans (feq (by decide : ¬ ((1 : Int32) = (0 : Int32)))).1) ?_
        refine XS.aloadN X8.here hx rfl (b d33_52) rfl rfl ?_
        refine st9 _ ?_
        show Sp p e below T9 (mkF m 56 #[vr r0, vi p1] []) t
        refine XS.aloadN X9.here hx rfl (b d33_56) rfl rfl ?_
        refine st12 _ ?_
        show Sp p e below T12 (mkF m 60 #[vr r0, vi p1] [(.ref t9)]) t
        refine XS.aloadN X12.here hx rfl (b d33_60) rfl rfl ?_
        refine XS.dup X12.here hx rfl (b d33_61) rfl rfl ?_
        refine st13 _ ?_
        show Sp p e below T13 (mkF m 65 #[vr r0, vi p1] [(.int (Int32.ofNat li.length)), (.ref r0), (.ref t9)]) t
        refine XS.dupX1 X13.here hx rfl (b d33_65) rfl rfl rfl ?_
        refine XS.iconst X13.here hx rfl (b d33_66) ?_
        refine XS.iadd X13.here hx rfl (b d33_67) rfl ?_
        show Sp p e below T13 (mkF m 68 #[vr r0, vi p1] [(.int ((Int32.ofNat li.length) + (1 : Int32))), (.ref r0), (.int (Int32.ofNat li.length)), (.ref t9)]) t
        rw [own_a1 li.length]
        show Sp p e below T13 (mkF m 68 #[vr r0, vi p1] [(.int (Int32.ofNat (li.length + 1))), (.ref r0), (.int (Int32.ofNat li.length)), (.ref t9)]) t
        refine st14 _ ?_
        show Sp p e below T14 (mkF m 71 #[vr r0, vi p1] [(.int (Int32.ofNat li.length)), (.ref t9)]) t
        refine XS.iloadN X14.here hx rfl (b d33_71) rfl ?_
        refine st17 _ ?_
        show Sp p e below T17 (mkF m 75 #[vr r0, vi p1] []) t
        refine XS.aloadN X17.here hx rfl (b d33_75) rfl rfl ?_
        exact k)
      exact own_end X17 hlk (v := some (.ref r0)) (own_hv hret) pre20 (fun fs hr => own_ra X17 hx hret rfl (b d33_76) hr) ⟨rfl, N17, K17, t9, Or.inr sz_t9, Sb.mk' f18_1 f18_4 f18_5 f18_6 f18_7 Yq17 f18_9 (by rw [List.length_append]; rfl) (Cod.ofU rfl (own_Chsa hch1 hc) (own_EUa (own_inf hE1 hch1 hq9))) (by rw [List.length_append]; exact hk) (by omega)⟩
    · obtain ⟨T21, X21, e21, st21⟩ := getF X5 hx hZ hown (host := "") (Or.inl (w 102 rfl)) Via.refl e5 Fv1 (g := (mkF m 25 #[vr r0, vi p1] [(.ref r0)])) rfl rfl (b d33_25)
      obtain ⟨T22, X22, e22, st22⟩ := getF X21 hx hZ hown (host := "") (Or.inl (w 128 rfl)) Via.refl e21 Fk1 (g := (mkF m 30 #[vr r0, vi p1] [(.ref r0), (.ref r0), (.ref ta)])) rfl rfl (b d33_30)
      obtain ⟨T23, h23, X23, e23, W23, st23⟩ := putF X22 hx hZ hown (host := "") (Or.inl (w 128 rfl)) Via.refl e22 Fk1 E1 (Or.inl (w 129 rfl)) (w 89 rfl) (ty := .int) (by decide) rfl rfl (g := (mkF m 36 #[vr r0, vi p1] [(.int (Int32.ofNat (li.length + 1))), (.ref r0), (.int (Int32.ofNat li.length)), (.ref ta)])) rfl rfl (b d33_36)
      have Fw23 := Fk1.same W23
      have od24 := X00.wr W23 g_r0
      have f24_1 := E1.wr W23
      have f24_2 := Fc1.other W23 (Or.inr (slot_ne (Or.inl (w 105 rfl)) (Or.inl (w 129 rfl)) (by decide) (t := .byte) (t' := .int) (by decide) (by decide)))
      have f24_3 := Fv1.other W23 (Or.inr (slot_ne (Or.inl (w 103 rfl)) (Or.inl (w 129 rfl)) (by decide) (t := (.array .byte)) (t' := .int) (by decide) (by decide)))
      have f24_5 := Fm1.other W23 (Or.inr (slot_ne (Or.inl (w 283 rfl)) (Or.inl (w 129 rfl)) (by decide) (t := .boolean) (t' := .int) (by decide) (by decide)))
      have f24_6 := Y1.other W23 (Ne.symm (own_neY E1 (w 89 rfl) Y1))
      have f24_7 := Ey1.wr W23
      have N23 := Fr.snoc X23 N5 g_r0
      have Z23 : n0 ≤ h23.size := Nat.le_trans Z0 (Keep.of_wr W23).1
      have K23 := K0.wr W23 (Or.inl (by simp))
      obtain ⟨qn26, cl26, Ar26, S26, H26⟩ := id f24_6
      obtain ⟨T27, h27, X27, e27, W27, st27⟩ := stB X23 hx hZ e23 Ar26 (j := (Int32.ofNat li.length)) (own_in qn26 S26 (show li.length < cap by omega)) (g := (mkF m 41 #[vr r0, vi p1] [(.int (p1.toInt8.toInt32)), (.int (Int32.ofNat li.length)), (.ref ta)])) rfl rfl (b d33_41)
      have Y27 : Ay Z h27 ta .byte cap (fun x => if x = li.length then (nar .byte (p1.toInt8.toInt32)) else f1 x) := Ay.put qn26 Ar26 S26 H26 (show li.length < cap by omega) W27 (fits_nar_byte _)
      have od28 := od24.wr W27 g_ta
      have f28_1 := f24_1.wr W27
      have f28_2 := f24_2.other W27 (Or.inl (own_neY f24_1 (w 89 rfl) f24_6))
      have f28_3 := f24_3.other W27 (Or.inl (own_neY f24_1 (w 89 rfl) f24_6))
      have f28_4 := Fw23.other W27 (Or.inl (own_neY f24_1 (w 89 rfl) f24_6))
      have f28_5 := f24_5.other W27 (Or.inl (own_neY f24_1 (w 89 rfl) f24_6))
      have f28_7 := f24_7.wr W27
      have N27 := Fr.snoc X27 N23 g_ta
      have Z27 : n0 ≤ h27.size := Nat.le_trans Z23 (Keep.of_wr W27).1
      have K27 := K23.wr W27 (Or.inl (by simp))
      have pre30 : Pr p e below s₁ E0 T27 (mkF m 76 #[vr r0, vi p1] [(.ref r0)]) := fun t k => pre7 t (by
        refine XS.ifNo X5.here hx rfl (b d33_21) rfl ((if0 _ _).trans (feq hc6).1) ?_
        refine XS.aloadN X5.here hx rfl (b d33_24) rfl rfl ?_
        refine st21 _ ?_
        show Sp p e below T21 (mkF m 28 #[vr r0, vi p1] [(.ref ta)]) t
        refine XS.aloadN X21.here hx rfl (b d33_28) rfl rfl ?_
        refine XS.dup X21.here hx rfl (b d33_29) rfl rfl ?_
        refine st22 _ ?_
        show Sp p e below T22 (mkF m 33 #[vr r0, vi p1] [(.int (Int32.ofNat li.length)), (.ref r0), (.ref ta)]) t
        refine XS.dupX1 X22.here hx rfl (b d33_33) rfl rfl rfl ?_
        refine XS.iconst X22.here hx rfl (b d33_34) ?_
        refine XS.iadd X22.here hx rfl (b d33_35) rfl ?_
        show Sp p e below T22 (mkF m 36 #[vr r0, vi p1] [(.int ((Int32.ofNat li.length) + (1 : Int32))), (.ref r0), (.int (Int32.ofNat li.length)), (.ref ta)]) t
        rw [own_a1 li.length]
        show Sp p e below T22 (mkF m 36 #[vr r0, vi p1] [(.int (Int32.ofNat (li.length + 1))), (.ref r0), (.int (Int32.ofNat li.length)), (.ref ta)]) t
        refine st23 _ ?_
        show Sp p e below T23 (mkF m 39 #[vr r0, vi p1] [(.int (Int32.ofNat li.length)), (.ref ta)]) t
        refine XS.iloadN X23.here hx rfl (b d33_39) rfl ?_
        refine XS.i2b X23.here hx rfl (b d33_40) rfl ?_
        refine st27 _ ?_
        show Sp p e below T27 (mkF m 42 #[vr r0, vi p1] []) t
        refine XS.goto X27.here hx rfl (pc0 := 42) (pc' := 75) rfl (b d33_42) (by decide) (by decide) ?_
        refine XS.aloadN X27.here hx rfl (b d33_75) rfl rfl ?_
        exact k)
      exact own_end X27 hlk (v := some (.ref r0)) (own_hv hret) pre30 (fun fs hr => own_ra X27 hx hret rfl (b d33_76) hr) (by rw [e27]; exact ⟨rfl, N27, K27, ta, Or.inl rfl, Sb.mk' f28_1 f28_2 f28_3 f28_4 f28_5 Y27 f28_7 (by rw [List.length_append]; rfl) (Cod.ofL rfl (own_Chsa hch1 hc) (own_ELa hE1 (own_ceF hc6))) (by rw [List.length_append]; exact hk) (by omega)⟩)
  · obtain ⟨rfl, hch1, hE1⟩ := hcod1.wid
    obtain ⟨T31, X31, e31, st31⟩ := getF X0 hx hZ hown (host := "") (Or.inl (w 128 rfl)) Via.refl e0 Fk1 (g := (mkF m 2 #[vr r0, vi p1] [(.ref r0), (.ref r0)])) rfl rfl (b d33_2)
    obtain ⟨_, T32, L32, X32, hQ32, st32⟩ := own_cV X31 hx hml hZ hown (rm_eci1 l Z a0 hw r0 (li.length + 1) ta cap f1 h0 n0 Z0 Fc1 Fv1 Y1 (by omega) (by omega)) (w 130 rfl) (w 131 rfl) (w 98 rfl) (w 134 rfl) (own_decl (w 131 rfl) (w 134 rfl)) (w 133 rfl) (own_nfS hZ (w 133 rfl)) E1 e31 (g := (mkF m 7 #[vr r0, vi p1] [(.int (Int32.ofNat (li.length + 1))), (.ref r0)])) (argsL := [(.int (Int32.ofNat (li.length + 1)))]) (rest := []) (W := 0) (lenOf own_pd28 rfl) (b d33_7)
    obtain ⟨rfl, Nq32, e32⟩ := hQ32
    have N32 := Fr.app N0 Nq32
    obtain ⟨_, T33, L33, X33, hQ33, st33⟩ := own_cV X32 hx hml hZ hown (rm_il1 l Z a0 hw r0 h0 n0 Z0 hst X00 Fc1) (w 141 rfl) (w 143 rfl) (w 98 rfl) (w 145 rfl) (w 142 rfl) (w 144 rfl) (own_nfS hZ (w 144 rfl)) E1 e32 (g := (mkF m 11 #[vr r0, vi p1] [(.ref r0)])) (argsL := []) (rest := []) (W := 0) (lenOf own_pd17 rfl) (b d33_11)
    obtain ⟨rfl, Nq33, e33⟩ := hQ33
    have N33 := Fr.app N32 Nq33
    obtain ⟨_, T34, L34, X34, hQ34, st34⟩ := own_cV X33 hx hml hZ hown (rm_il1 l Z a0 hw r0 h0 n0 Z0 hst X00 Fc1) (w 141 rfl) (w 143 rfl) (w 98 rfl) (w 145 rfl) (w 142 rfl) (w 144 rfl) (own_nfS hZ (w 144 rfl)) E1 e33 (g := (mkF m 46 #[vr r0, vi p1] [(.ref r0)])) (argsL := []) (rest := []) (W := 0) (lenOf own_pd17 rfl) (b d33_46)
    obtain ⟨rfl, Nq34, e34⟩ := hQ34
    have N34 := Fr.app N33 Nq34
    obtain ⟨T35, X35, e35, st35⟩ := getF X34 hx hZ hown (host := "") (Or.inl (w 102 rfl)) Via.refl e34 Fv1 (g := (mkF m 57 #[vr r0, vi p1] [(.ref r0)])) rfl rfl (b d33_57)
    obtain ⟨T36, X36, e36, st36⟩ := getF X35 hx hZ hown (host := "") (Or.inl (w 128 rfl)) Via.refl e35 Fk1 (g := (mkF m 62 #[vr r0, vi p1] [(.ref r0), (.ref r0), (.ref ta)])) rfl rfl (b d33_62)
    obtain ⟨T37, h37, X37, e37, W37, st37⟩ := putF X36 hx hZ hown (host := "") (Or.inl (w 128 rfl)) Via.refl e36 Fk1 E1 (Or.inl (w 129 rfl)) (w 89 rfl) (ty := .int) (by decide) rfl rfl (g := (mkF m 68 #[vr r0, vi p1] [(.int (Int32.ofNat (li.length + 1))), (.ref r0), (.int (Int32.ofNat li.length)), (.ref ta)])) rfl rfl (b d33_68)
    have Fw37 := Fk1.same W37
    have od38 := X00.wr W37 g_r0
    have f38_1 := E1.wr W37
    have f38_2 := Fc1.other W37 (Or.inr (slot_ne (Or.inl (w 105 rfl)) (Or.inl (w 129 rfl)) (by decide) (t := .byte) (t' := .int) (by decide) (by decide)))
    have f38_3 := Fv1.other W37 (Or.inr (slot_ne (Or.inl (w 103 rfl)) (Or.inl (w 129 rfl)) (by decide) (t := (.array .byte)) (t' := .int) (by decide) (by decide)))
    have f38_5 := Fm1.other W37 (Or.inr (slot_ne (Or.inl (w 283 rfl)) (Or.inl (w 129 rfl)) (by decide) (t := .boolean) (t' := .int) (by decide) (by decide)))
    have f38_6 := Y1.other W37 (Ne.symm (own_neY E1 (w 89 rfl) Y1))
    have f38_7 := Ey1.wr W37
    have N37 := Fr.snoc X37 N34 g_r0
    have Z37 : n0 ≤ h37.size := Nat.le_trans Z0 (Keep.of_wr W37).1
    have K37 := K0.wr W37 (Or.inl (by simp))
    obtain ⟨_, T40, L40, X40, hQ40, st40⟩ := own_cS X37 hx hml hZ hown (rm_psb l Z a0 hw ta p1 li.length cap f1 h37 n0 Z37 hst od38 f38_6 (by omega) (by omega) g_ta) (w 279 rfl) (w 280 rfl) (w 25 rfl) (w 281 rfl) e37 (g := (mkF m 72 #[vr r0, vi p1] [(.int p1), (.int (Int32.ofNat li.length)), (.ref ta)])) (argsL := [(.ref ta), (.int (Int32.ofNat li.length)), (.int p1)]) (rest := []) (W := 0) (lenOf own_pd6 rfl) (b d33_72)
    obtain ⟨rfl, Nq40, Kq40, Yq40⟩ := hQ40
    have N40 := Fr.app N37 Nq40
    have od41 := od38.keep Kq40 (allS g_ta all0)
    have f41_1 := f38_1.keep Kq40
    have f41_2 := f38_2.keep Kq40 (ninS (own_neY f38_1 (w 89 rfl) f38_6) nin0)
    have f41_3 := f38_3.keep Kq40 (ninS (own_neY f38_1 (w 89 rfl) f38_6) nin0)
    have f41_4 := Fw37.keep Kq40 (ninS (own_neY f38_1 (w 89 rfl) f38_6) nin0)
    have f41_5 := f38_5.keep Kq40 (ninS (own_neY f38_1 (w 89 rfl) f38_6) nin0)
    have f41_7 := f38_7.keep Kq40
    have Z40 : n0 ≤ T40.heap.size := Nat.le_trans Z37 Kq40.1
    have K40 := K37.trans Kq40 (allS (Or.inl (by simp)) all0)
    have pre43 : Pr p e below s₁ E0 T40 (mkF m 76 #[vr r0, vi p1] [(.ref r0)]) := fun t k => pre0 t (by
      refine XS.aloadN X0.here hx rfl (b d33_0) rfl rfl ?_
      refine XS.aloadN X0.here hx rfl (b d33_1) rfl rfl ?_
      refine st31 _ ?_
      show Sp p e below T31 (mkF m 5 #[vr r0, vi p1] [(.int (Int32.ofNat li.length)), (.ref r0)]) t
      refine XS.iconst X31.here hx rfl (b d33_5) ?_
      refine XS.iadd X31.here hx rfl (b d33_6) rfl ?_
      show Sp p e below T31 (mkF m 7 #[vr r0, vi p1] [(.int ((Int32.ofNat li.length) + (1 : Int32))), (.ref r0)]) t
      rw [own_a1 li.length]
      show Sp p e below T31 (mkF m 7 #[vr r0, vi p1] [(.int (Int32.ofNat (li.length + 1))), (.ref r0)]) t
      refine st32 _ ?_
      show Sp p e below T32 (mkF m 10 #[vr r0, vi p1] []) t
      refine XS.aloadN X32.here hx rfl (b d33_10) rfl rfl ?_
      refine st33 _ ?_
      show Sp p e below T33 (mkF m 14 #[vr r0, vi p1] [(.int (0 : Int32))]) t
      refine XS.ifYes X33.here hx rfl (pc0 := 14) (pc' := 45) rfl (b d33_14) rfl ((if0 _ _).trans (teq (by decide : (0 : Int32) = (0 : Int32))).1) (by decide) (by decide) ?_
      refine XS.aloadN X33.here hx rfl (b d33_45) rfl rfl ?_
      refine st34 _ ?_
      show Sp p e below T34 (mkF m 49 #[vr r0, vi p1] [(.int (0 : Int32))]) t
      refine XS.ifYes X34.here hx rfl (pc0 := 49) (pc' := 56) rfl (b d33_49) rfl ((if0 _ _).trans (teq (by decide : (0 : Int32) = (0 : Int32))).1) (by decide) (by decide) ?_
      refine XS.aloadN X34.here hx rfl (b d33_56) rfl rfl ?_
      refine st35 _ ?_
      show Sp p e below T35 (mkF m 60 #[vr r0, vi p1] [(.ref ta)]) t
      refine XS.aloadN X35.here hx rfl (b d33_60) rfl rfl ?_
      refine XS.dup X35.here hx rfl (b d33_61) rfl rfl ?_
      refine st36 _ ?_
      show Sp p e below T36 (mkF m 65 #[vr r0, vi p1] [(.int (Int32.ofNat li.length)), (.ref r0), (.ref ta)]) t
      refine XS.dupX1 X36.here hx rfl (b d33_65) rfl rfl rfl ?_
      refine XS.iconst X36.here hx rfl (b d33_66) ?_
      refine XS.iadd X36.here hx rfl (b d33_67) rfl ?_
      show Sp p e below T36 (mkF m 68 #[vr r0, vi p1] [(.int ((Int32.ofNat li.length) + (1 : Int32))), (.ref r0), (.int (Int32.ofNat li.length)), (.ref ta)]) t
      rw [own_a1 li.length]
      show Sp p e below T36 (mkF m 68 #[vr r0, vi p1] [(.int (Int32.ofNat (li.length + 1))), (.ref r0), (.int (Int32.ofNat li.length)), (.ref ta)]) t
      refine st37 _ ?_
      show Sp p e below T37 (mkF m 71 #[vr r0, vi p1] [(.int (Int32.ofNat li.length)), (.ref ta)]) t
      refine XS.iloadN X37.here hx rfl (b d33_71) rfl ?_
      refine st40 _ ?_
      show Sp p e below T40 (mkF m 75 #[vr r0, vi p1] []) t
      refine XS.aloadN X40.here hx rfl (b d33_75) rfl rfl ?_
      exact k)
    exact own_end X40 hlk (v := some (.ref r0)) (own_hv hret) pre43 (fun fs hr => own_ra X40 hx hret rfl (b d33_76) hr) ⟨rfl, N40, K40, ta, Or.inl rfl, Sb.mk' f41_1 f41_2 f41_3 f41_4 f41_5 Yq40 f41_7 (by rw [List.length_append]; rfl) (Cod.ofU rfl (own_Chsa hch1 hc) (own_EUa hE1)) (by rw [List.length_append]; exact hk) (by omega)⟩
abbrev C32 := jdk_67_method_14_code
theorem d32_0 : dk C32 0 (.aload_n 0) 1 := by decide +kernel
theorem d32_1 : dk C32 1 (.iload_n 1) 1 := by decide +kernel
theorem d32_2 : dk C32 2 (.invokespecial 50) 3 := by decide +kernel
theorem own_pd32 : parseMethodDescriptor "(C)Ljava/lang/AbstractStringBuilder;" = some ⟨[.char], some (.object "java/lang/AbstractStringBuilder")⟩ := by decide +kernel
theorem d32_5 : dk C32 5 .pop 1 := by decide +kernel
theorem d32_6 : dk C32 6 (.aload_n 0) 1 := by decide +kernel
theorem d32_7 : dk C32 7 .areturn 1 := by decide +kernel
def Q_sac (Z : State) (r0 : Addr) (p1 : Int32) (ta : Addr) (cap : Nat) (li : List Int32) (h0 : Heap) (n0 : Nat) (v : Option Value) (h : Heap) (L : List Loc) : Prop := v = some (.ref r0) ∧ Fr n0 L ∧ Keep h0 h [r0, ta] ∧ ∃ tn, (tn = ta ∨ h0.size ≤ tn) ∧ Sb Z h r0 tn cap (li ++ [p1])
theorem rm_sac (l : Launch) (Z : State) (a0 : Array Value) (hw : Hw a0 Z) (r0 : Addr) (p1 : Int32) (ta : Addr) (cap : Nat) (li : List Int32) (h0 : Heap) (n0 : Nat) (Z0 : n0 ≤ h0.size) (hst : own_St Z) (X00 : Old Z n0 h0) (B_r0 : Sb Z h0 r0 ta cap li) (g_r0 : n0 ≤ r0) (g_ta : n0 ≤ ta) (hk : li.length < cap) (hc : Chr p1) : Mt l (⟨"java/lang/StringBuilder", "append", "(C)Ljava/lang/StringBuilder;"⟩ : MethodName) C32 2 (some (.object "java/lang/StringBuilder")) ({ frames := 7, cells := 1, slots := 10, locals := 102 } : Room) #[(.ref r0), (.int p1)] Z h0 (Q_sac Z r0 p1 ta cap li h0 n0) := by
  have w := own_w hw
  refine own_go (L0 := #[vr r0, vi p1]) n0 (plainFor_of_name own_pn27) (fun m => rfl) fun p e s m below meth c s₁ E0 hx b hml hown hnm hret hlk hZ X0 e0 N0 pre0 => ?_
  have K0 : Keep h0 h0 [r0, ta] := Keep.refl h0 _
  obtain ⟨_, T1, L1, X1, hQ1, st1⟩ := own_cU X0 hx hml hZ hown (rm_bac l Z a0 hw r0 p1 ta cap li h0 n0 Z0 hst X00 B_r0 g_r0 g_ta (by omega) hc) (w 170 rfl) (w 171 rfl) (w 98 rfl) (w 173 rfl) (own_same (y' := yIL) (by decide) (w 172 rfl) (w 144 rfl) (w 143 rfl) rfl) (w 113 rfl) (by decide) (B_r0.exa) e0 (g := (mkF m 2 #[vr r0, vi p1] [(.int p1), (.ref r0)])) (argsL := [(.int p1)]) (rest := []) (W := 0) (lenOf own_pd32 rfl) (b d32_2)
  obtain ⟨rfl, Nq1, Kq1, t1, hor1, Bq1⟩ := hQ1
  have N1 := Fr.app N0 Nq1
  have od2 := X00.keep Kq1 (allS g_r0 (allS g_ta all0))
  have Z1 : n0 ≤ T1.heap.size := Nat.le_trans Z0 Kq1.1
  have K1 := K0.trans Kq1 (allS (Or.inl (by simp)) (allS (Or.inl (by simp)) all0))
  have g_t1 : n0 ≤ t1 := own_or hor1 g_ta Z0
  have pre4 : Pr p e below s₁ E0 T1 (mkF m 7 #[vr r0, vi p1] [(.ref r0)]) := fun t k => pre0 t (by
    refine XS.aloadN X0.here hx rfl (b d32_0) rfl rfl ?_
    refine XS.iloadN X0.here hx rfl (b d32_1) rfl ?_
    refine st1 _ ?_
    show Sp p e below T1 (mkF m 5 #[vr r0, vi p1] [(.ref r0)]) t
    refine XS.pop X1.here hx rfl (b d32_5) rfl rfl ?_
    refine XS.aloadN X1.here hx rfl (b d32_6) rfl rfl ?_
    exact k)
  exact own_end X1 hlk (v := some (.ref r0)) (own_hv hret) pre4 (fun fs hr => own_ra X1 hx hret rfl (b d32_7) hr) ⟨rfl, N1, K1, _, hor1, Bq1⟩
abbrev C27 := jdk_68_method_75_code
theorem d27_0 : dk C27 0 (.aload_n 0) 1 := by decide +kernel
theorem d27_1 : dk C27 1 (.invokevirtual 83) 3 := by decide +kernel
theorem d27_4 : dk C27 4 (.ifCond .eq 141) 3 := by decide +kernel
theorem d27_7 : dk C27 7 (.aload_n 1) 1 := by decide +kernel
theorem d27_8 : dk C27 8 (.invokevirtual 400) 3 := by decide +kernel
theorem d27_11 : dk C27 11 (.ifCond .eq 25) 3 := by decide +kernel
theorem d27_14 : dk C27 14 (.aload_n 1) 1 := by decide +kernel
theorem d27_15 : dk C27 15 (.invokevirtual 401) 3 := by decide +kernel
theorem own_pd33 : parseMethodDescriptor "()[B" = some ⟨[], some (.array .byte)⟩ := by decide +kernel
theorem d27_18 : dk C27 18 (.iload_n 2) 1 := by decide +kernel
theorem d27_19 : dk C27 19 (.aload_n 0) 1 := by decide +kernel
theorem d27_20 : dk C27 20 (.getfield 15) 3 := by decide +kernel
theorem d27_23 : dk C27 23 (.aload_n 0) 1 := by decide +kernel
theorem d27_24 : dk C27 24 (.getfield 79) 3 := by decide +kernel
theorem d27_27 : dk C27 27 (.iload_n 3) 1 := by decide +kernel
theorem d27_28 : dk C27 28 (.iload_n 2) 1 := by decide +kernel
theorem d27_29 : dk C27 29 .isub 1 := by decide +kernel
theorem d27_30 : dk C27 30 (.invokestatic 309) 3 := by decide +kernel
theorem d27_33 : dk C27 33 (.goto 161) 3 := by decide +kernel
theorem d27_194 : dk C27 194 (.aload_n 0) 1 := by decide +kernel
theorem d27_195 : dk C27 195 .dup 1 := by decide +kernel
theorem d27_196 : dk C27 196 (.getfield 79) 3 := by decide +kernel
theorem d27_199 : dk C27 199 (.iload_n 3) 1 := by decide +kernel
theorem d27_200 : dk C27 200 (.iload_n 2) 1 := by decide +kernel
theorem d27_201 : dk C27 201 .isub 1 := by decide +kernel
theorem d27_202 : dk C27 202 .iadd 1 := by decide +kernel
theorem d27_203 : dk C27 203 (.putfield 79) 3 := by decide +kernel
theorem d27_206 : dk C27 206 .return_ 1 := by decide +kernel
theorem d27_36 : dk C27 36 (.aload_n 0) 1 := by decide +kernel
theorem d27_37 : dk C27 37 (.getfield 15) 3 := by decide +kernel
theorem d27_40 : dk C27 40 (.astore 4) 2 := by decide +kernel
theorem d27_42 : dk C27 42 (.iload_n 2) 1 := by decide +kernel
theorem d27_43 : dk C27 43 (.istore 5) 2 := by decide +kernel
theorem d27_45 : dk C27 45 (.aload_n 0) 1 := by decide +kernel
theorem d27_46 : dk C27 46 (.getfield 79) 3 := by decide +kernel
theorem d27_49 : dk C27 49 (.istore 6) 2 := by decide +kernel
theorem d27_51 : dk C27 51 (.iload 5) 2 := by decide +kernel
theorem d27_53 : dk C27 53 (.iload_n 3) 1 := by decide +kernel
theorem d27_54 : dk C27 54 (.if_icmp .ge 88) 3 := by decide +kernel
theorem d27_57 : dk C27 57 (.aload_n 1) 1 := by decide +kernel
theorem d27_58 : dk C27 58 (.iload 5) 2 := by decide +kernel
theorem d27_60 : dk C27 60 (.invokevirtual 404) 3 := by decide +kernel
theorem d27_63 : dk C27 63 (.istore 7) 2 := by decide +kernel
theorem d27_65 : dk C27 65 (.iload 7) 2 := by decide +kernel
theorem d27_67 : dk C27 67 (.invokestatic 191) 3 := by decide +kernel
theorem d27_70 : dk C27 70 (.ifCond .eq 17) 3 := by decide +kernel
theorem d27_87 : dk C27 87 (.aload_n 0) 1 := by decide +kernel
theorem d27_88 : dk C27 88 (.iload 6) 2 := by decide +kernel
theorem d27_90 : dk C27 90 (.putfield 79) 3 := by decide +kernel
theorem d27_93 : dk C27 93 (.aload_n 0) 1 := by decide +kernel
theorem d27_94 : dk C27 94 (.invokevirtual 195) 3 := by decide +kernel
theorem d27_97 : dk C27 97 (.aload_n 1) 1 := by decide +kernel
theorem d27_98 : dk C27 98 (.invokevirtual 401) 3 := by decide +kernel
theorem d27_101 : dk C27 101 (.iload 5) 2 := by decide +kernel
theorem d27_103 : dk C27 103 (.iconst 1) 1 := by decide +kernel
theorem d27_104 : dk C27 104 .ishl 1 := by decide +kernel
theorem d27_105 : dk C27 105 (.aload_n 0) 1 := by decide +kernel
theorem d27_106 : dk C27 106 (.getfield 15) 3 := by decide +kernel
theorem d27_109 : dk C27 109 (.iload 6) 2 := by decide +kernel
theorem d27_111 : dk C27 111 (.iconst 1) 1 := by decide +kernel
theorem d27_112 : dk C27 112 .ishl 1 := by decide +kernel
theorem d27_113 : dk C27 113 (.iload_n 3) 1 := by decide +kernel
theorem d27_114 : dk C27 114 (.iload 5) 2 := by decide +kernel
theorem d27_116 : dk C27 116 .isub 1 := by decide +kernel
theorem d27_117 : dk C27 117 (.iconst 1) 1 := by decide +kernel
theorem d27_118 : dk C27 118 .ishl 1 := by decide +kernel
theorem d27_119 : dk C27 119 (.invokestatic 309) 3 := by decide +kernel
theorem d27_122 : dk C27 122 (.aload_n 0) 1 := by decide +kernel
theorem d27_123 : dk C27 123 .dup 1 := by decide +kernel
theorem d27_124 : dk C27 124 (.getfield 79) 3 := by decide +kernel
theorem d27_127 : dk C27 127 (.iload_n 3) 1 := by decide +kernel
theorem d27_128 : dk C27 128 (.iload 5) 2 := by decide +kernel
theorem d27_130 : dk C27 130 .isub 1 := by decide +kernel
theorem d27_131 : dk C27 131 .iadd 1 := by decide +kernel
theorem d27_132 : dk C27 132 (.putfield 79) 3 := by decide +kernel
theorem d27_135 : dk C27 135 .return_ 1 := by decide +kernel
theorem d27_73 : dk C27 73 (.aload 4) 2 := by decide +kernel
theorem d27_75 : dk C27 75 (.iload 6) 2 := by decide +kernel
theorem d27_77 : dk C27 77 (.iinc 6 1) 3 := by decide +kernel
theorem d27_80 : dk C27 80 (.iload 7) 2 := by decide +kernel
theorem d27_82 : dk C27 82 .i2b 1 := by decide +kernel
theorem d27_83 : dk C27 83 .bastore 1 := by decide +kernel
theorem d27_84 : dk C27 84 (.goto 52) 3 := by decide +kernel
theorem d27_136 : dk C27 136 (.iinc 5 1) 3 := by decide +kernel
theorem d27_139 : dk C27 139 (.goto (-88)) 3 := by decide +kernel
theorem d27_142 : dk C27 142 (.goto 52) 3 := by decide +kernel
def Q_ape (Z : State) (r0 : Addr) (r1 : Addr) (ta : Addr) (ts : Addr) (cap : Nat) (li : List Int32) (i : Nat) (h0 : Heap) (n0 : Nat) (v : Option Value) (h : Heap) (L : List Loc) : Prop := v = none ∧ Fr n0 L ∧ Keep h0 h [r0, ta] ∧ ∃ tn, (tn = ta ∨ h0.size ≤ tn) ∧ Sb Z h r0 tn cap (li.take i)
theorem rm_ape (l : Launch) (Z : State) (a0 : Array Value) (hw : Hw a0 Z) (r0 : Addr) (r1 : Addr) (ta : Addr) (ts : Addr) (cap : Nat) (li : List Int32) (i : Nat) (h0 : Heap) (n0 : Nat) (Z0 : n0 ≤ h0.size) (hst : own_St Z) (X00 : Old Z n0 h0) (E_r0 : Exa Z h0 r0 "java/lang/StringBuilder") (F_cd : Fld Z h0 r0 "java/lang/AbstractStringBuilder" "coder" "B" (.int (0 : Int32))) (F_va : Fld Z h0 r0 "java/lang/AbstractStringBuilder" "value" "[B" (.ref ta)) (F_ct : Fld Z h0 r0 "java/lang/AbstractStringBuilder" "count" "I" (.int (0 : Int32))) (F_ml : Fld Z h0 r0 "java/lang/AbstractStringBuilder" "maybeLatin1" "Z" (.int (0 : Int32))) (Y_ta : Ay Z h0 ta .byte cap (fun _ => 0)) (E_ta : Exa Z h0 ta "[B") (g_r0 : n0 ≤ r0) (g_ta : n0 ≤ ta) (U_r1 : Us Z h0 r1 ts li) (hts : ts ≠ ta) (hi : i ≤ li.length) (hic : i ≤ cap) (h5 : cap ≤ 5) : Mt l (⟨"java/lang/AbstractStringBuilder", "appendChars", "(Ljava/lang/String;II)V"⟩ : MethodName) C27 8 none ({ frames := 6, cells := 1, slots := 10, locals := 89 } : Room) #[(.ref r0), (.ref r1), (.int (0 : Int32)), (.int (Int32.ofNat i))] Z h0 (Q_ape Z r0 r1 ta ts cap li i h0 n0) := by
  have w := own_w hw
  refine own_go (L0 := #[vr r0, vr r1, vi (0 : Int32), vi (Int32.ofNat i), vu, vu, vu, vu]) n0 (plainFor_of_name own_pn25) (fun m => rfl) fun p e s m below meth c s₁ E0 hx b hml hown hnm hret hlk hZ X0 e0 N0 pre0 => ?_
  have K0 : Keep h0 h0 [r0, ta] := Keep.refl h0 _
  obtain ⟨cd1, N1, f1, E1, Fc1, Fv1, Y1, hcod1, h51⟩ := id U_r1
  rcases hcod1.cd with rfl | rfl
  · obtain ⟨rfl, hch1, hE1⟩ := hcod1.lat
    obtain ⟨_, T2, L2, X2, hQ2, st2⟩ := own_cV X0 hx hml hZ hown (rm_il0 l Z a0 hw r0 h0 n0 Z0 hst X00 F_cd) (w 141 rfl) (w 143 rfl) (w 98 rfl) (w 145 rfl) (w 142 rfl) (w 144 rfl) (own_nfS hZ (w 144 rfl)) E_r0 e0 (g := (mkF m 1 #[vr r0, vr r1, vi (0 : Int32), vi (Int32.ofNat i), vu, vu, vu, vu] [(.ref r0)])) (argsL := []) (rest := []) (W := 0) (lenOf own_pd17 rfl) (b d27_1)
    obtain ⟨rfl, Nq2, e2⟩ := hQ2
    have N2 := Fr.app N0 Nq2
    obtain ⟨_, T3, L3, X3, hQ3, st3⟩ := own_cV X2 hx hml hZ hown (rm_sil0 l Z a0 hw r1 h0 n0 Z0 hst X00 Fc1) (w 146 rfl) (w 59 rfl) (w 11 rfl) (w 61 rfl) (w 58 rfl) (w 60 rfl) (own_nfS hZ (w 60 rfl)) E1 e2 (g := (mkF m 8 #[vr r0, vr r1, vi (0 : Int32), vi (Int32.ofNat i), vu, vu, vu, vu] [(.ref r1)])) (argsL := []) (rest := []) (W := 0) (lenOf own_pd17 rfl) (b d27_8)
    obtain ⟨rfl, Nq3, e3⟩ := hQ3
    have N3 := Fr.app N2 Nq3
    obtain ⟨_, T4, L4, X4, hQ4, st4⟩ := own_cV X3 hx hml hZ hown (rm_sva l Z a0 hw r1 ts h0 n0 Z0 Fv1) (w 147 rfl) (w 149 rfl) (w 11 rfl) (w 151 rfl) (w 148 rfl) (w 150 rfl) (own_nfS hZ (w 150 rfl)) E1 e3 (g := (mkF m 15 #[vr r0, vr r1, vi (0 : Int32), vi (Int32.ofNat i), vu, vu, vu, vu] [(.ref r1)])) (argsL := []) (rest := []) (W := 0) (lenOf own_pd33 rfl) (b d27_15)
    obtain ⟨rfl, Nq4, e4⟩ := hQ4
    have N4 := Fr.app N3 Nq4
    obtain ⟨T5, X5, e5, st5⟩ := getF X4 hx hZ hown (host := "") (Or.inl (w 102 rfl)) Via.refl e4 F_va (g := (mkF m 20 #[vr r0, vr r1, vi (0 : Int32), vi (Int32.ofNat i), vu, vu, vu, vu] [(.ref r0), (.int (0 : Int32)), (.ref ts)])) rfl rfl (b d27_20)
    obtain ⟨T6, X6, e6, st6⟩ := getF X5 hx hZ hown (host := "") (Or.inl (w 128 rfl)) Via.refl e5 F_ct (g := (mkF m 24 #[vr r0, vr r1, vi (0 : Int32), vi (Int32.ofNat i), vu, vu, vu, vu] [(.ref r0), (.ref ta), (.int (0 : Int32)), (.ref ts)])) rfl rfl (b d27_24)
    obtain ⟨T7, h7, L7, X7, e7, N7, K7c, Y7, st7⟩ := own_cp X6 hx hZ hown (w 152 rfl) (w 155 rfl) (w 153 rfl) (w 154 rfl) e6 (sp := 0) (dp := 0) (nn := i) Y1 Y_ta (by omega) (by omega) N4 g_ta (g' := (mkF m 30 #[vr r0, vr r1, vi (0 : Int32), vi (Int32.ofNat i), vu, vu, vu, vu] [(.int (Int32.ofNat i)), (.int (0 : Int32)), (.ref ta), (.int (0 : Int32)), (.ref ts)])) rfl (by rw [hml]; rfl) rfl (b d27_30) (by decide) (W := 0) (by show 2 * 0 + _ ≤ _; exact Nat.le_of_eq rfl) (by decide)
    have f8_1 := E_r0.keep K7c
    have f8_2 := F_cd.keep K7c (ninS (own_neY E_r0 (w 89 rfl) Y_ta) nin0)
    have f8_3 := F_va.keep K7c (ninS (own_neY E_r0 (w 89 rfl) Y_ta) nin0)
    have f8_4 := F_ct.keep K7c (ninS (own_neY E_r0 (w 89 rfl) Y_ta) nin0)
    have f8_5 := F_ml.keep K7c (ninS (own_neY E_r0 (w 89 rfl) Y_ta) nin0)
    have f8_7 := E_ta.keep K7c
    have od8 := X00.keep K7c (allS g_ta all0)
    have f8_8 := E1.keep K7c
    have f8_9 := Fc1.keep K7c (ninS (own_neY E1 (w 10 rfl) Y_ta) nin0)
    have f8_10 := Fv1.keep K7c (ninS (own_neY E1 (w 10 rfl) Y_ta) nin0)
    have f8_11 := Y1.keep K7c (ninS hts nin0)
    have u9_1 := U_r1.keep K7c (ninS (own_neY E1 (w 10 rfl) Y_ta) nin0) (ninS hts nin0)
    have Z7 : n0 ≤ h7.size := Nat.le_trans Z0 K7c.1
    have K7 := K0.trans K7c (allS (Or.inl (by simp)) all0)
    obtain ⟨T10, X10, e10, st10⟩ := getF X7 hx hZ hown (host := "") (Or.inl (w 128 rfl)) Via.refl e7 f8_4 (g := (mkF m 196 #[vr r0, vr r1, vi (0 : Int32), vi (Int32.ofNat i), vu, vu, vu, vu] [(.ref r0), (.ref r0)])) rfl rfl (b d27_196)
    obtain ⟨T11, h11, X11, e11, W11, st11⟩ := putF X10 hx hZ hown (host := "") (Or.inl (w 128 rfl)) Via.refl e10 f8_4 f8_1 (Or.inl (w 129 rfl)) (w 89 rfl) (ty := .int) (by decide) rfl rfl (g := (mkF m 203 #[vr r0, vr r1, vi (0 : Int32), vi (Int32.ofNat i), vu, vu, vu, vu] [(.int (Int32.ofNat i)), (.ref r0)])) rfl rfl (b d27_203)
    have Fw11 := f8_4.same W11
    have f12_1 := f8_1.wr W11
    have f12_2 := f8_2.other W11 (Or.inr (slot_ne (Or.inl (w 105 rfl)) (Or.inl (w 129 rfl)) (by decide) (t := .byte) (t' := .int) (by decide) (by decide)))
    have f12_3 := f8_3.other W11 (Or.inr (slot_ne (Or.inl (w 103 rfl)) (Or.inl (w 129 rfl)) (by decide) (t := (.array .byte)) (t' := .int) (by decide) (by decide)))
    have f12_5 := f8_5.other W11 (Or.inr (slot_ne (Or.inl (w 283 rfl)) (Or.inl (w 129 rfl)) (by decide) (t := .boolean) (t' := .int) (by decide) (by decide)))
    have f12_6 := Y7.other W11 (Ne.symm (own_neY f8_1 (w 89 rfl) Y7))
    have f12_7 := f8_7.wr W11
    have od12 := od8.wr W11 g_r0
    have f12_8 := f8_8.wr W11
    have f12_9 := f8_9.other W11 (Or.inl (ne_exa f8_8 f8_1 (by decide)))
    have f12_10 := f8_10.other W11 (Or.inl (ne_exa f8_8 f8_1 (by decide)))
    have f12_11 := f8_11.other W11 (Ne.symm (own_neY f8_1 (w 89 rfl) f8_11))
    have u13_1 := u9_1.keep (Keep.of_wr W11) (ninS (ne_exa f8_8 f8_1 (by decide)) nin0) (ninS (Ne.symm (own_neY f8_1 (w 89 rfl) f8_11)) nin0)
    have N11 := Fr.snoc X11 N7 g_r0
    have Z11 : n0 ≤ h11.size := Nat.le_trans Z7 (Keep.of_wr W11).1
    have K11 := K7.wr W11 (Or.inl (by simp))
    have pre14 : Pr p e below s₁ E0 T11 (mkF m 206 #[vr r0, vr r1, vi (0 : Int32), vi (Int32.ofNat i), vu, vu, vu, vu] []) := fun t k => pre0 t (by
      refine XS.aloadN X0.here hx rfl (b d27_0) rfl rfl ?_
      refine st2 _ ?_
      show Sp p e below T2 (mkF m 4 #[vr r0, vr r1, vi (0 : Int32), vi (Int32.ofNat i), vu, vu, vu, vu] [(.int (1 : Int32))]) t
      refine XS.ifNo X2.here hx rfl (b d27_4) rfl ((if0 _ _).trans (feq (by decide : ¬ ((1 : Int32) = (0 : Int32)))).1) ?_
      refine XS.aloadN X2.here hx rfl (b d27_7) rfl rfl ?_
      refine st3 _ ?_
      show Sp p e below T3 (mkF m 11 #[vr r0, vr r1, vi (0 : Int32), vi (Int32.ofNat i), vu, vu, vu, vu] [(.int (1 : Int32))]) t
      refine XS.ifNo X3.here hx rfl (b d27_11) rfl ((if0 _ _).trans (feq (by decide : ¬ ((1 : Int32) = (0 : Int32)))).1) ?_
      refine XS.aloadN X3.here hx rfl (b d27_14) rfl rfl ?_
      refine st4 _ ?_
      show Sp p e below T4 (mkF m 18 #[vr r0, vr r1, vi (0 : Int32), vi (Int32.ofNat i), vu, vu, vu, vu] [(.ref ts)]) t
      refine XS.iloadN X4.here hx rfl (b d27_18) rfl ?_
      refine XS.aloadN X4.here hx rfl (b d27_19) rfl rfl ?_
      refine st5 _ ?_
      show Sp p e below T5 (mkF m 23 #[vr r0, vr r1, vi (0 : Int32), vi (Int32.ofNat i), vu, vu, vu, vu] [(.ref ta), (.int (0 : Int32)), (.ref ts)]) t
      refine XS.aloadN X5.here hx rfl (b d27_23) rfl rfl ?_
      refine st6 _ ?_
      show Sp p e below T6 (mkF m 27 #[vr r0, vr r1, vi (0 : Int32), vi (Int32.ofNat i), vu, vu, vu, vu] [(.int (0 : Int32)), (.ref ta), (.int (0 : Int32)), (.ref ts)]) t
      refine XS.iloadN X6.here hx rfl (b d27_27) rfl ?_
      refine XS.iloadN X6.here hx rfl (b d27_28) rfl ?_
      refine XS.isub X6.here hx rfl (b d27_29) rfl ?_
      show Sp p e below T6 (mkF m 30 #[vr r0, vr r1, vi (0 : Int32), vi (Int32.ofNat i), vu, vu, vu, vu] [(.int ((Int32.ofNat i) - (0 : Int32))), (.int (0 : Int32)), (.ref ta), (.int (0 : Int32)), (.ref ts)]) t
      rw [own_s0 i]
      show Sp p e below T6 (mkF m 30 #[vr r0, vr r1, vi (0 : Int32), vi (Int32.ofNat i), vu, vu, vu, vu] [(.int (Int32.ofNat i)), (.int (0 : Int32)), (.ref ta), (.int (0 : Int32)), (.ref ts)]) t
      refine st7 _ ?_
      show Sp p e below T7 (mkF m 33 #[vr r0, vr r1, vi (0 : Int32), vi (Int32.ofNat i), vu, vu, vu, vu] []) t
      refine XS.goto X7.here hx rfl (pc0 := 33) (pc' := 194) rfl (b d27_33) (by decide) (by decide) ?_
      refine XS.aloadN X7.here hx rfl (b d27_194) rfl rfl ?_
      refine XS.dup X7.here hx rfl (b d27_195) rfl rfl ?_
      refine st10 _ ?_
      show Sp p e below T10 (mkF m 199 #[vr r0, vr r1, vi (0 : Int32), vi (Int32.ofNat i), vu, vu, vu, vu] [(.int (0 : Int32)), (.ref r0)]) t
      refine XS.iloadN X10.here hx rfl (b d27_199) rfl ?_
      refine XS.iloadN X10.here hx rfl (b d27_200) rfl ?_
      refine XS.isub X10.here hx rfl (b d27_201) rfl ?_
      show Sp p e below T10 (mkF m 202 #[vr r0, vr r1, vi (0 : Int32), vi (Int32.ofNat i), vu, vu, vu, vu] [(.int ((Int32.ofNat i) - (0 : Int32))), (.int (0 : Int32)), (.ref r0)]) t
      rw [own_s0 i]
      show Sp p e below T10 (mkF m 202 #[vr r0, vr r1, vi (0 : Int32), vi (Int32.ofNat i), vu, vu, vu, vu] [(.int (Int32.ofNat i)), (.int (0 : Int32)), (.ref r0)]) t
      refine XS.iadd X10.here hx rfl (b d27_202) rfl ?_
      show Sp p e below T10 (mkF m 203 #[vr r0, vr r1, vi (0 : Int32), vi (Int32.ofNat i), vu, vu, vu, vu] [(.int ((0 : Int32) + (Int32.ofNat i))), (.ref r0)]) t
      rw [own_0a i]
      show Sp p e below T10 (mkF m 203 #[vr r0, vr r1, vi (0 : Int32), vi (Int32.ofNat i), vu, vu, vu, vu] [(.int (Int32.ofNat i)), (.ref r0)]) t
      refine st11 _ ?_
      exact k)
    exact own_end X11 hlk (v := none) (fun _ => rfl) pre14 (fun fs hr => X11.returnOut hx hret (b d27_206) hr) (by rw [e11]; exact ⟨rfl, N11, K11, ta, Or.inl rfl, Sb.mk' f12_1 f12_2 f12_3 Fw11 f12_5 f12_6 f12_7 (by rw [List.length_take]; omega) (Cod.ofL rfl (own_Chst i hch1) (own_ELt hE1)) (by rw [List.length_take]; omega) (by omega)⟩)
  · obtain ⟨rfl, hch1, hE1⟩ := hcod1.wid
    obtain ⟨_, T15, L15, X15, hQ15, st15⟩ := own_cV X0 hx hml hZ hown (rm_il0 l Z a0 hw r0 h0 n0 Z0 hst X00 F_cd) (w 141 rfl) (w 143 rfl) (w 98 rfl) (w 145 rfl) (w 142 rfl) (w 144 rfl) (own_nfS hZ (w 144 rfl)) E_r0 e0 (g := (mkF m 1 #[vr r0, vr r1, vi (0 : Int32), vi (Int32.ofNat i), vu, vu, vu, vu] [(.ref r0)])) (argsL := []) (rest := []) (W := 0) (lenOf own_pd17 rfl) (b d27_1)
    obtain ⟨rfl, Nq15, e15⟩ := hQ15
    have N15 := Fr.app N0 Nq15
    obtain ⟨_, T16, L16, X16, hQ16, st16⟩ := own_cV X15 hx hml hZ hown (rm_sil1 l Z a0 hw r1 h0 n0 Z0 hst X00 Fc1) (w 146 rfl) (w 59 rfl) (w 11 rfl) (w 61 rfl) (w 58 rfl) (w 60 rfl) (own_nfS hZ (w 60 rfl)) E1 e15 (g := (mkF m 8 #[vr r0, vr r1, vi (0 : Int32), vi (Int32.ofNat i), vu, vu, vu, vu] [(.ref r1)])) (argsL := []) (rest := []) (W := 0) (lenOf own_pd17 rfl) (b d27_8)
    obtain ⟨rfl, Nq16, e16⟩ := hQ16
    have N16 := Fr.app N15 Nq16
    obtain ⟨T17, X17, e17, st17⟩ := getF X16 hx hZ hown (host := "") (Or.inl (w 102 rfl)) Via.refl e16 F_va (g := (mkF m 37 #[vr r0, vr r1, vi (0 : Int32), vi (Int32.ofNat i), vu, vu, vu, vu] [(.ref r0)])) rfl rfl (b d27_37)
    obtain ⟨T18, X18, e18, st18⟩ := getF X17 hx hZ hown (host := "") (Or.inl (w 128 rfl)) Via.refl e17 F_ct (g := (mkF m 46 #[vr r0, vr r1, vi (0 : Int32), vi (Int32.ofNat i), vr ta, vi (0 : Int32), vu, vu] [(.ref r0)])) rfl rfl (b d27_46)
    have pre19 : Pr p e below s₁ E0 T18 (mkF m 51 #[vr r0, vr r1, vi (0 : Int32), vi (Int32.ofNat i), vr ta, vi (0 : Int32), vi (0 : Int32), vu] []) := fun t k => pre0 t (by
      refine XS.aloadN X0.here hx rfl (b d27_0) rfl rfl ?_
      refine st15 _ ?_
      show Sp p e below T15 (mkF m 4 #[vr r0, vr r1, vi (0 : Int32), vi (Int32.ofNat i), vu, vu, vu, vu] [(.int (1 : Int32))]) t
      refine XS.ifNo X15.here hx rfl (b d27_4) rfl ((if0 _ _).trans (feq (by decide : ¬ ((1 : Int32) = (0 : Int32)))).1) ?_
      refine XS.aloadN X15.here hx rfl (b d27_7) rfl rfl ?_
      refine st16 _ ?_
      show Sp p e below T16 (mkF m 11 #[vr r0, vr r1, vi (0 : Int32), vi (Int32.ofNat i), vu, vu, vu, vu] [(.int (0 : Int32))]) t
      refine XS.ifYes X16.here hx rfl (pc0 := 11) (pc' := 36) rfl (b d27_11) rfl ((if0 _ _).trans (teq (by decide : (0 : Int32) = (0 : Int32))).1) (by decide) (by decide) ?_
      refine XS.aloadN X16.here hx rfl (b d27_36) rfl rfl ?_
      refine st17 _ ?_
      show Sp p e below T17 (mkF m 40 #[vr r0, vr r1, vi (0 : Int32), vi (Int32.ofNat i), vu, vu, vu, vu] [(.ref ta)]) t
      refine XS.astore X17.here hx rfl (b d27_40) rfl rfl (l' := #[vr r0, vr r1, vi (0 : Int32), vi (Int32.ofNat i), vr ta, vu, vu, vu]) rfl ?_
      refine XS.iloadN X17.here hx rfl (b d27_42) rfl ?_
      refine XS.istore X17.here hx rfl (b d27_43) rfl (l' := #[vr r0, vr r1, vi (0 : Int32), vi (Int32.ofNat i), vr ta, vi (0 : Int32), vu, vu]) rfl ?_
      refine XS.aloadN X17.here hx rfl (b d27_45) rfl rfl ?_
      refine st18 _ ?_
      show Sp p e below T18 (mkF m 49 #[vr r0, vr r1, vi (0 : Int32), vi (Int32.ofNat i), vr ta, vi (0 : Int32), vu, vu] [(.int (0 : Int32))]) t
      refine XS.istore X18.here hx rfl (b d27_49) rfl (l' := #[vr r0, vr r1, vi (0 : Int32), vi (Int32.ofNat i), vr ta, vi (0 : Int32), vi (0 : Int32), vu]) rfl ?_
      exact k)
    refine own_loop (fun k => ∃ (ji : Nat) (g : Nat → Int32) (q7 : Slot) (T20 : State) (LL20 : List Loc) (H20 : Heap), i - ji = k ∧ (ji ≤ i) ∧ (∀ x, x < ji → g x = own_b (li.getD x 0) ∧ (li.getD x 0).toInt ≤ 255) ∧ (q7 = .unset ∨ ∃ x, q7 = .val (.int x)) ∧ Stand p l e ({ frames := 6, cells := 1, slots := 10, locals := 89 } : Room) s m #[(.ref r0), (.ref r1), (.int (0 : Int32)), (.int (Int32.ofNat i))] below meth c T20 LL20 (0) (0) ∧ Fr n0 LL20 ∧ T20.heap = H20 ∧ n0 ≤ H20.size ∧ Keep h0 H20 [r0, ta] ∧ (Exa Z H20 r0 "java/lang/StringBuilder") ∧ (Fld Z H20 r0 "java/lang/AbstractStringBuilder" "coder" "B" (.int (0 : Int32))) ∧ (Fld Z H20 r0 "java/lang/AbstractStringBuilder" "value" "[B" (.ref ta)) ∧ (Fld Z H20 r0 "java/lang/AbstractStringBuilder" "count" "I" (.int (0 : Int32))) ∧ (Fld Z H20 r0 "java/lang/AbstractStringBuilder" "maybeLatin1" "Z" (.int (0 : Int32))) ∧ (Ay Z H20 ta .byte cap g) ∧ (Exa Z H20 ta "[B") ∧ (Us Z H20 r1 ts li) ∧ (Old Z n0 H20) ∧ (Exa Z H20 r1 "java/lang/String") ∧ (Fld Z H20 r1 "java/lang/String" "coder" "B" (.int (1 : Int32))) ∧ (Fld Z H20 r1 "java/lang/String" "value" "[B" (.ref ts)) ∧ (Ay Z H20 ts .byte (2 * li.length) f1) ∧ Pr p e below s₁ E0 T20 (mkF m 51 #[vr r0, vr r1, vi (0 : Int32), vi (Int32.ofNat i), vr ta, vi (Int32.ofNat ji), vi (Int32.ofNat ji), q7] [])) ?_ _ ⟨0, (fun _ => 0), .unset, T18, _, h0, rfl, (by omega), (fun j hj => absurd hj (by omega)), (Or.inl rfl), X18, N16, e18, Z0, K0, E_r0, F_cd, F_va, F_ct, F_ml, Y_ta, E_ta, U_r1, X00, E1, Fc1, Fv1, Y1, pre19⟩
    rintro k20 ⟨ji, g, q7, T20, LL20, H20, hm20, hji, hg, hq7, X20, N20, e20, Z20, K20, lf20_0, lf20_1, lf20_2, lf20_3, lf20_4, lf20_5, lf20_6, lf20_7, lf20_8, lf20_9, lf20_10, lf20_11, lf20_12, pre20⟩ ih20
    have pre22 : Pr p e below s₁ E0 T20 (mkF m 54 #[vr r0, vr r1, vi (0 : Int32), vi (Int32.ofNat i), vr ta, vi (Int32.ofNat ji), vi (Int32.ofNat ji), q7] [(.int (Int32.ofNat i)), (.int (Int32.ofNat ji))]) := fun t k => pre20 t (by
      refine XS.iload X20.here hx rfl (b d27_51) rfl ?_
      refine XS.iloadN X20.here hx rfl (b d27_53) rfl ?_
      exact k)
    by_cases hc21 : ji < i
    · obtain ⟨_, T23, L23, X23, hQ23, st23⟩ := own_cV X20 hx hml hZ hown (rm_sca l Z a0 hw r1 ji ts li H20 n0 Z20 hst lf20_8 lf20_7 (by omega)) (w 256 rfl) (w 54 rfl) (w 11 rfl) (w 56 rfl) (w 53 rfl) (w 55 rfl) (own_nfS hZ (w 55 rfl)) lf20_9 e20 (g := (mkF m 60 #[vr r0, vr r1, vi (0 : Int32), vi (Int32.ofNat i), vr ta, vi (Int32.ofNat ji), vi (Int32.ofNat ji), q7] [(.int (Int32.ofNat ji)), (.ref r1)])) (argsL := [(.int (Int32.ofNat ji))]) (rest := []) (W := 0) (lenOf own_pd29 rfl) (b d27_60)
      obtain ⟨rfl, Nq23, e23⟩ := hQ23
      have N23 := Fr.app N20 Nq23
      obtain ⟨_, T24, L24, X24, hQ24, st24⟩ := own_cS X23 hx hml hZ hown (rm_ce l Z a0 hw (li.getD ji 0) H20 n0 Z20) (w 174 rfl) (w 175 rfl) (w 64 rfl) (w 176 rfl) e23 (g := (mkF m 67 #[vr r0, vr r1, vi (0 : Int32), vi (Int32.ofNat i), vr ta, vi (Int32.ofNat ji), vi (Int32.ofNat ji), vi (li.getD ji 0)] [(.int (li.getD ji 0))])) (argsL := [(.int (li.getD ji 0))]) (rest := []) (W := 0) (lenOf own_pd30 rfl) (b d27_67)
      obtain ⟨rfl, Nq24, e24⟩ := hQ24
      have N24 := Fr.app N23 Nq24
      have pre26 : Pr p e below s₁ E0 T24 (mkF m 70 #[vr r0, vr r1, vi (0 : Int32), vi (Int32.ofNat i), vr ta, vi (Int32.ofNat ji), vi (Int32.ofNat ji), vi (li.getD ji 0)] [(.int (fn_ce (li.getD ji 0)))]) := fun t k => pre22 t (by
        refine XS.icmpNo X20.here hx rfl (b d27_54) rfl (tlt (own_ltT (a := ji) (b := i) hc21 (by omega))).2.1 ?_
        refine XS.aloadN X20.here hx rfl (b d27_57) rfl rfl ?_
        refine XS.iload X20.here hx rfl (b d27_58) rfl ?_
        refine st23 _ ?_
        show Sp p e below T23 (mkF m 63 #[vr r0, vr r1, vi (0 : Int32), vi (Int32.ofNat i), vr ta, vi (Int32.ofNat ji), vi (Int32.ofNat ji), q7] [(.int (li.getD ji 0))]) t
        refine XS.istore X23.here hx rfl (b d27_63) rfl (l' := #[vr r0, vr r1, vi (0 : Int32), vi (Int32.ofNat i), vr ta, vi (Int32.ofNat ji), vi (Int32.ofNat ji), vi (li.getD ji 0)]) (by rcases hq7 with rfl | ⟨x, rfl⟩ <;> rfl) ?_
        refine XS.iload X23.here hx rfl (b d27_65) rfl ?_
        refine st24 _ ?_
        exact k)
      by_cases hc25 : (fn_ce (li.getD ji 0)) = (0 : Int32)
      · obtain ⟨T27, h27, X27, e27, W27, st27⟩ := putF X24 hx hZ hown (host := "") (Or.inl (w 128 rfl)) Via.refl e24 lf20_3 lf20_0 (Or.inl (w 129 rfl)) (w 89 rfl) (ty := .int) (by decide) rfl rfl (g := (mkF m 90 #[vr r0, vr r1, vi (0 : Int32), vi (Int32.ofNat i), vr ta, vi (Int32.ofNat ji), vi (Int32.ofNat ji), vi (li.getD ji 0)] [(.int (Int32.ofNat ji)), (.ref r0)])) rfl rfl (b d27_90)
        have Fw27 := lf20_3.same W27
        have f28_1 := lf20_0.wr W27
        have f28_2 := lf20_1.other W27 (Or.inr (slot_ne (Or.inl (w 105 rfl)) (Or.inl (w 129 rfl)) (by decide) (t := .byte) (t' := .int) (by decide) (by decide)))
        have f28_3 := lf20_2.other W27 (Or.inr (slot_ne (Or.inl (w 103 rfl)) (Or.inl (w 129 rfl)) (by decide) (t := (.array .byte)) (t' := .int) (by decide) (by decide)))
        have f28_5 := lf20_4.other W27 (Or.inr (slot_ne (Or.inl (w 283 rfl)) (Or.inl (w 129 rfl)) (by decide) (t := .boolean) (t' := .int) (by decide) (by decide)))
        have f28_6 := lf20_5.other W27 (Ne.symm (own_neY lf20_0 (w 89 rfl) lf20_5))
        have f28_7 := lf20_6.wr W27
        have od28 := lf20_8.wr W27 g_r0
        have f28_8 := lf20_9.wr W27
        have f28_9 := lf20_10.other W27 (Or.inl (ne_exa lf20_9 lf20_0 (by decide)))
        have f28_10 := lf20_11.other W27 (Or.inl (ne_exa lf20_9 lf20_0 (by decide)))
        have f28_11 := lf20_12.other W27 (Ne.symm (own_neY lf20_0 (w 89 rfl) lf20_12))
        have u29_1 := lf20_7.keep (Keep.of_wr W27) (ninS (ne_exa lf20_9 lf20_0 (by decide)) nin0) (ninS (Ne.symm (own_neY lf20_0 (w 89 rfl) lf20_12)) nin0)
        have N27 := Fr.snoc X27 N24 g_r0
        have Z27 : n0 ≤ h27.size := Nat.le_trans Z20 (Keep.of_wr W27).1
        have K27 := K20.wr W27 (Or.inl (by simp))
        obtain ⟨_, T30, L30, X30, hQ30, st30⟩ := own_cV X27 hx hml hZ hown (rm_inf l Z a0 hw r0 ta ji (0 : Int32) cap g h27 n0 Z27 hst od28 f28_1 f28_2 f28_3 Fw27 f28_5 f28_6 f28_7 g_r0 g_ta (by omega) (by omega)) (w 257 rfl) (w 258 rfl) (w 98 rfl) (w 261 rfl) (own_decl (w 258 rfl) (w 261 rfl)) (w 260 rfl) (own_nfS hZ (w 260 rfl)) f28_1 e27 (g := (mkF m 94 #[vr r0, vr r1, vi (0 : Int32), vi (Int32.ofNat i), vr ta, vi (Int32.ofNat ji), vi (Int32.ofNat ji), vi (li.getD ji 0)] [(.ref r0)])) (argsL := []) (rest := []) (W := 0) (lenOf own_pd31 rfl) (b d27_94)
        obtain ⟨rfl, Nq30, Kq30, t30, g30, szq30, Eq30, Fq30c, Fq30v, Fq30k, Fq30m, Yq30, Exq30, hq30⟩ := hQ30
        have N30 := Fr.app N27 Nq30
        have f31_1 := f28_1.keep Kq30
        have f31_6 := f28_6.keep Kq30 (ninS (Ne.symm (own_neY f28_1 (w 89 rfl) f28_6)) nin0)
        have f31_7 := f28_7.keep Kq30
        have od31 := od28.keep Kq30 (allS g_r0 all0)
        have f31_8 := f28_8.keep Kq30
        have f31_9 := f28_9.keep Kq30 (ninS (ne_exa f28_8 f28_1 (by decide)) nin0)
        have f31_10 := f28_10.keep Kq30 (ninS (ne_exa f28_8 f28_1 (by decide)) nin0)
        have f31_11 := f28_11.keep Kq30 (ninS (Ne.symm (own_neY f28_1 (w 89 rfl) f28_11)) nin0)
        have u32_1 := u29_1.keep Kq30 (ninS (ne_exa f28_8 f28_1 (by decide)) nin0) (ninS (Ne.symm (own_neY f28_1 (w 89 rfl) f28_11)) nin0)
        have Z30 : n0 ≤ T30.heap.size := Nat.le_trans Z27 Kq30.1
        have K30 := K27.trans Kq30 (allS (Or.inl (by simp)) all0)
        have ne_r0_t30 : r0 ≠ t30 := Nat.ne_of_lt (Nat.lt_of_lt_of_le f28_1.lt szq30)
        have ne_ta_t30 : ta ≠ t30 := Nat.ne_of_lt (Nat.lt_of_lt_of_le f28_6.lt szq30)
        have ne_r1_t30 : r1 ≠ t30 := Nat.ne_of_lt (Nat.lt_of_lt_of_le f28_8.lt szq30)
        have ne_ts_t30 : ts ≠ t30 := Nat.ne_of_lt (Nat.lt_of_lt_of_le f28_11.lt szq30)
        have sz_t30 : h0.size ≤ t30 := Nat.le_trans K27.1 szq30
        have g_t30 : n0 ≤ t30 := Nat.le_trans Z27 szq30
        obtain ⟨_, T33, L33, X33, hQ33, st33⟩ := own_cV X30 hx hml hZ hown (rm_sva l Z a0 hw r1 ts T30.heap n0 Z30 f31_10) (w 147 rfl) (w 149 rfl) (w 11 rfl) (w 151 rfl) (w 148 rfl) (w 150 rfl) (own_nfS hZ (w 150 rfl)) f31_8 rfl (g := (mkF m 98 #[vr r0, vr r1, vi (0 : Int32), vi (Int32.ofNat i), vr ta, vi (Int32.ofNat ji), vi (Int32.ofNat ji), vi (li.getD ji 0)] [(.ref r1)])) (argsL := []) (rest := []) (W := 0) (lenOf own_pd33 rfl) (b d27_98)
        obtain ⟨rfl, Nq33, e33⟩ := hQ33
        have N33 := Fr.app N30 Nq33
        obtain ⟨T34, X34, e34, st34⟩ := getF X33 hx hZ hown (host := "") (Or.inl (w 102 rfl)) Via.refl e33 Fq30v (g := (mkF m 106 #[vr r0, vr r1, vi (0 : Int32), vi (Int32.ofNat i), vr ta, vi (Int32.ofNat ji), vi (Int32.ofNat ji), vi (li.getD ji 0)] [(.ref r0), (.int (Int32.ofNat (2 * ji))), (.ref ts)])) rfl rfl (b d27_106)
        obtain ⟨T35, h35, L35, X35, e35, N35, K35c, Y35, st35⟩ := own_cp X34 hx hZ hown (w 152 rfl) (w 155 rfl) (w 153 rfl) (w 154 rfl) e34 (sp := (2 * ji)) (dp := (2 * ji)) (nn := (2 * (i - ji))) f31_11 Yq30 (by omega) (by omega) N33 g_t30 (g' := (mkF m 119 #[vr r0, vr r1, vi (0 : Int32), vi (Int32.ofNat i), vr ta, vi (Int32.ofNat ji), vi (Int32.ofNat ji), vi (li.getD ji 0)] [(.int (Int32.ofNat (2 * (i - ji)))), (.int (Int32.ofNat (2 * ji))), (.ref t30), (.int (Int32.ofNat (2 * ji))), (.ref ts)])) rfl (by rw [hml]; rfl) rfl (b d27_119) (by decide) (W := 0) (by show 2 * 0 + _ ≤ _; exact Nat.le_of_eq rfl) (by decide)
        have f36_1 := Eq30.keep K35c
        have f36_2 := f31_6.keep K35c (ninS ne_ta_t30 nin0)
        have f36_3 := f31_7.keep K35c
        have od36 := od31.keep K35c (allS g_t30 all0)
        have f36_4 := f31_8.keep K35c
        have f36_5 := f31_9.keep K35c (ninS ne_r1_t30 nin0)
        have f36_6 := f31_10.keep K35c (ninS ne_r1_t30 nin0)
        have f36_7 := f31_11.keep K35c (ninS ne_ts_t30 nin0)
        have f36_8 := Fq30c.keep K35c (ninS ne_r0_t30 nin0)
        have f36_9 := Fq30v.keep K35c (ninS ne_r0_t30 nin0)
        have f36_10 := Fq30k.keep K35c (ninS ne_r0_t30 nin0)
        have f36_11 := Fq30m.keep K35c (ninS ne_r0_t30 nin0)
        have f36_13 := Exq30.keep K35c
        have u37_1 := u32_1.keep K35c (ninS ne_r1_t30 nin0) (ninS ne_ts_t30 nin0)
        have Z35 : n0 ≤ h35.size := Nat.le_trans Z30 K35c.1
        have K35 := K30.trans K35c (allS (Or.inr sz_t30) all0)
        obtain ⟨T38, X38, e38, st38⟩ := getF X35 hx hZ hown (host := "") (Or.inl (w 128 rfl)) Via.refl e35 f36_10 (g := (mkF m 124 #[vr r0, vr r1, vi (0 : Int32), vi (Int32.ofNat i), vr ta, vi (Int32.ofNat ji), vi (Int32.ofNat ji), vi (li.getD ji 0)] [(.ref r0), (.ref r0)])) rfl rfl (b d27_124)
        obtain ⟨T39, h39, X39, e39, W39, st39⟩ := putF X38 hx hZ hown (host := "") (Or.inl (w 128 rfl)) Via.refl e38 f36_10 f36_1 (Or.inl (w 129 rfl)) (w 89 rfl) (ty := .int) (by decide) rfl rfl (g := (mkF m 132 #[vr r0, vr r1, vi (0 : Int32), vi (Int32.ofNat i), vr ta, vi (Int32.ofNat ji), vi (Int32.ofNat ji), vi (li.getD ji 0)] [(.int (Int32.ofNat (ji + (i - ji)))), (.ref r0)])) rfl rfl (b d27_132)
        have Fw39 := f36_10.same W39
        have f40_1 := f36_1.wr W39
        have f40_2 := f36_2.other W39 (Ne.symm (own_neY f36_1 (w 89 rfl) f36_2))
        have f40_3 := f36_3.wr W39
        have od40 := od36.wr W39 g_r0
        have f40_4 := f36_4.wr W39
        have f40_5 := f36_5.other W39 (Or.inl (ne_exa f36_4 f36_1 (by decide)))
        have f40_6 := f36_6.other W39 (Or.inl (ne_exa f36_4 f36_1 (by decide)))
        have f40_7 := f36_7.other W39 (Ne.symm (own_neY f36_1 (w 89 rfl) f36_7))
        have f40_8 := f36_8.other W39 (Or.inr (slot_ne (Or.inl (w 105 rfl)) (Or.inl (w 129 rfl)) (by decide) (t := .byte) (t' := .int) (by decide) (by decide)))
        have f40_9 := f36_9.other W39 (Or.inr (slot_ne (Or.inl (w 103 rfl)) (Or.inl (w 129 rfl)) (by decide) (t := (.array .byte)) (t' := .int) (by decide) (by decide)))
        have f40_11 := f36_11.other W39 (Or.inr (slot_ne (Or.inl (w 283 rfl)) (Or.inl (w 129 rfl)) (by decide) (t := .boolean) (t' := .int) (by decide) (by decide)))
        have f40_12 := Y35.other W39 (Ne.symm ne_r0_t30)
        have f40_13 := f36_13.wr W39
        have u41_1 := u37_1.keep (Keep.of_wr W39) (ninS (ne_exa f36_4 f36_1 (by decide)) nin0) (ninS (Ne.symm (own_neY f36_1 (w 89 rfl) f36_7)) nin0)
        have N39 := Fr.snoc X39 N35 g_r0
        have Z39 : n0 ≤ h39.size := Nat.le_trans Z35 (Keep.of_wr W39).1
        have K39 := K35.wr W39 (Or.inl (by simp))
        have pre42 : Pr p e below s₁ E0 T39 (mkF m 135 #[vr r0, vr r1, vi (0 : Int32), vi (Int32.ofNat i), vr ta, vi (Int32.ofNat ji), vi (Int32.ofNat ji), vi (li.getD ji 0)] []) := fun t k => pre26 t (by
          refine XS.ifYes X24.here hx rfl (pc0 := 70) (pc' := 87) rfl (b d27_70) rfl ((if0 _ _).trans (teq hc25).1) (by decide) (by decide) ?_
          refine XS.aloadN X24.here hx rfl (b d27_87) rfl rfl ?_
          refine XS.iload X24.here hx rfl (b d27_88) rfl ?_
          refine st27 _ ?_
          show Sp p e below T27 (mkF m 93 #[vr r0, vr r1, vi (0 : Int32), vi (Int32.ofNat i), vr ta, vi (Int32.ofNat ji), vi (Int32.ofNat ji), vi (li.getD ji 0)] []) t
          refine XS.aloadN X27.here hx rfl (b d27_93) rfl rfl ?_
          refine st30 _ ?_
          show Sp p e below T30 (mkF m 97 #[vr r0, vr r1, vi (0 : Int32), vi (Int32.ofNat i), vr ta, vi (Int32.ofNat ji), vi (Int32.ofNat ji), vi (li.getD ji 0)] []) t
          refine XS.aloadN X30.here hx rfl (b d27_97) rfl rfl ?_
          refine st33 _ ?_
          show Sp p e below T33 (mkF m 101 #[vr r0, vr r1, vi (0 : Int32), vi (Int32.ofNat i), vr ta, vi (Int32.ofNat ji), vi (Int32.ofNat ji), vi (li.getD ji 0)] [(.ref ts)]) t
          refine XS.iload X33.here hx rfl (b d27_101) rfl ?_
          refine XS.iconst X33.here hx rfl (b d27_103) ?_
          refine XS.ishl X33.here hx rfl (b d27_104) rfl ?_
          show Sp p e below T33 (mkF m 105 #[vr r0, vr r1, vi (0 : Int32), vi (Int32.ofNat i), vr ta, vi (Int32.ofNat ji), vi (Int32.ofNat ji), vi (li.getD ji 0)] [(.int ((Int32.ofNat ji) <<< ((1 : Int32) &&& 31))), (.ref ts)]) t
          rw [own_shl (a := ji) (by omega)]
          show Sp p e below T33 (mkF m 105 #[vr r0, vr r1, vi (0 : Int32), vi (Int32.ofNat i), vr ta, vi (Int32.ofNat ji), vi (Int32.ofNat ji), vi (li.getD ji 0)] [(.int (Int32.ofNat (2 * ji))), (.ref ts)]) t
          refine XS.aloadN X33.here hx rfl (b d27_105) rfl rfl ?_
          refine st34 _ ?_
          show Sp p e below T34 (mkF m 109 #[vr r0, vr r1, vi (0 : Int32), vi (Int32.ofNat i), vr ta, vi (Int32.ofNat ji), vi (Int32.ofNat ji), vi (li.getD ji 0)] [(.ref t30), (.int (Int32.ofNat (2 * ji))), (.ref ts)]) t
          refine XS.iload X34.here hx rfl (b d27_109) rfl ?_
          refine XS.iconst X34.here hx rfl (b d27_111) ?_
          refine XS.ishl X34.here hx rfl (b d27_112) rfl ?_
          show Sp p e below T34 (mkF m 113 #[vr r0, vr r1, vi (0 : Int32), vi (Int32.ofNat i), vr ta, vi (Int32.ofNat ji), vi (Int32.ofNat ji), vi (li.getD ji 0)] [(.int ((Int32.ofNat ji) <<< ((1 : Int32) &&& 31))), (.ref t30), (.int (Int32.ofNat (2 * ji))), (.ref ts)]) t
          rw [own_shl (a := ji) (by omega)]
          show Sp p e below T34 (mkF m 113 #[vr r0, vr r1, vi (0 : Int32), vi (Int32.ofNat i), vr ta, vi (Int32.ofNat ji), vi (Int32.ofNat ji), vi (li.getD ji 0)] [(.int (Int32.ofNat (2 * ji))), (.ref t30), (.int (Int32.ofNat (2 * ji))), (.ref ts)]) t
          refine XS.iloadN X34.here hx rfl (b d27_113) rfl ?_
          refine XS.iload X34.here hx rfl (b d27_114) rfl ?_
          refine XS.isub X34.here hx rfl (b d27_116) rfl ?_
          show Sp p e below T34 (mkF m 117 #[vr r0, vr r1, vi (0 : Int32), vi (Int32.ofNat i), vr ta, vi (Int32.ofNat ji), vi (Int32.ofNat ji), vi (li.getD ji 0)] [(.int ((Int32.ofNat i) - (Int32.ofNat ji))), (.int (Int32.ofNat (2 * ji))), (.ref t30), (.int (Int32.ofNat (2 * ji))), (.ref ts)]) t
          rw [own_s (a := i) (b := ji) (by omega) (by omega)]
          show Sp p e below T34 (mkF m 117 #[vr r0, vr r1, vi (0 : Int32), vi (Int32.ofNat i), vr ta, vi (Int32.ofNat ji), vi (Int32.ofNat ji), vi (li.getD ji 0)] [(.int (Int32.ofNat (i - ji))), (.int (Int32.ofNat (2 * ji))), (.ref t30), (.int (Int32.ofNat (2 * ji))), (.ref ts)]) t
          refine XS.iconst X34.here hx rfl (b d27_117) ?_
          refine XS.ishl X34.here hx rfl (b d27_118) rfl ?_
          show Sp p e below T34 (mkF m 119 #[vr r0, vr r1, vi (0 : Int32), vi (Int32.ofNat i), vr ta, vi (Int32.ofNat ji), vi (Int32.ofNat ji), vi (li.getD ji 0)] [(.int ((Int32.ofNat (i - ji)) <<< ((1 : Int32) &&& 31))), (.int (Int32.ofNat (2 * ji))), (.ref t30), (.int (Int32.ofNat (2 * ji))), (.ref ts)]) t
          rw [own_shl (a := (i - ji)) (by omega)]
          show Sp p e below T34 (mkF m 119 #[vr r0, vr r1, vi (0 : Int32), vi (Int32.ofNat i), vr ta, vi (Int32.ofNat ji), vi (Int32.ofNat ji), vi (li.getD ji 0)] [(.int (Int32.ofNat (2 * (i - ji)))), (.int (Int32.ofNat (2 * ji))), (.ref t30), (.int (Int32.ofNat (2 * ji))), (.ref ts)]) t
          refine st35 _ ?_
          show Sp p e below T35 (mkF m 122 #[vr r0, vr r1, vi (0 : Int32), vi (Int32.ofNat i), vr ta, vi (Int32.ofNat ji), vi (Int32.ofNat ji), vi (li.getD ji 0)] []) t
          refine XS.aloadN X35.here hx rfl (b d27_122) rfl rfl ?_
          refine XS.dup X35.here hx rfl (b d27_123) rfl rfl ?_
          refine st38 _ ?_
          show Sp p e below T38 (mkF m 127 #[vr r0, vr r1, vi (0 : Int32), vi (Int32.ofNat i), vr ta, vi (Int32.ofNat ji), vi (Int32.ofNat ji), vi (li.getD ji 0)] [(.int (Int32.ofNat ji)), (.ref r0)]) t
          refine XS.iloadN X38.here hx rfl (b d27_127) rfl ?_
          refine XS.iload X38.here hx rfl (b d27_128) rfl ?_
          refine XS.isub X38.here hx rfl (b d27_130) rfl ?_
          show Sp p e below T38 (mkF m 131 #[vr r0, vr r1, vi (0 : Int32), vi (Int32.ofNat i), vr ta, vi (Int32.ofNat ji), vi (Int32.ofNat ji), vi (li.getD ji 0)] [(.int ((Int32.ofNat i) - (Int32.ofNat ji))), (.int (Int32.ofNat ji)), (.ref r0)]) t
          rw [own_s (a := i) (b := ji) (by omega) (by omega)]
          show Sp p e below T38 (mkF m 131 #[vr r0, vr r1, vi (0 : Int32), vi (Int32.ofNat i), vr ta, vi (Int32.ofNat ji), vi (Int32.ofNat ji), vi (li.getD ji 0)] [(.int (Int32.ofNat (i - ji))), (.int (Int32.ofNat ji)), (.ref r0)]) t
          refine XS.iadd X38.here hx rfl (b d27_131) rfl ?_
          show Sp p e below T38 (mkF m 132 #[vr r0, vr r1, vi (0 : Int32), vi (Int32.ofNat i), vr ta, vi (Int32.ofNat ji), vi (Int32.ofNat ji), vi (li.getD ji 0)] [(.int ((Int32.ofNat ji) + (Int32.ofNat (i - ji)))), (.ref r0)]) t
          rw [own_a ji (i - ji)]
          show Sp p e below T38 (mkF m 132 #[vr r0, vr r1, vi (0 : Int32), vi (Int32.ofNat i), vr ta, vi (Int32.ofNat ji), vi (Int32.ofNat ji), vi (li.getD ji 0)] [(.int (Int32.ofNat (ji + (i - ji)))), (.ref r0)]) t
          refine st39 _ ?_
          exact k)
        exact own_end X39 hlk (v := none) (fun _ => rfl) pre42 (fun fs hr => X39.returnOut hx hret (b d27_135) hr) (by rw [e39]; exact ⟨rfl, N39, K39, t30, Or.inr sz_t30, Sb.mk' f40_1 f40_8 f40_9 Fw39 f40_11 f40_12 f40_13 (by rw [List.length_take]; omega) (Cod.ofU rfl (own_Chst i hch1) (own_EUt hE1 hch1 hji hg (by omega) hq30)) (by rw [List.length_take]; omega) (by omega)⟩)
      · obtain ⟨qn43, cl43, Ar43, S43, H43⟩ := id lf20_5
        obtain ⟨T44, h44, X44, e44, W44, st44⟩ := stB X24 hx hZ e24 Ar43 (j := (Int32.ofNat ji)) (own_in qn43 S43 (show ji < cap by omega)) (g := (mkF m 83 #[vr r0, vr r1, vi (0 : Int32), vi (Int32.ofNat i), vr ta, vi (Int32.ofNat ji), vi (Int32.ofNat (ji + 1)), vi (li.getD ji 0)] [(.int ((li.getD ji 0).toInt8.toInt32)), (.int (Int32.ofNat ji)), (.ref ta)])) rfl rfl (b d27_83)
        have Y44 : Ay Z h44 ta .byte cap (fun x => if x = ji then (nar .byte ((li.getD ji 0).toInt8.toInt32)) else g x) := Ay.put qn43 Ar43 S43 H43 (show ji < cap by omega) W44 (fits_nar_byte _)
        have f45_1 := lf20_0.wr W44
        have f45_2 := lf20_1.other W44 (Or.inl (own_neY lf20_0 (w 89 rfl) lf20_5))
        have f45_3 := lf20_2.other W44 (Or.inl (own_neY lf20_0 (w 89 rfl) lf20_5))
        have f45_4 := lf20_3.other W44 (Or.inl (own_neY lf20_0 (w 89 rfl) lf20_5))
        have f45_5 := lf20_4.other W44 (Or.inl (own_neY lf20_0 (w 89 rfl) lf20_5))
        have f45_7 := lf20_6.wr W44
        have od45 := lf20_8.wr W44 g_ta
        have f45_8 := lf20_9.wr W44
        have f45_9 := lf20_10.other W44 (Or.inl (own_neY lf20_9 (w 10 rfl) lf20_5))
        have f45_10 := lf20_11.other W44 (Or.inl (own_neY lf20_9 (w 10 rfl) lf20_5))
        have f45_11 := lf20_12.other W44 hts
        have u46_1 := lf20_7.keep (Keep.of_wr W44) (ninS (own_neY lf20_9 (w 10 rfl) lf20_5) nin0) (ninS hts nin0)
        have N44 := Fr.snoc X44 N24 g_ta
        have Z44 : n0 ≤ h44.size := Nat.le_trans Z20 (Keep.of_wr W44).1
        have K44 := K20.wr W44 (Or.inl (by simp))
        have pre47 : Pr p e below s₁ E0 T44 (mkF m 51 #[vr r0, vr r1, vi (0 : Int32), vi (Int32.ofNat i), vr ta, vi (Int32.ofNat (ji + 1)), vi (Int32.ofNat (ji + 1)), vi (li.getD ji 0)] []) := fun t k => pre26 t (by
          refine XS.ifNo X24.here hx rfl (b d27_70) rfl ((if0 _ _).trans (feq hc25).1) ?_
          refine XS.aload X24.here hx rfl (b d27_73) rfl rfl ?_
          refine XS.iload X24.here hx rfl (b d27_75) rfl ?_
          refine XS.iinc X24.here hx rfl (b d27_77) rfl (l' := #[vr r0, vr r1, vi (0 : Int32), vi (Int32.ofNat i), vr ta, vi (Int32.ofNat ji), vi ((Int32.ofNat ji) + (1 : Int32)), vi (li.getD ji 0)]) rfl ?_
          show Sp p e below T24 (mkF m 80 #[vr r0, vr r1, vi (0 : Int32), vi (Int32.ofNat i), vr ta, vi (Int32.ofNat ji), vi ((Int32.ofNat ji) + (1 : Int32)), vi (li.getD ji 0)] [(.int (Int32.ofNat ji)), (.ref ta)]) t
          rw [own_a1 ji]
          show Sp p e below T24 (mkF m 80 #[vr r0, vr r1, vi (0 : Int32), vi (Int32.ofNat i), vr ta, vi (Int32.ofNat ji), vi (Int32.ofNat (ji + 1)), vi (li.getD ji 0)] [(.int (Int32.ofNat ji)), (.ref ta)]) t
          refine XS.iload X24.here hx rfl (b d27_80) rfl ?_
          refine XS.i2b X24.here hx rfl (b d27_82) rfl ?_
          refine st44 _ ?_
          show Sp p e below T44 (mkF m 84 #[vr r0, vr r1, vi (0 : Int32), vi (Int32.ofNat i), vr ta, vi (Int32.ofNat ji), vi (Int32.ofNat (ji + 1)), vi (li.getD ji 0)] []) t
          refine XS.goto X44.here hx rfl (pc0 := 84) (pc' := 136) rfl (b d27_84) (by decide) (by decide) ?_
          refine XS.iinc X44.here hx rfl (b d27_136) rfl (l' := #[vr r0, vr r1, vi (0 : Int32), vi (Int32.ofNat i), vr ta, vi ((Int32.ofNat ji) + (1 : Int32)), vi (Int32.ofNat (ji + 1)), vi (li.getD ji 0)]) rfl ?_
          show Sp p e below T44 (mkF m 139 #[vr r0, vr r1, vi (0 : Int32), vi (Int32.ofNat i), vr ta, vi ((Int32.ofNat ji) + (1 : Int32)), vi (Int32.ofNat (ji + 1)), vi (li.getD ji 0)] []) t
          rw [own_a1 ji]
          show Sp p e below T44 (mkF m 139 #[vr r0, vr r1, vi (0 : Int32), vi (Int32.ofNat i), vr ta, vi (Int32.ofNat (ji + 1)), vi (Int32.ofNat (ji + 1)), vi (li.getD ji 0)] []) t
          refine XS.goto X44.here hx rfl (pc0 := 139) (pc' := 51) rfl (b d27_139) (by decide) (by decide) ?_
          exact k)
        -- local 7: (li.getD ji 0) / (vi (li.getD ji 0))
        exact ih20 (i - (ji + 1)) (by omega) ⟨(ji + 1), (fun x => if x = ji then (nar .byte ((li.getD ji 0).toInt8.toInt32)) else g x), (vi (li.getD ji 0)), T44, _, h44, rfl, (by omega), (own_apL hg (own_ceF hc25)), (Or.inr ⟨_, rfl⟩), X44, N44, e44, Z44, K44, f45_1, f45_2, f45_3, f45_4, f45_5, Y44, f45_7, u46_1, od45, f45_8, f45_9, f45_10, f45_11, pre47⟩
    · obtain ⟨T48, X48, e48, st48⟩ := getF X20 hx hZ hown (host := "") (Or.inl (w 128 rfl)) Via.refl e20 lf20_3 (g := (mkF m 196 #[vr r0, vr r1, vi (0 : Int32), vi (Int32.ofNat i), vr ta, vi (Int32.ofNat ji), vi (Int32.ofNat ji), q7] [(.ref r0), (.ref r0)])) rfl rfl (b d27_196)
      obtain ⟨T49, h49, X49, e49, W49, st49⟩ := putF X48 hx hZ hown (host := "") (Or.inl (w 128 rfl)) Via.refl e48 lf20_3 lf20_0 (Or.inl (w 129 rfl)) (w 89 rfl) (ty := .int) (by decide) rfl rfl (g := (mkF m 203 #[vr r0, vr r1, vi (0 : Int32), vi (Int32.ofNat i), vr ta, vi (Int32.ofNat ji), vi (Int32.ofNat ji), q7] [(.int (Int32.ofNat i)), (.ref r0)])) rfl rfl (b d27_203)
      have Fw49 := lf20_3.same W49
      have f50_1 := lf20_0.wr W49
      have f50_2 := lf20_1.other W49 (Or.inr (slot_ne (Or.inl (w 105 rfl)) (Or.inl (w 129 rfl)) (by decide) (t := .byte) (t' := .int) (by decide) (by decide)))
      have f50_3 := lf20_2.other W49 (Or.inr (slot_ne (Or.inl (w 103 rfl)) (Or.inl (w 129 rfl)) (by decide) (t := (.array .byte)) (t' := .int) (by decide) (by decide)))
      have f50_5 := lf20_4.other W49 (Or.inr (slot_ne (Or.inl (w 283 rfl)) (Or.inl (w 129 rfl)) (by decide) (t := .boolean) (t' := .int) (by decide) (by decide)))
      have f50_6 := lf20_5.other W49 (Ne.symm (own_neY lf20_0 (w 89 rfl) lf20_5))
      have f50_7 := lf20_6.wr W49
      have od50 := lf20_8.wr W49 g_r0
      have f50_8 := lf20_9.wr W49
      have f50_9 := lf20_10.other W49 (Or.inl (ne_exa lf20_9 lf20_0 (by decide)))
      have f50_10 := lf20_11.other W49 (Or.inl (ne_exa lf20_9 lf20_0 (by decide)))
      have f50_11 := lf20_12.other W49 (Ne.symm (own_neY lf20_0 (w 89 rfl) lf20_12))
      have u51_1 := lf20_7.keep (Keep.of_wr W49) (ninS (ne_exa lf20_9 lf20_0 (by decide)) nin0) (ninS (Ne.symm (own_neY lf20_0 (w 89 rfl) lf20_12)) nin0)
      have N49 := Fr.snoc X49 N20 g_r0
      have Z49 : n0 ≤ h49.size := Nat.le_trans Z20 (Keep.of_wr W49).1
      have K49 := K20.wr W49 (Or.inl (by simp))
      have pre52 : Pr p e below s₁ E0 T49 (mkF m 206 #[vr r0, vr r1, vi (0 : Int32), vi (Int32.ofNat i), vr ta, vi (Int32.ofNat ji), vi (Int32.ofNat ji), q7] []) := fun t k => pre22 t (by
        refine XS.icmpYes X20.here hx rfl (pc0 := 54) (pc' := 142) rfl (b d27_54) rfl (flt (own_ltF (a := ji) (b := i) hc21 (by omega))).2.1 (by decide) (by decide) ?_
        refine XS.goto X20.here hx rfl (pc0 := 142) (pc' := 194) rfl (b d27_142) (by decide) (by decide) ?_
        refine XS.aloadN X20.here hx rfl (b d27_194) rfl rfl ?_
        refine XS.dup X20.here hx rfl (b d27_195) rfl rfl ?_
        refine st48 _ ?_
        show Sp p e below T48 (mkF m 199 #[vr r0, vr r1, vi (0 : Int32), vi (Int32.ofNat i), vr ta, vi (Int32.ofNat ji), vi (Int32.ofNat ji), q7] [(.int (0 : Int32)), (.ref r0)]) t
        refine XS.iloadN X48.here hx rfl (b d27_199) rfl ?_
        refine XS.iloadN X48.here hx rfl (b d27_200) rfl ?_
        refine XS.isub X48.here hx rfl (b d27_201) rfl ?_
        show Sp p e below T48 (mkF m 202 #[vr r0, vr r1, vi (0 : Int32), vi (Int32.ofNat i), vr ta, vi (Int32.ofNat ji), vi (Int32.ofNat ji), q7] [(.int ((Int32.ofNat i) - (0 : Int32))), (.int (0 : Int32)), (.ref r0)]) t
        rw [own_s0 i]
        show Sp p e below T48 (mkF m 202 #[vr r0, vr r1, vi (0 : Int32), vi (Int32.ofNat i), vr ta, vi (Int32.ofNat ji), vi (Int32.ofNat ji), q7] [(.int (Int32.ofNat i)), (.int (0 : Int32)), (.ref r0)]) t
        refine XS.iadd X48.here hx rfl (b d27_202) rfl ?_
        show Sp p e below T48 (mkF m 203 #[vr r0, vr r1, vi (0 : Int32), vi (Int32.ofNat i), vr ta, vi (Int32.ofNat ji), vi (Int32.ofNat ji), q7] [(.int ((0 : Int32) + (Int32.ofNat i))), (.ref r0)]) t
        rw [own_0a i]
        show Sp p e below T48 (mkF m 203 #[vr r0, vr r1, vi (0 : Int32), vi (Int32.ofNat i), vr ta, vi (Int32.ofNat ji), vi (Int32.ofNat ji), q7] [(.int (Int32.ofNat i)), (.ref r0)]) t
        refine st49 _ ?_
        exact k)
      exact own_end X49 hlk (v := none) (fun _ => rfl) pre52 (fun fs hr => X49.returnOut hx hret (b d27_206) hr) (by rw [e49]; exact ⟨rfl, N49, K49, ta, Or.inl rfl, Sb.mk' f50_1 f50_2 f50_3 Fw49 f50_5 f50_6 f50_7 (by rw [List.length_take]; omega) (Cod.ofL rfl (own_Chst i hch1) (own_ELx fun x hx => hg x (by omega))) (by rw [List.length_take]; omega) (by omega)⟩)
abbrev C24 := jdk_68_method_27_code
theorem d24_0 : dk C24 0 (.aload_n 1) 1 := by decide +kernel
theorem d24_1 : dk C24 1 (.ifnonnull 6) 3 := by decide +kernel
theorem d24_7 : dk C24 7 (.iload_n 2) 1 := by decide +kernel
theorem d24_8 : dk C24 8 (.iload_n 3) 1 := by decide +kernel
theorem d24_9 : dk C24 9 (.aload_n 1) 1 := by decide +kernel
theorem d24_10 : dk C24 10 (.invokeinterface 47 1) 5 := by decide +kernel
theorem d24_15 : dk C24 15 (.getstatic 183) 3 := by decide +kernel
theorem d24_18 : dk C24 18 (.invokestatic 161) 3 := by decide +kernel
theorem d24_21 : dk C24 21 .pop 1 := by decide +kernel
theorem d24_22 : dk C24 22 (.iload_n 3) 1 := by decide +kernel
theorem d24_23 : dk C24 23 (.iload_n 2) 1 := by decide +kernel
theorem d24_24 : dk C24 24 .isub 1 := by decide +kernel
theorem d24_25 : dk C24 25 (.istore 4) 2 := by decide +kernel
theorem d24_27 : dk C24 27 (.aload_n 0) 1 := by decide +kernel
theorem d24_28 : dk C24 28 (.aload_n 0) 1 := by decide +kernel
theorem d24_29 : dk C24 29 (.getfield 79) 3 := by decide +kernel
theorem d24_32 : dk C24 32 (.iload 4) 2 := by decide +kernel
theorem d24_34 : dk C24 34 .iadd 1 := by decide +kernel
theorem d24_35 : dk C24 35 (.invokevirtual 100) 3 := by decide +kernel
theorem d24_38 : dk C24 38 (.aload_n 1) 1 := by decide +kernel
theorem d24_39 : dk C24 39 (.instanceof 1) 3 := by decide +kernel
theorem d24_42 : dk C24 42 (.ifCond .eq 16) 3 := by decide +kernel
theorem d24_45 : dk C24 45 (.aload_n 0) 1 := by decide +kernel
theorem d24_46 : dk C24 46 (.aload_n 1) 1 := by decide +kernel
theorem d24_47 : dk C24 47 (.checkcast 1) 3 := by decide +kernel
theorem d24_50 : dk C24 50 (.iload_n 2) 1 := by decide +kernel
theorem d24_51 : dk C24 51 (.iload_n 3) 1 := by decide +kernel
theorem d24_52 : dk C24 52 (.invokevirtual 232) 3 := by decide +kernel
theorem own_pd34 : parseMethodDescriptor "(Ljava/lang/String;II)V" = some ⟨[(.object "java/lang/String"), .int, .int], none⟩ := by decide +kernel
theorem d24_55 : dk C24 55 (.goto 10) 3 := by decide +kernel
theorem d24_65 : dk C24 65 (.aload_n 0) 1 := by decide +kernel
theorem d24_66 : dk C24 66 .areturn 1 := by decide +kernel
def Q_bas (Z : State) (r0 : Addr) (r1 : Addr) (ta : Addr) (ts : Addr) (cap : Nat) (li : List Int32) (i : Nat) (h0 : Heap) (n0 : Nat) (v : Option Value) (h : Heap) (L : List Loc) : Prop := v = some (.ref r0) ∧ Fr n0 L ∧ Keep h0 h [r0, ta] ∧ ∃ tn, (tn = ta ∨ h0.size ≤ tn) ∧ Sb Z h r0 tn cap (li.take i)
theorem rm_bas (l : Launch) (Z : State) (a0 : Array Value) (hw : Hw a0 Z) (r0 : Addr) (r1 : Addr) (ta : Addr) (ts : Addr) (cap : Nat) (li : List Int32) (i : Nat) (h0 : Heap) (n0 : Nat) (Z0 : n0 ≤ h0.size) (hst : own_St Z) (X00 : Old Z n0 h0) (E_r0 : Exa Z h0 r0 "java/lang/StringBuilder") (F_cd : Fld Z h0 r0 "java/lang/AbstractStringBuilder" "coder" "B" (.int (0 : Int32))) (F_va : Fld Z h0 r0 "java/lang/AbstractStringBuilder" "value" "[B" (.ref ta)) (F_ct : Fld Z h0 r0 "java/lang/AbstractStringBuilder" "count" "I" (.int (0 : Int32))) (F_ml : Fld Z h0 r0 "java/lang/AbstractStringBuilder" "maybeLatin1" "Z" (.int (0 : Int32))) (Y_ta : Ay Z h0 ta .byte cap (fun _ => 0)) (E_ta : Exa Z h0 ta "[B") (g_r0 : n0 ≤ r0) (g_ta : n0 ≤ ta) (U_r1 : Us Z h0 r1 ts li) (hts : ts ≠ ta) (hi : i ≤ li.length) (hic : i ≤ cap) (h5 : cap ≤ 5) (hl5 : li.length ≤ 5) : Mt l (⟨"java/lang/AbstractStringBuilder", "append", "(Ljava/lang/CharSequence;II)Ljava/lang/AbstractStringBuilder;"⟩ : MethodName) C24 5 (some (.object "java/lang/AbstractStringBuilder")) ({ frames := 7, cells := 1, slots := 10, locals := 108 } : Room) #[(.ref r0), (.ref r1), (.int (0 : Int32)), (.int (Int32.ofNat i))] Z h0 (Q_bas Z r0 r1 ta ts cap li i h0 n0) := by
  have w := own_w hw
  refine own_go (L0 := #[vr r0, vr r1, vi (0 : Int32), vi (Int32.ofNat i), vu]) n0 (plainFor_of_name own_pn25) (fun m => rfl) fun p e s m below meth c s₁ E0 hx b hml hown hnm hret hlk hZ X0 e0 N0 pre0 => ?_
  have K0 : Keep h0 h0 [r0, ta] := Keep.refl h0 _
  obtain ⟨G1, v2, v3, P1, r_v2, r_v3, O1, O2, O3, O4, O5, O6⟩ := id hst
  obtain ⟨_, T1, L1, X1, hQ1, st1⟩ := own_cI X0 hx hml hZ hown (rm_sle l Z a0 hw r1 ts li h0 n0 Z0 hst X00 U_r1) (w 116 rfl) (w 44 rfl) (w 11 rfl) (w 46 rfl) (w 117 rfl) (w 119 rfl) (mvT hZ (w 118 rfl)) (w 120 rfl) (w 121 rfl) (w 122 rfl) (U_r1.exa) e0 (g := (mkF m 10 #[vr r0, vr r1, vi (0 : Int32), vi (Int32.ofNat i), vu] [(.ref r1), (.int (Int32.ofNat i)), (.int (0 : Int32))])) (argsL := []) (rest := [(.int (Int32.ofNat i)), (.int (0 : Int32))]) (W := 2) (lenOf own_pd26 rfl) (b d24_10)
  obtain ⟨rfl, Nq1, e1⟩ := hQ1
  have N1 := Fr.app N0 Nq1
  obtain ⟨T2, X2, e2, st2⟩ := getS2 X1 hx hZ hown (host := "") (Or.inl (w 123 rfl)) Via.refl e1 (O3.ext X00.2) (g := (mkF m 15 #[vr r0, vr r1, vi (0 : Int32), vi (Int32.ofNat i), vu] [(.int (Int32.ofNat li.length)), (.int (Int32.ofNat i)), (.int (0 : Int32))])) rfl (b d24_15)
  obtain ⟨_, T3, L3, X3, hQ3, st3⟩ := own_cS X2 hx hml hZ hown (rm_cft l Z a0 hw v3 i li.length h0 n0 Z0 r_v3 (by omega) (by omega)) (w 125 rfl) (w 126 rfl) (w 70 rfl) (w 127 rfl) e2 (g := (mkF m 18 #[vr r0, vr r1, vi (0 : Int32), vi (Int32.ofNat i), vu] [v3, (.int (Int32.ofNat li.length)), (.int (Int32.ofNat i)), (.int (0 : Int32))])) (argsL := [(.int (0 : Int32)), (.int (Int32.ofNat i)), (.int (Int32.ofNat li.length)), v3]) (rest := []) (W := 0) (lenOf own_pd21 rfl) (b d24_18)
  obtain ⟨rfl, Nq3, e3⟩ := hQ3
  have N3 := Fr.app N1 Nq3
  obtain ⟨T4, X4, e4, st4⟩ := getF X3 hx hZ hown (host := "") (Or.inl (w 128 rfl)) Via.refl e3 F_ct (g := (mkF m 29 #[vr r0, vr r1, vi (0 : Int32), vi (Int32.ofNat i), vi (Int32.ofNat i)] [(.ref r0), (.ref r0)])) rfl rfl (b d24_29)
  obtain ⟨_, T5, L5, X5, hQ5, st5⟩ := own_cV X4 hx hml hZ hown (rm_eci0 l Z a0 hw r0 i ta cap (fun _ => 0) h0 n0 Z0 F_cd F_va Y_ta (by omega) (by omega)) (w 130 rfl) (w 131 rfl) (w 98 rfl) (w 134 rfl) (own_decl (w 131 rfl) (w 134 rfl)) (w 133 rfl) (own_nfS hZ (w 133 rfl)) E_r0 e4 (g := (mkF m 35 #[vr r0, vr r1, vi (0 : Int32), vi (Int32.ofNat i), vi (Int32.ofNat i)] [(.int (Int32.ofNat i)), (.ref r0)])) (argsL := [(.int (Int32.ofNat i))]) (rest := []) (W := 0) (lenOf own_pd28 rfl) (b d24_35)
  obtain ⟨rfl, Nq5, e5⟩ := hQ5
  have N5 := Fr.app N3 Nq5
  obtain ⟨T6, X6, e6, st6⟩ := instY X5 hx hZ hown (w 135 rfl) e5 (Ins.self (U_r1.exa)) (g := (mkF m 39 #[vr r0, vr r1, vi (0 : Int32), vi (Int32.ofNat i), vi (Int32.ofNat i)] [(.ref r1)])) rfl rfl (b d24_39)
  obtain ⟨T7, X7, e7, st7⟩ := castY X6 hx hZ hown (w 135 rfl) e6 (Ins.self (U_r1.exa)) (g := (mkF m 47 #[vr r0, vr r1, vi (0 : Int32), vi (Int32.ofNat i), vi (Int32.ofNat i)] [(.ref r1), (.ref r0)])) rfl rfl (b d24_47)
  obtain ⟨_, T8, L8, X8, hQ8, st8⟩ := own_cV X7 hx hml hZ hown (rm_ape l Z a0 hw r0 r1 ta ts cap li i h0 n0 Z0 hst X00 E_r0 F_cd F_va F_ct F_ml Y_ta E_ta g_r0 g_ta U_r1 hts (by omega) (by omega) (by omega)) (w 136 rfl) (w 137 rfl) (w 98 rfl) (w 140 rfl) (own_decl (w 137 rfl) (w 140 rfl)) (w 139 rfl) (own_nfS hZ (w 139 rfl)) E_r0 e7 (g := (mkF m 52 #[vr r0, vr r1, vi (0 : Int32), vi (Int32.ofNat i), vi (Int32.ofNat i)] [(.int (Int32.ofNat i)), (.int (0 : Int32)), (.ref r1), (.ref r0)])) (argsL := [(.ref r1), (.int (0 : Int32)), (.int (Int32.ofNat i))]) (rest := []) (W := 0) (lenOf own_pd34 rfl) (b d24_52)
  obtain ⟨rfl, Nq8, Kq8, t8, hor8, Bq8⟩ := hQ8
  have N8 := Fr.app N5 Nq8
  have f9_1 := E_r0.keep Kq8
  have f9_7 := E_ta.keep Kq8
  have od9 := X00.keep Kq8 (allS g_r0 (allS g_ta all0))
  have u10_1 := U_r1.keep Kq8 (ninS (ne_exa (U_r1.exa) E_r0 (by decide)) (ninS (own_neY (U_r1.exa) (w 10 rfl) Y_ta) nin0)) (ninS (Ne.symm (U_r1.neT E_r0 (w 89 rfl))) (ninS hts nin0))
  have Z8 : n0 ≤ T8.heap.size := Nat.le_trans Z0 Kq8.1
  have K8 := K0.trans Kq8 (allS (Or.inl (by simp)) (allS (Or.inl (by simp)) all0))
  have ne_ts_t8 : ts ≠ t8 := own_nor hor8 hts U_r1.ltt
  have g_t8 : n0 ≤ t8 := own_or hor8 g_ta Z0
  have pre11 : Pr p e below s₁ E0 T8 (mkF m 66 #[vr r0, vr r1, vi (0 : Int32), vi (Int32.ofNat i), vi (Int32.ofNat i)] [(.ref r0)]) := fun t k => pre0 t (by
    refine XS.aloadN X0.here hx rfl (b d24_0) rfl rfl ?_
    refine XS.ifnonnullYes X0.here hx rfl (pc0 := 1) (pc' := 7) rfl (b d24_1) rfl (by decide) (by decide) ?_
    refine XS.iloadN X0.here hx rfl (b d24_7) rfl ?_
    refine XS.iloadN X0.here hx rfl (b d24_8) rfl ?_
    refine XS.aloadN X0.here hx rfl (b d24_9) rfl rfl ?_
    refine st1 _ ?_
    show Sp p e below T1 (mkF m 15 #[vr r0, vr r1, vi (0 : Int32), vi (Int32.ofNat i), vu] [(.int (Int32.ofNat li.length)), (.int (Int32.ofNat i)), (.int (0 : Int32))]) t
    refine st2 _ ?_
    show Sp p e below T2 (mkF m 18 #[vr r0, vr r1, vi (0 : Int32), vi (Int32.ofNat i), vu] [v3, (.int (Int32.ofNat li.length)), (.int (Int32.ofNat i)), (.int (0 : Int32))]) t
    refine st3 _ ?_
    show Sp p e below T3 (mkF m 21 #[vr r0, vr r1, vi (0 : Int32), vi (Int32.ofNat i), vu] [(.int (0 : Int32))]) t
    refine XS.pop X3.here hx rfl (b d24_21) rfl rfl ?_
    refine XS.iloadN X3.here hx rfl (b d24_22) rfl ?_
    refine XS.iloadN X3.here hx rfl (b d24_23) rfl ?_
    refine XS.isub X3.here hx rfl (b d24_24) rfl ?_
    show Sp p e below T3 (mkF m 25 #[vr r0, vr r1, vi (0 : Int32), vi (Int32.ofNat i), vu] [(.int ((Int32.ofNat i) - (0 : Int32)))]) t
    rw [own_s0 i]
    show Sp p e below T3 (mkF m 25 #[vr r0, vr r1, vi (0 : Int32), vi (Int32.ofNat i), vu] [(.int (Int32.ofNat i))]) t
    refine XS.istore X3.here hx rfl (b d24_25) rfl (l' := #[vr r0, vr r1, vi (0 : Int32), vi (Int32.ofNat i), vi (Int32.ofNat i)]) rfl ?_
    refine XS.aloadN X3.here hx rfl (b d24_27) rfl rfl ?_
    refine XS.aloadN X3.here hx rfl (b d24_28) rfl rfl ?_
    refine st4 _ ?_
    show Sp p e below T4 (mkF m 32 #[vr r0, vr r1, vi (0 : Int32), vi (Int32.ofNat i), vi (Int32.ofNat i)] [(.int (0 : Int32)), (.ref r0)]) t
    refine XS.iload X4.here hx rfl (b d24_32) rfl ?_
    refine XS.iadd X4.here hx rfl (b d24_34) rfl ?_
    show Sp p e below T4 (mkF m 35 #[vr r0, vr r1, vi (0 : Int32), vi (Int32.ofNat i), vi (Int32.ofNat i)] [(.int ((0 : Int32) + (Int32.ofNat i))), (.ref r0)]) t
    rw [own_0a i]
    show Sp p e below T4 (mkF m 35 #[vr r0, vr r1, vi (0 : Int32), vi (Int32.ofNat i), vi (Int32.ofNat i)] [(.int (Int32.ofNat i)), (.ref r0)]) t
    refine st5 _ ?_
    show Sp p e below T5 (mkF m 38 #[vr r0, vr r1, vi (0 : Int32), vi (Int32.ofNat i), vi (Int32.ofNat i)] []) t
    refine XS.aloadN X5.here hx rfl (b d24_38) rfl rfl ?_
    refine st6 _ ?_
    show Sp p e below T6 (mkF m 42 #[vr r0, vr r1, vi (0 : Int32), vi (Int32.ofNat i), vi (Int32.ofNat i)] [(.int (1 : Int32))]) t
    refine XS.ifNo X6.here hx rfl (b d24_42) rfl ((if0 _ _).trans (feq (by decide : ¬ ((1 : Int32) = (0 : Int32)))).1) ?_
    refine XS.aloadN X6.here hx rfl (b d24_45) rfl rfl ?_
    refine XS.aloadN X6.here hx rfl (b d24_46) rfl rfl ?_
    refine st7 _ ?_
    show Sp p e below T7 (mkF m 50 #[vr r0, vr r1, vi (0 : Int32), vi (Int32.ofNat i), vi (Int32.ofNat i)] [(.ref r1), (.ref r0)]) t
    refine XS.iloadN X7.here hx rfl (b d24_50) rfl ?_
    refine XS.iloadN X7.here hx rfl (b d24_51) rfl ?_
    refine st8 _ ?_
    show Sp p e below T8 (mkF m 55 #[vr r0, vr r1, vi (0 : Int32), vi (Int32.ofNat i), vi (Int32.ofNat i)] []) t
    refine XS.goto X8.here hx rfl (pc0 := 55) (pc' := 65) rfl (b d24_55) (by decide) (by decide) ?_
    refine XS.aloadN X8.here hx rfl (b d24_65) rfl rfl ?_
    exact k)
  exact own_end X8 hlk (v := some (.ref r0)) (own_hv hret) pre11 (fun fs hr => own_ra X8 hx hret rfl (b d24_66) hr) ⟨rfl, N8, K8, _, hor8, Bq8⟩
abbrev C23 := jdk_67_method_10_code
theorem d23_0 : dk C23 0 (.aload_n 0) 1 := by decide +kernel
theorem d23_1 : dk C23 1 (.aload_n 1) 1 := by decide +kernel
theorem d23_2 : dk C23 2 (.iload_n 2) 1 := by decide +kernel
theorem d23_3 : dk C23 3 (.iload_n 3) 1 := by decide +kernel
theorem d23_4 : dk C23 4 (.invokespecial 38) 3 := by decide +kernel
theorem own_pd35 : parseMethodDescriptor "(Ljava/lang/CharSequence;II)Ljava/lang/AbstractStringBuilder;" = some ⟨[(.object "java/lang/CharSequence"), .int, .int], some (.object "java/lang/AbstractStringBuilder")⟩ := by decide +kernel
theorem d23_7 : dk C23 7 .pop 1 := by decide +kernel
theorem d23_8 : dk C23 8 (.aload_n 0) 1 := by decide +kernel
theorem d23_9 : dk C23 9 .areturn 1 := by decide +kernel
def Q_sas (Z : State) (r0 : Addr) (r1 : Addr) (ta : Addr) (ts : Addr) (cap : Nat) (li : List Int32) (i : Nat) (h0 : Heap) (n0 : Nat) (v : Option Value) (h : Heap) (L : List Loc) : Prop := v = some (.ref r0) ∧ Fr n0 L ∧ Keep h0 h [r0, ta] ∧ ∃ tn, (tn = ta ∨ h0.size ≤ tn) ∧ Sb Z h r0 tn cap (li.take i)
theorem rm_sas (l : Launch) (Z : State) (a0 : Array Value) (hw : Hw a0 Z) (r0 : Addr) (r1 : Addr) (ta : Addr) (ts : Addr) (cap : Nat) (li : List Int32) (i : Nat) (h0 : Heap) (n0 : Nat) (Z0 : n0 ≤ h0.size) (hst : own_St Z) (X00 : Old Z n0 h0) (E_r0 : Exa Z h0 r0 "java/lang/StringBuilder") (F_cd : Fld Z h0 r0 "java/lang/AbstractStringBuilder" "coder" "B" (.int (0 : Int32))) (F_va : Fld Z h0 r0 "java/lang/AbstractStringBuilder" "value" "[B" (.ref ta)) (F_ct : Fld Z h0 r0 "java/lang/AbstractStringBuilder" "count" "I" (.int (0 : Int32))) (F_ml : Fld Z h0 r0 "java/lang/AbstractStringBuilder" "maybeLatin1" "Z" (.int (0 : Int32))) (Y_ta : Ay Z h0 ta .byte cap (fun _ => 0)) (E_ta : Exa Z h0 ta "[B") (g_r0 : n0 ≤ r0) (g_ta : n0 ≤ ta) (U_r1 : Us Z h0 r1 ts li) (hts : ts ≠ ta) (hi : i ≤ li.length) (hic : i ≤ cap) (h5 : cap ≤ 5) (hl5 : li.length ≤ 5) : Mt l (⟨"java/lang/StringBuilder", "append", "(Ljava/lang/CharSequence;II)Ljava/lang/StringBuilder;"⟩ : MethodName) C23 4 (some (.object "java/lang/StringBuilder")) ({ frames := 8, cells := 1, slots := 10, locals := 124 } : Room) #[(.ref r0), (.ref r1), (.int (0 : Int32)), (.int (Int32.ofNat i))] Z h0 (Q_sas Z r0 r1 ta ts cap li i h0 n0) := by
  have w := own_w hw
  refine own_go (L0 := #[vr r0, vr r1, vi (0 : Int32), vi (Int32.ofNat i)]) n0 (plainFor_of_name own_pn27) (fun m => rfl) fun p e s m below meth c s₁ E0 hx b hml hown hnm hret hlk hZ X0 e0 N0 pre0 => ?_
  have K0 : Keep h0 h0 [r0, ta] := Keep.refl h0 _
  obtain ⟨_, T1, L1, X1, hQ1, st1⟩ := own_cU X0 hx hml hZ hown (rm_bas l Z a0 hw r0 r1 ta ts cap li i h0 n0 Z0 hst X00 E_r0 F_cd F_va F_ct F_ml Y_ta E_ta g_r0 g_ta U_r1 hts (by omega) (by omega) (by omega) (U_r1.five)) (w 111 rfl) (w 112 rfl) (w 98 rfl) (w 115 rfl) (own_same (y' := yIL) (by decide) (w 114 rfl) (w 144 rfl) (w 143 rfl) rfl) (w 113 rfl) (by decide) E_r0 e0 (g := (mkF m 4 #[vr r0, vr r1, vi (0 : Int32), vi (Int32.ofNat i)] [(.int (Int32.ofNat i)), (.int (0 : Int32)), (.ref r1), (.ref r0)])) (argsL := [(.ref r1), (.int (0 : Int32)), (.int (Int32.ofNat i))]) (rest := []) (W := 0) (lenOf own_pd35 rfl) (b d23_4)
  obtain ⟨rfl, Nq1, Kq1, t1, hor1, Bq1⟩ := hQ1
  have N1 := Fr.app N0 Nq1
  have f2_1 := E_r0.keep Kq1
  have f2_7 := E_ta.keep Kq1
  have od2 := X00.keep Kq1 (allS g_r0 (allS g_ta all0))
  have u3_1 := U_r1.keep Kq1 (ninS (ne_exa (U_r1.exa) E_r0 (by decide)) (ninS (own_neY (U_r1.exa) (w 10 rfl) Y_ta) nin0)) (ninS (Ne.symm (U_r1.neT E_r0 (w 89 rfl))) (ninS hts nin0))
  have Z1 : n0 ≤ T1.heap.size := Nat.le_trans Z0 Kq1.1
  have K1 := K0.trans Kq1 (allS (Or.inl (by simp)) (allS (Or.inl (by simp)) all0))
  have ne_ts_t1 : ts ≠ t1 := own_nor hor1 hts U_r1.ltt
  have g_t1 : n0 ≤ t1 := own_or hor1 g_ta Z0
  have pre4 : Pr p e below s₁ E0 T1 (mkF m 9 #[vr r0, vr r1, vi (0 : Int32), vi (Int32.ofNat i)] [(.ref r0)]) := fun t k => pre0 t (by
    refine XS.aloadN X0.here hx rfl (b d23_0) rfl rfl ?_
    refine XS.aloadN X0.here hx rfl (b d23_1) rfl rfl ?_
    refine XS.iloadN X0.here hx rfl (b d23_2) rfl ?_
    refine XS.iloadN X0.here hx rfl (b d23_3) rfl ?_
    refine st1 _ ?_
    show Sp p e below T1 (mkF m 7 #[vr r0, vr r1, vi (0 : Int32), vi (Int32.ofNat i)] [(.ref r0)]) t
    refine XS.pop X1.here hx rfl (b d23_7) rfl rfl ?_
    refine XS.aloadN X1.here hx rfl (b d23_8) rfl rfl ?_
    exact k)
  exact own_end X1 hlk (v := some (.ref r0)) (own_hv hret) pre4 (fun fs hr => own_ra X1 hx hret rfl (b d23_9) hr) ⟨rfl, N1, K1, _, hor1, Bq1⟩
abbrev C63 := jdk_52_method_22_code
theorem d63_0 : dk C63 0 (.iload_n 1) 1 := by decide +kernel
theorem d63_1 : dk C63 1 (.iload 4) 2 := by decide +kernel
theorem d63_3 : dk C63 3 (.aload_n 0) 1 := by decide +kernel
theorem d63_4 : dk C63 4 (.invokestatic 173) 3 := by decide +kernel
theorem d63_7 : dk C63 7 (.iconst 0) 1 := by decide +kernel
theorem d63_8 : dk C63 8 (.istore 5) 2 := by decide +kernel
theorem d63_10 : dk C63 10 (.iload 5) 2 := by decide +kernel
theorem d63_12 : dk C63 12 (.iload 4) 2 := by decide +kernel
theorem d63_14 : dk C63 14 (.if_icmp .ge 39) 3 := by decide +kernel
theorem d63_17 : dk C63 17 (.aload_n 0) 1 := by decide +kernel
theorem d63_18 : dk C63 18 (.iload_n 1) 1 := by decide +kernel
theorem d63_19 : dk C63 19 (.invokestatic 71) 3 := by decide +kernel
theorem d63_22 : dk C63 22 (.istore 6) 2 := by decide +kernel
theorem d63_24 : dk C63 24 (.iload 6) 2 := by decide +kernel
theorem d63_26 : dk C63 26 (.sipush 255) 3 := by decide +kernel
theorem d63_29 : dk C63 29 (.if_icmp .le 6) 3 := by decide +kernel
theorem d63_32 : dk C63 32 (.iload 5) 2 := by decide +kernel
theorem d63_34 : dk C63 34 .ireturn 1 := by decide +kernel
theorem d63_35 : dk C63 35 (.aload_n 2) 1 := by decide +kernel
theorem d63_36 : dk C63 36 (.iload_n 3) 1 := by decide +kernel
theorem d63_37 : dk C63 37 (.iload 6) 2 := by decide +kernel
theorem d63_39 : dk C63 39 .i2b 1 := by decide +kernel
theorem d63_40 : dk C63 40 .bastore 1 := by decide +kernel
theorem d63_41 : dk C63 41 (.iinc 1 1) 3 := by decide +kernel
theorem d63_44 : dk C63 44 (.iinc 3 1) 3 := by decide +kernel
theorem d63_47 : dk C63 47 (.iinc 5 1) 3 := by decide +kernel
theorem d63_50 : dk C63 50 (.goto (-40)) 3 := by decide +kernel
theorem d63_53 : dk C63 53 (.iload 4) 2 := by decide +kernel
theorem d63_55 : dk C63 55 .ireturn 1 := by decide +kernel
def Q_cb (Z : State) (r0 : Addr) (r2 : Addr) (n : Nat) (M : Nat) (f : Nat → Int32) (g0 : Nat → Int32) (h0 : Heap) (n0 : Nat) (v : Option Value) (h : Heap) (L : List Loc) : Prop := ∃ k g, v = some (.int (Int32.ofNat k)) ∧ Fr n0 L ∧ Keep h0 h [r2] ∧ Ay Z h r2 .byte n g ∧ k ≤ n ∧ (∀ j, j < k → g j = own_b ((fun x => own_gc (f (2 * x)) (f ((2 * x) + 1))) j) ∧ ¬ (255 : Int32) < (fun x => own_gc (f (2 * x)) (f ((2 * x) + 1))) j) ∧ (k < n → (255 : Int32) < (fun x => own_gc (f (2 * x)) (f ((2 * x) + 1))) k)
theorem rm_cb (l : Launch) (Z : State) (a0 : Array Value) (hw : Hw a0 Z) (r0 : Addr) (r2 : Addr) (n : Nat) (M : Nat) (f : Nat → Int32) (g0 : Nat → Int32) (h0 : Heap) (n0 : Nat) (Z0 : n0 ≤ h0.size) (hst : own_St Z) (X00 : Old Z n0 h0) (Y_r0 : Ay Z h0 r0 .byte (2 * M) f) (Y_r2 : Ay Z h0 r2 .byte n g0) (g_r2 : n0 ≤ r2) (ne02 : r0 ≠ r2) (hn : n ≤ M) (hM : M ≤ 5) : Mt l (⟨"java/lang/StringUTF16", "compress", "([BI[BII)I"⟩ : MethodName) C63 7 (some .int) ({ frames := 3, cells := 0, slots := 0, locals := 43 } : Room) #[(.ref r0), (.int (0 : Int32)), (.ref r2), (.int (0 : Int32)), (.int (Int32.ofNat n))] Z h0 (Q_cb Z r0 r2 n M f g0 h0 n0) := by
  have w := own_w hw
  refine own_go (L0 := #[vr r0, vi (0 : Int32), vr r2, vi (0 : Int32), vi (Int32.ofNat n), vu, vu]) n0 (plainFor_of_name own_pn3) (fun m => rfl) fun p e s m below meth c s₁ E0 hx b hml hown hnm hret hlk hZ X0 e0 N0 pre0 => ?_
  have K0 : Keep h0 h0 [r2] := Keep.refl h0 _
  obtain ⟨_, T1, L1, X1, hQ1, st1⟩ := own_cS X0 hx hml hZ hown (rm_ucb l Z a0 hw r0 n M f h0 n0 Z0 hst X00 Y_r0 (by omega) (by omega)) (w 269 rfl) (w 270 rfl) (w 25 rfl) (w 271 rfl) e0 (g := (mkF m 4 #[vr r0, vi (0 : Int32), vr r2, vi (0 : Int32), vi (Int32.ofNat n), vu, vu] [(.ref r0), (.int (Int32.ofNat n)), (.int (0 : Int32))])) (argsL := [(.int (0 : Int32)), (.int (Int32.ofNat n)), (.ref r0)]) (rest := []) (W := 0) (lenOf own_pd23 rfl) (b d63_4)
  obtain ⟨rfl, Nq1, e1⟩ := hQ1
  have N1 := Fr.app N0 Nq1
  have pre2 : Pr p e below s₁ E0 T1 (mkF m 10 #[vr r0, vi (0 : Int32), vr r2, vi (0 : Int32), vi (Int32.ofNat n), vi (0 : Int32), vu] []) := fun t k => pre0 t (by
    refine XS.iloadN X0.here hx rfl (b d63_0) rfl ?_
    refine XS.iload X0.here hx rfl (b d63_1) rfl ?_
    refine XS.aloadN X0.here hx rfl (b d63_3) rfl rfl ?_
    refine st1 _ ?_
    show Sp p e below T1 (mkF m 7 #[vr r0, vi (0 : Int32), vr r2, vi (0 : Int32), vi (Int32.ofNat n), vu, vu] []) t
    refine XS.iconst X1.here hx rfl (b d63_7) ?_
    refine XS.istore X1.here hx rfl (b d63_8) rfl (l' := #[vr r0, vi (0 : Int32), vr r2, vi (0 : Int32), vi (Int32.ofNat n), vi (0 : Int32), vu]) rfl ?_
    exact k)
  refine own_loop (fun k => ∃ (i : Nat) (g : Nat → Int32) (q6 : Slot) (T3 : State) (LL3 : List Loc) (H3 : Heap), n - i = k ∧ (i ≤ n) ∧ (∀ j, j < i → g j = own_b ((fun x => own_gc (f (2 * x)) (f ((2 * x) + 1))) j) ∧ ¬ (255 : Int32) < (fun x => own_gc (f (2 * x)) (f ((2 * x) + 1))) j) ∧ (q6 = .unset ∨ ∃ x, q6 = .val (.int x)) ∧ Stand p l e ({ frames := 3, cells := 0, slots := 0, locals := 43 } : Room) s m #[(.ref r0), (.int (0 : Int32)), (.ref r2), (.int (0 : Int32)), (.int (Int32.ofNat n))] below meth c T3 LL3 (0) (0) ∧ Fr n0 LL3 ∧ T3.heap = H3 ∧ n0 ≤ H3.size ∧ Keep h0 H3 [r2] ∧ (Ay Z H3 r0 .byte (2 * M) f) ∧ (Ay Z H3 r2 .byte n g) ∧ (Old Z n0 H3) ∧ Pr p e below s₁ E0 T3 (mkF m 10 #[vr r0, vi (Int32.ofNat i), vr r2, vi (Int32.ofNat i), vi (Int32.ofNat n), vi (Int32.ofNat i), q6] [])) ?_ _ ⟨0, g0, .unset, T1, _, h0, rfl, (by omega), (fun j hj => absurd hj (by omega)), (Or.inl rfl), X1, N1, e1, Z0, K0, Y_r0, Y_r2, X00, pre2⟩
  rintro k3 ⟨i, g, q6, T3, LL3, H3, hm3, hi, hg, hq6, X3, N3, e3, Z3, K3, lf3_0, lf3_1, lf3_2, pre3⟩ ih3
  have pre5 : Pr p e below s₁ E0 T3 (mkF m 14 #[vr r0, vi (Int32.ofNat i), vr r2, vi (Int32.ofNat i), vi (Int32.ofNat n), vi (Int32.ofNat i), q6] [(.int (Int32.ofNat n)), (.int (Int32.ofNat i))]) := fun t k => pre3 t (by
    refine XS.iload X3.here hx rfl (b d63_10) rfl ?_
    refine XS.iload X3.here hx rfl (b d63_12) rfl ?_
    exact k)
  by_cases hc4 : i < n
  · obtain ⟨_, T6, L6, X6, hQ6, st6⟩ := own_cS X3 hx hml hZ hown (rm_gc l Z a0 hw r0 i (2 * M) f H3 n0 Z3 hst lf3_2 lf3_0 (by omega) (by omega)) (w 243 rfl) (w 244 rfl) (w 25 rfl) (w 245 rfl) e3 (g := (mkF m 19 #[vr r0, vi (Int32.ofNat i), vr r2, vi (Int32.ofNat i), vi (Int32.ofNat n), vi (Int32.ofNat i), q6] [(.int (Int32.ofNat i)), (.ref r0)])) (argsL := [(.ref r0), (.int (Int32.ofNat i))]) (rest := []) (W := 0) (lenOf own_pd9 rfl) (b d63_19)
    obtain ⟨rfl, Nq6, e6⟩ := hQ6
    have N6 := Fr.app N3 Nq6
    have pre8 : Pr p e below s₁ E0 T6 (mkF m 29 #[vr r0, vi (Int32.ofNat i), vr r2, vi (Int32.ofNat i), vi (Int32.ofNat n), vi (Int32.ofNat i), vi (own_gc (f (2 * i)) (f ((2 * i) + 1)))] [(.int (255 : Int32)), (.int (own_gc (f (2 * i)) (f ((2 * i) + 1))))]) := fun t k => pre5 t (by
      refine XS.icmpNo X3.here hx rfl (b d63_14) rfl (tlt (own_ltT (a := i) (b := n) hc4 (by omega))).2.1 ?_
      refine XS.aloadN X3.here hx rfl (b d63_17) rfl rfl ?_
      refine XS.iloadN X3.here hx rfl (b d63_18) rfl ?_
      refine st6 _ ?_
      show Sp p e below T6 (mkF m 22 #[vr r0, vi (Int32.ofNat i), vr r2, vi (Int32.ofNat i), vi (Int32.ofNat n), vi (Int32.ofNat i), q6] [(.int (own_gc (f (2 * i)) (f ((2 * i) + 1))))]) t
      refine XS.istore X6.here hx rfl (b d63_22) rfl (l' := #[vr r0, vi (Int32.ofNat i), vr r2, vi (Int32.ofNat i), vi (Int32.ofNat n), vi (Int32.ofNat i), vi (own_gc (f (2 * i)) (f ((2 * i) + 1)))]) (by rcases hq6 with rfl | ⟨x, rfl⟩ <;> rfl) ?_
      refine XS.iload X6.here hx rfl (b d63_24) rfl ?_
      refine XS.sipush X6.here hx rfl (b d63_26) ?_
      exact k)
    by_cases hc7 : (255 : Int32) < (own_gc (f (2 * i)) (f ((2 * i) + 1)))
    · have pre9 : Pr p e below s₁ E0 T6 (mkF m 34 #[vr r0, vi (Int32.ofNat i), vr r2, vi (Int32.ofNat i), vi (Int32.ofNat n), vi (Int32.ofNat i), vi (own_gc (f (2 * i)) (f ((2 * i) + 1)))] [(.int (Int32.ofNat i))]) := fun t k => pre8 t (by
        refine XS.icmpNo X6.here hx rfl (b d63_29) rfl (tlt hc7).2.2.2 ?_
        refine XS.iload X6.here hx rfl (b d63_32) rfl ?_
        exact k)
      exact own_end X6 hlk (v := some (.int (Int32.ofNat i))) (own_hv hret) pre9 (fun fs hr => retI X6 hx hret (b d63_34) hr) (by rw [e6]; exact ⟨i, g, rfl, N6, K3, lf3_1, by omega, hg, fun _ => hc7⟩)
    · obtain ⟨qn10, cl10, Ar10, S10, H10⟩ := id lf3_1
      obtain ⟨T11, h11, X11, e11, W11, st11⟩ := stB X6 hx hZ e6 Ar10 (j := (Int32.ofNat i)) (own_in qn10 S10 (show i < n by omega)) (g := (mkF m 40 #[vr r0, vi (Int32.ofNat i), vr r2, vi (Int32.ofNat i), vi (Int32.ofNat n), vi (Int32.ofNat i), vi (own_gc (f (2 * i)) (f ((2 * i) + 1)))] [(.int ((own_gc (f (2 * i)) (f ((2 * i) + 1))).toInt8.toInt32)), (.int (Int32.ofNat i)), (.ref r2)])) rfl rfl (b d63_40)
      have Y11 : Ay Z h11 r2 .byte n (fun x => if x = i then (nar .byte ((own_gc (f (2 * i)) (f ((2 * i) + 1))).toInt8.toInt32)) else g x) := Ay.put qn10 Ar10 S10 H10 (show i < n by omega) W11 (fits_nar_byte _)
      have f12_1 := lf3_0.other W11 ne02
      have od12 := lf3_2.wr W11 g_r2
      have N11 := Fr.snoc X11 N6 g_r2
      have Z11 : n0 ≤ h11.size := Nat.le_trans Z3 (Keep.of_wr W11).1
      have K11 := K3.wr W11 (Or.inl (by simp))
      have pre14 : Pr p e below s₁ E0 T11 (mkF m 10 #[vr r0, vi (Int32.ofNat (i + 1)), vr r2, vi (Int32.ofNat (i + 1)), vi (Int32.ofNat n), vi (Int32.ofNat (i + 1)), vi (own_gc (f (2 * i)) (f ((2 * i) + 1)))] []) := fun t k => pre8 t (by
        refine XS.icmpYes X6.here hx rfl (pc0 := 29) (pc' := 35) rfl (b d63_29) rfl (flt hc7).2.2.2 (by decide) (by decide) ?_
        refine XS.aloadN X6.here hx rfl (b d63_35) rfl rfl ?_
        refine XS.iloadN X6.here hx rfl (b d63_36) rfl ?_
        refine XS.iload X6.here hx rfl (b d63_37) rfl ?_
        refine XS.i2b X6.here hx rfl (b d63_39) rfl ?_
        refine st11 _ ?_
        show Sp p e below T11 (mkF m 41 #[vr r0, vi (Int32.ofNat i), vr r2, vi (Int32.ofNat i), vi (Int32.ofNat n), vi (Int32.ofNat i), vi (own_gc (f (2 * i)) (f ((2 * i) + 1)))] []) t
        refine XS.iinc X11.here hx rfl (b d63_41) rfl (l' := #[vr r0, vi ((Int32.ofNat i) + (1 : Int32)), vr r2, vi (Int32.ofNat i), vi (Int32.ofNat n), vi (Int32.ofNat i), vi (own_gc (f (2 * i)) (f ((2 * i) + 1)))]) rfl ?_
        show Sp p e below T11 (mkF m 44 #[vr r0, vi ((Int32.ofNat i) + (1 : Int32)), vr r2, vi (Int32.ofNat i), vi (Int32.ofNat n), vi (Int32.ofNat i), vi (own_gc (f (2 * i)) (f ((2 * i) + 1)))] []) t
        rw [own_a1 i]
        show Sp p e below T11 (mkF m 44 #[vr r0, vi (Int32.ofNat (i + 1)), vr r2, vi (Int32.ofNat i), vi (Int32.ofNat n), vi (Int32.ofNat i), vi (own_gc (f (2 * i)) (f ((2 * i) + 1)))] []) t
        refine XS.iinc X11.here hx rfl (b d63_44) rfl (l' := #[vr r0, vi (Int32.ofNat (i + 1)), vr r2, vi ((Int32.ofNat i) + (1 : Int32)), vi (Int32.ofNat n), vi (Int32.ofNat i), vi (own_gc (f (2 * i)) (f ((2 * i) + 1)))]) rfl ?_
        show Sp p e below T11 (mkF m 47 #[vr r0, vi (Int32.ofNat (i + 1)), vr r2, vi ((Int32.ofNat i) + (1 : Int32)), vi (Int32.ofNat n), vi (Int32.ofNat i), vi (own_gc (f (2 * i)) (f ((2 * i) + 1)))] []) t
        rw [own_a1 i]
        show Sp p e below T11 (mkF m 47 #[vr r0, vi (Int32.ofNat (i + 1)), vr r2, vi (Int32.ofNat (i + 1)), vi (Int32.ofNat n), vi (Int32.ofNat i), vi (own_gc (f (2 * i)) (f ((2 * i) + 1)))] []) t
        refine XS.iinc X11.here hx rfl (b d63_47) rfl (l' := #[vr r0, vi (Int32.ofNat (i + 1)), vr r2, vi (Int32.ofNat (i + 1)), vi (Int32.ofNat n), vi ((Int32.ofNat i) + (1 : Int32)), vi (own_gc (f (2 * i)) (f ((2 * i) + 1)))]) rfl ?_
        show Sp p e below T11 (mkF m 50 #[vr r0, vi (Int32.ofNat (i + 1)), vr r2, vi (Int32.ofNat (i + 1)), vi (Int32.ofNat n), vi ((Int32.ofNat i) + (1 : Int32)), vi (own_gc (f (2 * i)) (f ((2 * i) + 1)))] []) t
        rw [own_a1 i]
        show Sp p e below T11 (mkF m 50 #[vr r0, vi (Int32.ofNat (i + 1)), vr r2, vi (Int32.ofNat (i + 1)), vi (Int32.ofNat n), vi (Int32.ofNat (i + 1)), vi (own_gc (f (2 * i)) (f ((2 * i) + 1)))] []) t
        refine XS.goto X11.here hx rfl (pc0 := 50) (pc' := 10) rfl (b d63_50) (by decide) (by decide) ?_
        exact k)
      -- local 6: (own_gc (f (2 * i)) (f ((2 * i) + 1))) / (vi (own_gc (f (2 * i)) (f ((2 * i) + 1))))
      exact ih3 (n - (i + 1)) (by omega) ⟨(i + 1), (fun x => if x = i then (nar .byte ((own_gc (f (2 * i)) (f ((2 * i) + 1))).toInt8.toInt32)) else g x), (vi (own_gc (f (2 * i)) (f ((2 * i) + 1)))), T11, _, h11, rfl, (by omega), (own_cc (f := (fun x => own_gc (f (2 * x)) (f ((2 * x) + 1)))) hg hc7), (Or.inr ⟨_, rfl⟩), X11, N11, e11, Z11, K11, f12_1, Y11, od12, pre14⟩
  · have pre15 : Pr p e below s₁ E0 T3 (mkF m 55 #[vr r0, vi (Int32.ofNat i), vr r2, vi (Int32.ofNat i), vi (Int32.ofNat n), vi (Int32.ofNat i), q6] [(.int (Int32.ofNat n))]) := fun t k => pre5 t (by
      refine XS.icmpYes X3.here hx rfl (pc0 := 14) (pc' := 53) rfl (b d63_14) rfl (flt (own_ltF (a := i) (b := n) hc4 (by omega))).2.1 (by decide) (by decide) ?_
      refine XS.iload X3.here hx rfl (b d63_53) rfl ?_
      exact k)
    exact own_end X3 hlk (v := some (.int (Int32.ofNat n))) (own_hv hret) pre15 (fun fs hr => retI X3 hx hret (b d63_55) hr) (by rw [e3]; exact ⟨n, g, rfl, N3, K3, lf3_1, by omega, fun j hj => hg j (by omega), fun q => absurd q (by omega)⟩)
theorem Cod_w {n : Nat} {f g : Nat → Int32} {l : List Int32} (hc : Chs l) (hn : n = l.length) (h1 : 0 < n) (h5 : n ≤ 5) (hE : EU f l) (hg : ∀ j, j < 2 * n → g j = f j) : Cod (own_cfa n (2 * n)) (2 * n) g n l := by
  rw [own_cfa1 h1 h5]
  subst hn
  exact Cod.ofU rfl hc (own_EUc hE hg)
theorem own_g5 {f g : Nat → Int32} {n k : Nat} (hk : k < n) (hg : ∀ j, j < 2 * n → g j = f j) (h : (255 : Int32) < own_gc (f (2 * k)) (f ((2 * k) + 1))) : (255 : Int32) < own_gc (g (2 * k)) (g ((2 * k) + 1)) := by
  rw [hg _ (by omega), hg _ (by omega)]; exact h
abbrev C62 := jdk_52_method_17_code
theorem d62_0 : dk C62 0 (.iload_n 2) 1 := by decide +kernel
theorem d62_1 : dk C62 1 (.newarray .byte) 2 := by decide +kernel
theorem d62_3 : dk C62 3 (.astore_n 3) 1 := by decide +kernel
theorem d62_4 : dk C62 4 (.aload_n 0) 1 := by decide +kernel
theorem d62_5 : dk C62 5 (.iload_n 1) 1 := by decide +kernel
theorem d62_6 : dk C62 6 (.aload_n 3) 1 := by decide +kernel
theorem d62_7 : dk C62 7 (.iconst 0) 1 := by decide +kernel
theorem d62_8 : dk C62 8 (.iload_n 2) 1 := by decide +kernel
theorem d62_9 : dk C62 9 (.invokestatic 123) 3 := by decide +kernel
theorem own_pd36 : parseMethodDescriptor "([BI[BII)I" = some ⟨[(.array .byte), .int, (.array .byte), .int, .int], some .int⟩ := by decide +kernel
theorem d62_12 : dk C62 12 (.istore 4) 2 := by decide +kernel
theorem d62_14 : dk C62 14 (.iload 4) 2 := by decide +kernel
theorem d62_16 : dk C62 16 (.iload_n 2) 1 := by decide +kernel
theorem d62_17 : dk C62 17 (.if_icmp .eq 47) 3 := by decide +kernel
theorem d62_64 : dk C62 64 (.aload_n 3) 1 := by decide +kernel
theorem d62_65 : dk C62 65 .areturn 1 := by decide +kernel
theorem d62_20 : dk C62 20 (.aload_n 0) 1 := by decide +kernel
theorem d62_21 : dk C62 21 (.iload_n 1) 1 := by decide +kernel
theorem d62_22 : dk C62 22 (.iconst 1) 1 := by decide +kernel
theorem d62_23 : dk C62 23 .ishl 1 := by decide +kernel
theorem d62_24 : dk C62 24 (.iload_n 1) 1 := by decide +kernel
theorem d62_25 : dk C62 25 (.iload_n 2) 1 := by decide +kernel
theorem d62_26 : dk C62 26 .iadd 1 := by decide +kernel
theorem d62_27 : dk C62 27 (.invokestatic 11) 3 := by decide +kernel
theorem d62_30 : dk C62 30 (.invokestatic 126) 3 := by decide +kernel
theorem d62_33 : dk C62 33 (.astore 5) 2 := by decide +kernel
theorem d62_35 : dk C62 35 (.aload 5) 2 := by decide +kernel
theorem d62_37 : dk C62 37 (.iload 4) 2 := by decide +kernel
theorem d62_39 : dk C62 39 (.invokestatic 71) 3 := by decide +kernel
theorem d62_42 : dk C62 42 (.sipush 255) 3 := by decide +kernel
theorem d62_45 : dk C62 45 (.if_icmp .gt 16) 3 := by decide +kernel
theorem d62_61 : dk C62 61 (.aload 5) 2 := by decide +kernel
theorem d62_63 : dk C62 63 .areturn 1 := by decide +kernel
def Q_cb3 (Z : State) (r0 : Addr) (n : Nat) (M : Nat) (f : Nat → Int32) (li : List Int32) (h0 : Heap) (n0 : Nat) (v : Option Value) (h : Heap) (L : List Loc) : Prop := ∃ b N g, v = some (.ref b) ∧ Fr n0 L ∧ h0.size ≤ b ∧ Keep h0 h [] ∧ Ay Z h b .byte N g ∧ Cod (own_cfa n N) N g n li
theorem rm_cb3 (l : Launch) (Z : State) (a0 : Array Value) (hw : Hw a0 Z) (r0 : Addr) (n : Nat) (M : Nat) (f : Nat → Int32) (li : List Int32) (h0 : Heap) (n0 : Nat) (Z0 : n0 ≤ h0.size) (hst : own_St Z) (X00 : Old Z n0 h0) (Y_r0 : Ay Z h0 r0 .byte (2 * M) f) (E_r0 : Exa Z h0 r0 "[B") (hn : n ≤ M) (hM : M ≤ 5) (hl : n = li.length) (hE : EU f li) (hc : Chs li) : Mt l (⟨"java/lang/StringUTF16", "compress", "([BII)[B"⟩ : MethodName) C62 6 (some (.array .byte)) ({ frames := 4, cells := 2, slots := 15, locals := 70 } : Room) #[(.ref r0), (.int (0 : Int32)), (.int (Int32.ofNat n))] Z h0 (Q_cb3 Z r0 n M f li h0 n0) := by
  have w := own_w hw
  refine own_go (L0 := #[vr r0, vi (0 : Int32), vi (Int32.ofNat n), vu, vu, vu]) n0 (plainFor_of_name own_pn3) (fun m => rfl) fun p e s m below meth c s₁ E0 hx b hml hown hnm hret hlk hZ X0 e0 N0 pre0 => ?_
  have K0 : Keep h0 h0 [] := Keep.refl h0 _
  obtain ⟨T1, h1, k1, X1, e1, E1, A1, Ex1, st1⟩ := newPE X0 hx hZ (w 27 rfl) e0 (g := (mkF m 1 #[vr r0, vi (0 : Int32), vi (Int32.ofNat n), vu, vu, vu] [(.int (Int32.ofNat n))])) rfl (b d62_1) (n := (Int32.ofNat n)) rfl (own_nn (by omega)) (cap := 5) (by rw [own_nc (by omega)]; omega) (by decide) (by decide) (by decide) (ad := "[B") (by decide)
  obtain ⟨b1, g1⟩ : ∃ z, z = h0.size := ⟨_, rfl⟩
  rw [← g1] at A1 Ex1 st1
  have ne_r0_b1 : r0 ≠ b1 := Nat.ne_of_lt (Nat.lt_of_lt_of_le Y_r0.lt (Nat.le_of_eq g1.symm))
  have g_b1 : n0 ≤ b1 := Nat.le_trans Z0 (Nat.le_of_eq g1.symm)
  have sz_b1 : h0.size ≤ b1 := Nat.le_trans K0.1 (Nat.le_of_eq g1.symm)
  have f2_1 := Y_r0.ext E1
  have f2_2 := E_r0.ext E1
  have od2 := X00.ext E1
  have Z1 : n0 ≤ h1.size := Nat.le_trans Z0 E1.1
  have K1 := K0.ext E1
  have Y1 : Ay Z h1 b1 .byte n (fun _ => 0) := Ay.new (by omega) A1 rfl
  obtain ⟨_, T4, L4, X4, hQ4, st4⟩ := own_cS X1 hx hml hZ hown (rm_cb l Z a0 hw r0 b1 n M f (fun _ => 0) h1 n0 Z1 hst od2 f2_1 Y1 g_b1 ne_r0_b1 (by omega) (by omega)) (w 305 rfl) (w 306 rfl) (w 25 rfl) (w 307 rfl) e1 (g := (mkF m 9 #[vr r0, vi (0 : Int32), vi (Int32.ofNat n), vr b1, vu, vu] [(.int (Int32.ofNat n)), (.int (0 : Int32)), (.ref b1), (.int (0 : Int32)), (.ref r0)])) (argsL := [(.ref r0), (.int (0 : Int32)), (.ref b1), (.int (0 : Int32)), (.int (Int32.ofNat n))]) (rest := []) (W := 0) (lenOf own_pd36 rfl) (b d62_9)
  obtain ⟨kk4, g4, rfl, Nq4, Kq4, Yq4, hk4, hg4, hl4⟩ := hQ4
  have N4 := Fr.app N0 Nq4
  have f5_1 := f2_1.keep Kq4 (ninS ne_r0_b1 nin0)
  have f5_2 := f2_2.keep Kq4
  have od5 := od2.keep Kq4 (allS g_b1 all0)
  have f5_4 := Ex1.keep Kq4
  have Z4 : n0 ≤ T4.heap.size := Nat.le_trans Z1 Kq4.1
  have K4 := K1.trans Kq4 (allS (Or.inr sz_b1) all0)
  have pre8 : Pr p e below s₁ E0 T4 (mkF m 17 #[vr r0, vi (0 : Int32), vi (Int32.ofNat n), vr b1, vi (Int32.ofNat kk4), vu] [(.int (Int32.ofNat n)), (.int (Int32.ofNat kk4))]) := fun t k => pre0 t (by
    refine XS.iloadN X0.here hx rfl (b d62_0) rfl ?_
    refine st1 _ ?_
    show Sp p e below T1 (mkF m 3 #[vr r0, vi (0 : Int32), vi (Int32.ofNat n), vu, vu, vu] [(.ref b1)]) t
    refine XS.astoreN X1.here hx rfl (b d62_3) rfl rfl (l' := #[vr r0, vi (0 : Int32), vi (Int32.ofNat n), vr b1, vu, vu]) rfl ?_
    refine XS.aloadN X1.here hx rfl (b d62_4) rfl rfl ?_
    refine XS.iloadN X1.here hx rfl (b d62_5) rfl ?_
    refine XS.aloadN X1.here hx rfl (b d62_6) rfl rfl ?_
    refine XS.iconst X1.here hx rfl (b d62_7) ?_
    refine XS.iloadN X1.here hx rfl (b d62_8) rfl ?_
    refine st4 _ ?_
    show Sp p e below T4 (mkF m 12 #[vr r0, vi (0 : Int32), vi (Int32.ofNat n), vr b1, vu, vu] [(.int (Int32.ofNat kk4))]) t
    refine XS.istore X4.here hx rfl (b d62_12) rfl (l' := #[vr r0, vi (0 : Int32), vi (Int32.ofNat n), vr b1, vi (Int32.ofNat kk4), vu]) rfl ?_
    refine XS.iload X4.here hx rfl (b d62_14) rfl ?_
    refine XS.iloadN X4.here hx rfl (b d62_16) rfl ?_
    exact k)
  by_cases hc7 : kk4 = n
  · have pre9 : Pr p e below s₁ E0 T4 (mkF m 65 #[vr r0, vi (0 : Int32), vi (Int32.ofNat n), vr b1, vi (Int32.ofNat kk4), vu] [(.ref b1)]) := fun t k => pre8 t (by
      refine XS.icmpYes X4.here hx rfl (pc0 := 17) (pc' := 64) rfl (b d62_17) rfl (teq (own_eqT (a := kk4) (b := n) hc7)).1 (by decide) (by decide) ?_
      refine XS.aloadN X4.here hx rfl (b d62_64) rfl rfl ?_
      exact k)
    exact own_end X4 hlk (v := some (.ref b1)) (own_hv hret) pre9 (fun fs hr => own_ra X4 hx hret rfl (b d62_65) hr) ⟨b1, n, g4, rfl, N4, sz_b1, K4, Yq4, own_cod0 (f := (fun x => own_gc (f (2 * x)) (f ((2 * x) + 1)))) hc hl (fun i hi => own_gcj hc hE i (by omega)) (fun j hj => hg4 j (by omega))⟩
  · obtain ⟨_, T10, L10, X10, hQ10, st10⟩ := own_cS X4 hx hml hZ hown (rm_nbl l Z a0 hw n T4.heap n0 Z4 (by omega)) (w 233 rfl) (w 234 rfl) (w 25 rfl) (w 235 rfl) rfl (g := (mkF m 27 #[vr r0, vi (0 : Int32), vi (Int32.ofNat n), vr b1, vi (Int32.ofNat kk4), vu] [(.int (Int32.ofNat n)), (.int (0 : Int32)), (.ref r0)])) (argsL := [(.int (Int32.ofNat n))]) (rest := [(.int (0 : Int32)), (.ref r0)]) (W := 2) (lenOf own_pd4 rfl) (b d62_27)
    obtain ⟨rfl, Nq10, e10⟩ := hQ10
    have N10 := Fr.app N4 Nq10
    obtain ⟨_, T11, L11, X11, hQ11, st11⟩ := own_cS X10 hx hml hZ hown (rm_cor l Z a0 hw r0 (2 * n) (2 * M) f T4.heap n0 Z4 f5_1 (by omega) (by omega) f5_2) (w 308 rfl) (w 212 rfl) (w 213 rfl) (w 214 rfl) e10 (g := (mkF m 30 #[vr r0, vi (0 : Int32), vi (Int32.ofNat n), vr b1, vi (Int32.ofNat kk4), vu] [(.int (Int32.ofNat (2 * n))), (.int (0 : Int32)), (.ref r0)])) (argsL := [(.ref r0), (.int (0 : Int32)), (.int (Int32.ofNat (2 * n)))]) (rest := []) (W := 0) (lenOf own_pd20 rfl) (b d62_30)
    obtain ⟨b11, f11, rfl, Nq11, szq11, Kq11, Yq11, Exq11, hq11⟩ := hQ11
    have N11 := Fr.app N10 Nq11
    have f12_1 := f5_1.keep Kq11 nin0
    have f12_2 := f5_2.keep Kq11
    have od12 := od5.keep Kq11 all0
    have f12_3 := f5_4.keep Kq11
    have f12_4 := Yq4.keep Kq11 nin0
    have Z11 : n0 ≤ T11.heap.size := Nat.le_trans Z4 Kq11.1
    have K11 := K4.trans Kq11 all0
    have ne_r0_b11 : r0 ≠ b11 := Nat.ne_of_lt (Nat.lt_of_lt_of_le f5_1.lt szq11)
    have ne_b1_b11 : b1 ≠ b11 := Nat.ne_of_lt (Nat.lt_of_lt_of_le f5_4.lt szq11)
    have sz_b11 : h0.size ≤ b11 := Nat.le_trans K4.1 szq11
    have g_b11 : n0 ≤ b11 := Nat.le_trans Z4 szq11
    obtain ⟨_, T14, L14, X14, hQ14, st14⟩ := own_cS X11 hx hml hZ hown (rm_gc l Z a0 hw b11 kk4 (2 * n) f11 T11.heap n0 Z11 hst od12 Yq11 (by omega) (by omega)) (w 243 rfl) (w 244 rfl) (w 25 rfl) (w 245 rfl) rfl (g := (mkF m 39 #[vr r0, vi (0 : Int32), vi (Int32.ofNat n), vr b1, vi (Int32.ofNat kk4), vr b11] [(.int (Int32.ofNat kk4)), (.ref b11)])) (argsL := [(.ref b11), (.int (Int32.ofNat kk4))]) (rest := []) (W := 0) (lenOf own_pd9 rfl) (b d62_39)
    obtain ⟨rfl, Nq14, e14⟩ := hQ14
    have N14 := Fr.app N11 Nq14
    have pre15 : Pr p e below s₁ E0 T14 (mkF m 63 #[vr r0, vi (0 : Int32), vi (Int32.ofNat n), vr b1, vi (Int32.ofNat kk4), vr b11] [(.ref b11)]) := fun t k => pre8 t (by
      refine XS.icmpNo X4.here hx rfl (b d62_17) rfl (feq (own_eqF (a := kk4) (b := n) hc7 (by omega) (by omega))).1 ?_
      refine XS.aloadN X4.here hx rfl (b d62_20) rfl rfl ?_
      refine XS.iloadN X4.here hx rfl (b d62_21) rfl ?_
      refine XS.iconst X4.here hx rfl (b d62_22) ?_
      refine XS.ishl X4.here hx rfl (b d62_23) rfl ?_
      refine XS.iloadN X4.here hx rfl (b d62_24) rfl ?_
      refine XS.iloadN X4.here hx rfl (b d62_25) rfl ?_
      refine XS.iadd X4.here hx rfl (b d62_26) rfl ?_
      show Sp p e below T4 (mkF m 27 #[vr r0, vi (0 : Int32), vi (Int32.ofNat n), vr b1, vi (Int32.ofNat kk4), vu] [(.int ((0 : Int32) + (Int32.ofNat n))), (.int (0 : Int32)), (.ref r0)]) t
      rw [own_0a n]
      show Sp p e below T4 (mkF m 27 #[vr r0, vi (0 : Int32), vi (Int32.ofNat n), vr b1, vi (Int32.ofNat kk4), vu] [(.int (Int32.ofNat n)), (.int (0 : Int32)), (.ref r0)]) t
      refine st10 _ ?_
      show Sp p e below T10 (mkF m 30 #[vr r0, vi (0 : Int32), vi (Int32.ofNat n), vr b1, vi (Int32.ofNat kk4), vu] [(.int (Int32.ofNat (2 * n))), (.int (0 : Int32)), (.ref r0)]) t
      refine st11 _ ?_
      show Sp p e below T11 (mkF m 33 #[vr r0, vi (0 : Int32), vi (Int32.ofNat n), vr b1, vi (Int32.ofNat kk4), vu] [(.ref b11)]) t
      refine XS.astore X11.here hx rfl (b d62_33) rfl rfl (l' := #[vr r0, vi (0 : Int32), vi (Int32.ofNat n), vr b1, vi (Int32.ofNat kk4), vr b11]) rfl ?_
      refine XS.aload X11.here hx rfl (b d62_35) rfl rfl ?_
      refine XS.iload X11.here hx rfl (b d62_37) rfl ?_
      refine st14 _ ?_
      show Sp p e below T14 (mkF m 42 #[vr r0, vi (0 : Int32), vi (Int32.ofNat n), vr b1, vi (Int32.ofNat kk4), vr b11] [(.int (own_gc (f11 (2 * kk4)) (f11 ((2 * kk4) + 1))))]) t
      refine XS.sipush X14.here hx rfl (b d62_42) ?_
      show Sp p e below T14 (mkF m 45 #[vr r0, vi (0 : Int32), vi (Int32.ofNat n), vr b1, vi (Int32.ofNat kk4), vr b11] [(.int (255 : Int32)), (.int (own_gc (f11 (2 * kk4)) (f11 ((2 * kk4) + 1))))]) t
      refine XS.icmpYes X14.here hx rfl (pc0 := 45) (pc' := 61) rfl (b d62_45) rfl (tlt (own_g5 (n := n) (k := kk4) (by omega) (fun j hj => hq11 j (by omega)) (hl4 (by omega)))).2.2.1 (by decide) (by decide) ?_
      refine XS.aload X14.here hx rfl (b d62_61) rfl rfl ?_
      exact k)
    exact own_end X14 hlk (v := some (.ref b11)) (own_hv hret) pre15 (fun fs hr => own_ra X14 hx hret rfl (b d62_63) hr) (by rw [e14]; exact ⟨b11, (2 * n), f11, rfl, N14, sz_b11, K11, Yq11, Cod_w hc hl (by omega) (by omega) hE (fun j hj => hq11 j (by omega))⟩)
abbrev C40 := jdk_42_method_150_code
theorem d40_0 : dk C40 0 (.aload_n 0) 1 := by decide +kernel
theorem d40_1 : dk C40 1 (.invokespecial 1) 3 := by decide +kernel
theorem d40_4 : dk C40 4 (.aload_n 1) 1 := by decide +kernel
theorem d40_5 : dk C40 5 (.invokevirtual 552) 3 := by decide +kernel
theorem d40_8 : dk C40 8 (.astore_n 3) 1 := by decide +kernel
theorem d40_9 : dk C40 9 (.aload_n 1) 1 := by decide +kernel
theorem d40_10 : dk C40 10 (.invokevirtual 549) 3 := by decide +kernel
theorem d40_13 : dk C40 13 (.istore 4) 2 := by decide +kernel
theorem d40_15 : dk C40 15 (.aload_n 1) 1 := by decide +kernel
theorem d40_16 : dk C40 16 (.invokevirtual 1047) 3 := by decide +kernel
theorem d40_19 : dk C40 19 (.ifCond .eq 22) 3 := by decide +kernel
theorem d40_22 : dk C40 22 (.aload_n 0) 1 := by decide +kernel
theorem d40_23 : dk C40 23 (.iconst 0) 1 := by decide +kernel
theorem d40_24 : dk C40 24 (.putfield 15) 3 := by decide +kernel
theorem d40_27 : dk C40 27 (.aload_n 0) 1 := by decide +kernel
theorem d40_28 : dk C40 28 (.aload_n 3) 1 := by decide +kernel
theorem d40_29 : dk C40 29 (.iconst 0) 1 := by decide +kernel
theorem d40_30 : dk C40 30 (.iload 4) 2 := by decide +kernel
theorem d40_32 : dk C40 32 (.invokestatic 54) 3 := by decide +kernel
theorem d40_35 : dk C40 35 (.putfield 9) 3 := by decide +kernel
theorem d40_38 : dk C40 38 (.goto 59) 3 := by decide +kernel
theorem d40_97 : dk C40 97 .return_ 1 := by decide +kernel
theorem d40_41 : dk C40 41 (.getstatic 38) 3 := by decide +kernel
theorem d40_44 : dk C40 44 (.ifCond .eq 35) 3 := by decide +kernel
theorem d40_47 : dk C40 47 (.aload_n 1) 1 := by decide +kernel
theorem d40_48 : dk C40 48 (.getfield 1048) 3 := by decide +kernel
theorem d40_51 : dk C40 51 (.ifCond .eq 28) 3 := by decide +kernel
theorem d40_79 : dk C40 79 (.aload_n 0) 1 := by decide +kernel
theorem d40_80 : dk C40 80 (.iconst 1) 1 := by decide +kernel
theorem d40_81 : dk C40 81 (.putfield 15) 3 := by decide +kernel
theorem d40_84 : dk C40 84 (.aload_n 0) 1 := by decide +kernel
theorem d40_85 : dk C40 85 (.aload_n 3) 1 := by decide +kernel
theorem d40_86 : dk C40 86 (.iconst 0) 1 := by decide +kernel
theorem d40_87 : dk C40 87 (.iload 4) 2 := by decide +kernel
theorem d40_89 : dk C40 89 (.iconst 1) 1 := by decide +kernel
theorem d40_90 : dk C40 90 .ishl 1 := by decide +kernel
theorem d40_91 : dk C40 91 (.invokestatic 54) 3 := by decide +kernel
theorem d40_94 : dk C40 94 (.putfield 9) 3 := by decide +kernel
theorem d40_54 : dk C40 54 (.aload_n 0) 1 := by decide +kernel
theorem d40_55 : dk C40 55 (.aload_n 3) 1 := by decide +kernel
theorem d40_56 : dk C40 56 (.iconst 0) 1 := by decide +kernel
theorem d40_57 : dk C40 57 (.iload 4) 2 := by decide +kernel
theorem d40_59 : dk C40 59 (.invokestatic 1051) 3 := by decide +kernel
theorem d40_62 : dk C40 62 (.putfield 9) 3 := by decide +kernel
theorem d40_65 : dk C40 65 (.aload_n 0) 1 := by decide +kernel
theorem d40_66 : dk C40 66 (.aload_n 0) 1 := by decide +kernel
theorem d40_67 : dk C40 67 (.getfield 9) 3 := by decide +kernel
theorem d40_70 : dk C40 70 (.iload 4) 2 := by decide +kernel
theorem d40_72 : dk C40 72 (.invokestatic 47) 3 := by decide +kernel
theorem d40_75 : dk C40 75 (.putfield 15) 3 := by decide +kernel
theorem d40_78 : dk C40 78 .return_ 1 := by decide +kernel
def Q_sab (Z : State) (r0 : Addr) (r1 : Addr) (ta : Addr) (cap : Nat) (li : List Int32) (h0 : Heap) (n0 : Nat) (v : Option Value) (h : Heap) (L : List Loc) : Prop := v = none ∧ Fr n0 L ∧ Keep h0 h [r0] ∧ ∃ t, h0.size ≤ t ∧ Us Z h r0 t li
theorem rm_sab (l : Launch) (Z : State) (a0 : Array Value) (hw : Hw a0 Z) (r0 : Addr) (r1 : Addr) (ta : Addr) (cap : Nat) (li : List Int32) (h0 : Heap) (n0 : Nat) (Z0 : n0 ≤ h0.size) (hst : own_St Z) (X00 : Old Z n0 h0) (E_r0 : Exa Z h0 r0 "java/lang/String") (g_r0 : n0 ≤ r0) (F_value : Fld Z h0 r0 "java/lang/String" "value" "[B" .null) (F_coder : Fld Z h0 r0 "java/lang/String" "coder" "B" (.int (0 : Int32))) (B_r1 : Sb Z h0 r1 ta cap li) (ne01 : r0 ≠ ta) : Mt l (⟨"java/lang/String", "<init>", "(Ljava/lang/AbstractStringBuilder;Ljava/lang/Void;)V"⟩ : MethodName) C40 5 none ({ frames := 5, cells := 2, slots := 15, locals := 88 } : Room) #[(.ref r0), (.ref r1), .null] Z h0 (Q_sab Z r0 r1 ta cap li h0 n0) := by
  have w := own_w hw
  refine own_go (L0 := #[vr r0, vr r1, .val .null, vu, vu]) n0 (plainFor_of_name own_pn2) (fun m => rfl) fun p e s m below meth c s₁ E0 hx b hml hown hnm hret hlk hZ X0 e0 N0 pre0 => ?_
  have K0 : Keep h0 h0 [r0] := Keep.refl h0 _
  obtain ⟨G1, v2, v3, P1, r_v2, r_v3, O1, O2, O3, O4, O5, O6⟩ := id hst
  obtain ⟨cd1, ml1, N1, f1, E1, Fc1, Fv1, Fk1, Fm1, Y1, Ey1, hcod1, hle1, h51⟩ := id B_r1
  rcases hcod1.cd with rfl | rfl
  · obtain ⟨rfl, hch1, hE1⟩ := hcod1.latB
    obtain ⟨T2, X2, e2, st2⟩ := initO X0 hx hZ hown (w 19 rfl) (w 20 rfl) (w 21 rfl) e0 (g := (mkF m 1 #[vr r0, vr r1, .val .null, vu, vu] [(.ref r0)])) rfl (by rw [hml]; rfl) rfl (b d40_1) (by decide) (W := 0) (by show 2 * 0 + _ ≤ _; exact Nat.le_of_eq rfl) (by decide)
    obtain ⟨_, T3, L3, X3, hQ3, st3⟩ := own_cV X2 hx hml hZ hown (rm_bgv l Z a0 hw r1 ta h0 n0 Z0 Fv1) (w 203 rfl) (w 205 rfl) (w 98 rfl) (w 207 rfl) (w 204 rfl) (w 206 rfl) (own_nfS hZ (w 206 rfl)) E1 e2 (g := (mkF m 5 #[vr r0, vr r1, .val .null, vu, vu] [(.ref r1)])) (argsL := []) (rest := []) (W := 0) (lenOf own_pd33 rfl) (b d40_5)
    obtain ⟨rfl, Nq3, e3⟩ := hQ3
    have N3 := Fr.app N0 Nq3
    obtain ⟨_, T4, L4, X4, hQ4, st4⟩ := own_cV X3 hx hml hZ hown (rm_sbl l Z a0 hw r1 li.length h0 n0 Z0 E1 Fk1) (w 208 rfl) (w 158 rfl) (w 90 rfl) (w 160 rfl) (w 163 rfl) (w 209 rfl) (own_nf (args := #[]) (y' := yIL) (mvT hZ (w 144 rfl)) (mvT hZ (w 143 rfl)) rfl) E1 e3 (g := (mkF m 10 #[vr r0, vr r1, .val .null, vr ta, vu] [(.ref r1)])) (argsL := []) (rest := []) (W := 0) (lenOf own_pd26 rfl) (b d40_10)
    obtain ⟨rfl, Nq4, e4⟩ := hQ4
    have N4 := Fr.app N3 Nq4
    obtain ⟨_, T5, L5, X5, hQ5, st5⟩ := own_cV X4 hx hml hZ hown (rm_il0 l Z a0 hw r1 h0 n0 Z0 hst X00 Fc1) (w 210 rfl) (w 143 rfl) (w 98 rfl) (w 145 rfl) (w 142 rfl) (w 144 rfl) (own_nfS hZ (w 144 rfl)) E1 e4 (g := (mkF m 16 #[vr r0, vr r1, .val .null, vr ta, vi (Int32.ofNat li.length)] [(.ref r1)])) (argsL := []) (rest := []) (W := 0) (lenOf own_pd17 rfl) (b d40_16)
    obtain ⟨rfl, Nq5, e5⟩ := hQ5
    have N5 := Fr.app N4 Nq5
    obtain ⟨T6, h6, X6, e6, W6, st6⟩ := putFN X5 hx hZ hown (w 34 rfl) Via.refl e5 F_coder E_r0 (Or.inr ⟨(w 35 rfl), rfl, hnm⟩) (w 10 rfl) (ty := .byte) (v' := (.int (0 : Int32))) (by decide) rfl rfl (g := (mkF m 24 #[vr r0, vr r1, .val .null, vr ta, vi (Int32.ofNat li.length)] [(.int (0 : Int32)), (.ref r0)])) rfl rfl (b d40_24)
    have Fw6 := F_coder.same W6
    have f7_1 := E_r0.wr W6
    have f7_2 := F_value.other W6 (Or.inr (slot_ne (Or.inr (w 37 rfl)) (Or.inr (w 35 rfl)) (by decide) (t := (.array .byte)) (t' := .byte) (by decide) (by decide)))
    have od7 := X00.wr W6 g_r0
    have f7_4 := E1.wr W6
    have f7_5 := Fc1.other W6 (Or.inl (ne_exa E1 E_r0 (by decide)))
    have f7_6 := Fv1.other W6 (Or.inl (ne_exa E1 E_r0 (by decide)))
    have f7_7 := Fk1.other W6 (Or.inl (ne_exa E1 E_r0 (by decide)))
    have f7_8 := Fm1.other W6 (Or.inl (ne_exa E1 E_r0 (by decide)))
    have f7_9 := Y1.other W6 (Ne.symm ne01)
    have f7_10 := Ey1.wr W6
    have N6 := Fr.snoc X6 N5 g_r0
    have Z6 : n0 ≤ h6.size := Nat.le_trans Z0 (Keep.of_wr W6).1
    have K6 := K0.wr W6 (Or.inl (by simp))
    obtain ⟨_, T9, L9, X9, hQ9, st9⟩ := own_cS X6 hx hml hZ hown (rm_cor l Z a0 hw ta li.length cap f1 h6 n0 Z6 f7_9 (by omega) (by omega) f7_10) (w 211 rfl) (w 212 rfl) (w 213 rfl) (w 214 rfl) e6 (g := (mkF m 32 #[vr r0, vr r1, .val .null, vr ta, vi (Int32.ofNat li.length)] [(.int (Int32.ofNat li.length)), (.int (0 : Int32)), (.ref ta), (.ref r0)])) (argsL := [(.ref ta), (.int (0 : Int32)), (.int (Int32.ofNat li.length))]) (rest := [(.ref r0)]) (W := 1) (lenOf own_pd20 rfl) (b d40_32)
    obtain ⟨b9, f9, rfl, Nq9, szq9, Kq9, Yq9, Exq9, hq9⟩ := hQ9
    have N9 := Fr.app N6 Nq9
    have f10_1 := f7_1.keep Kq9
    have f10_2 := f7_2.keep Kq9 nin0
    have f10_3 := Fw6.keep Kq9 nin0
    have od10 := od7.keep Kq9 all0
    have f10_4 := f7_4.keep Kq9
    have f10_5 := f7_5.keep Kq9 nin0
    have f10_6 := f7_6.keep Kq9 nin0
    have f10_7 := f7_7.keep Kq9 nin0
    have f10_8 := f7_8.keep Kq9 nin0
    have f10_9 := f7_9.keep Kq9 nin0
    have f10_10 := f7_10.keep Kq9
    have Z9 : n0 ≤ T9.heap.size := Nat.le_trans Z6 Kq9.1
    have K9 := K6.trans Kq9 all0
    have ne_r0_b9 : r0 ≠ b9 := Nat.ne_of_lt (Nat.lt_of_lt_of_le f7_1.lt szq9)
    have ne_r1_b9 : r1 ≠ b9 := Nat.ne_of_lt (Nat.lt_of_lt_of_le f7_4.lt szq9)
    have ne_ta_b9 : ta ≠ b9 := Nat.ne_of_lt (Nat.lt_of_lt_of_le f7_9.lt szq9)
    have sz_b9 : h0.size ≤ b9 := Nat.le_trans K6.1 szq9
    have g_b9 : n0 ≤ b9 := Nat.le_trans Z6 szq9
    obtain ⟨T12, h12, X12, e12, W12, st12⟩ := putF X9 hx hZ hown (host := "") (Or.inl (w 36 rfl)) Via.refl rfl f10_2 f10_1 (Or.inr ⟨(w 37 rfl), rfl, hnm⟩) (w 10 rfl) (ty := (.array .byte)) (by decide) rfl rfl (g := (mkF m 35 #[vr r0, vr r1, .val .null, vr ta, vi (Int32.ofNat li.length)] [(.ref b9), (.ref r0)])) rfl rfl (b d40_35)
    have Fw12 := f10_2.same W12
    have f13_1 := f10_1.wr W12
    have f13_3 := f10_3.other W12 (Or.inr (slot_ne (Or.inr (w 35 rfl)) (Or.inr (w 37 rfl)) (by decide) (t := .byte) (t' := (.array .byte)) (by decide) (by decide)))
    have od13 := od10.wr W12 g_r0
    have f13_4 := f10_4.wr W12
    have f13_5 := f10_5.other W12 (Or.inl (ne_exa f10_4 f10_1 (by decide)))
    have f13_6 := f10_6.other W12 (Or.inl (ne_exa f10_4 f10_1 (by decide)))
    have f13_7 := f10_7.other W12 (Or.inl (ne_exa f10_4 f10_1 (by decide)))
    have f13_8 := f10_8.other W12 (Or.inl (ne_exa f10_4 f10_1 (by decide)))
    have f13_9 := f10_9.other W12 (Ne.symm ne01)
    have f13_10 := f10_10.wr W12
    have f13_11 := Yq9.other W12 (Ne.symm ne_r0_b9)
    have f13_12 := Exq9.wr W12
    have N12 := Fr.snoc X12 N9 g_r0
    have Z12 : n0 ≤ h12.size := Nat.le_trans Z9 (Keep.of_wr W12).1
    have K12 := K9.wr W12 (Or.inl (by simp))
    have pre15 : Pr p e below s₁ E0 T12 (mkF m 97 #[vr r0, vr r1, .val .null, vr ta, vi (Int32.ofNat li.length)] []) := fun t k => pre0 t (by
      refine XS.aloadN X0.here hx rfl (b d40_0) rfl rfl ?_
      refine st2 _ ?_
      show Sp p e below T2 (mkF m 4 #[vr r0, vr r1, .val .null, vu, vu] []) t
      refine XS.aloadN X2.here hx rfl (b d40_4) rfl rfl ?_
      refine st3 _ ?_
      show Sp p e below T3 (mkF m 8 #[vr r0, vr r1, .val .null, vu, vu] [(.ref ta)]) t
      refine XS.astoreN X3.here hx rfl (b d40_8) rfl rfl (l' := #[vr r0, vr r1, .val .null, vr ta, vu]) rfl ?_
      refine XS.aloadN X3.here hx rfl (b d40_9) rfl rfl ?_
      refine st4 _ ?_
      show Sp p e below T4 (mkF m 13 #[vr r0, vr r1, .val .null, vr ta, vu] [(.int (Int32.ofNat li.length))]) t
      refine XS.istore X4.here hx rfl (b d40_13) rfl (l' := #[vr r0, vr r1, .val .null, vr ta, vi (Int32.ofNat li.length)]) rfl ?_
      refine XS.aloadN X4.here hx rfl (b d40_15) rfl rfl ?_
      refine st5 _ ?_
      show Sp p e below T5 (mkF m 19 #[vr r0, vr r1, .val .null, vr ta, vi (Int32.ofNat li.length)] [(.int (1 : Int32))]) t
      refine XS.ifNo X5.here hx rfl (b d40_19) rfl ((if0 _ _).trans (feq (by decide : ¬ ((1 : Int32) = (0 : Int32)))).1) ?_
      refine XS.aloadN X5.here hx rfl (b d40_22) rfl rfl ?_
      refine XS.iconst X5.here hx rfl (b d40_23) ?_
      refine st6 _ ?_
      show Sp p e below T6 (mkF m 27 #[vr r0, vr r1, .val .null, vr ta, vi (Int32.ofNat li.length)] []) t
      refine XS.aloadN X6.here hx rfl (b d40_27) rfl rfl ?_
      refine XS.aloadN X6.here hx rfl (b d40_28) rfl rfl ?_
      refine XS.iconst X6.here hx rfl (b d40_29) ?_
      refine XS.iload X6.here hx rfl (b d40_30) rfl ?_
      refine st9 _ ?_
      show Sp p e below T9 (mkF m 35 #[vr r0, vr r1, .val .null, vr ta, vi (Int32.ofNat li.length)] [(.ref b9), (.ref r0)]) t
      refine st12 _ ?_
      show Sp p e below T12 (mkF m 38 #[vr r0, vr r1, .val .null, vr ta, vi (Int32.ofNat li.length)] []) t
      refine XS.goto X12.here hx rfl (pc0 := 38) (pc' := 97) rfl (b d40_38) (by decide) (by decide) ?_
      exact k)
    exact own_end X12 hlk (v := none) (fun _ => rfl) pre15 (fun fs hr => X12.returnOut hx hret (b d40_97) hr) (by rw [e12]; exact ⟨rfl, N12, K12, b9, sz_b9, _, _, _, f13_1, f13_3, Fw12, f13_11, Cod.ofL rfl hch1 (own_ELc hE1 (fun j hj => hq9 j (by omega))), by omega⟩)
  · obtain ⟨rfl, hch1, hE1⟩ := hcod1.wid
    obtain ⟨T16, X16, e16, st16⟩ := initO X0 hx hZ hown (w 19 rfl) (w 20 rfl) (w 21 rfl) e0 (g := (mkF m 1 #[vr r0, vr r1, .val .null, vu, vu] [(.ref r0)])) rfl (by rw [hml]; rfl) rfl (b d40_1) (by decide) (W := 0) (by show 2 * 0 + _ ≤ _; exact Nat.le_of_eq rfl) (by decide)
    obtain ⟨_, T17, L17, X17, hQ17, st17⟩ := own_cV X16 hx hml hZ hown (rm_bgv l Z a0 hw r1 ta h0 n0 Z0 Fv1) (w 203 rfl) (w 205 rfl) (w 98 rfl) (w 207 rfl) (w 204 rfl) (w 206 rfl) (own_nfS hZ (w 206 rfl)) E1 e16 (g := (mkF m 5 #[vr r0, vr r1, .val .null, vu, vu] [(.ref r1)])) (argsL := []) (rest := []) (W := 0) (lenOf own_pd33 rfl) (b d40_5)
    obtain ⟨rfl, Nq17, e17⟩ := hQ17
    have N17 := Fr.app N0 Nq17
    obtain ⟨_, T18, L18, X18, hQ18, st18⟩ := own_cV X17 hx hml hZ hown (rm_sbl l Z a0 hw r1 li.length h0 n0 Z0 E1 Fk1) (w 208 rfl) (w 158 rfl) (w 90 rfl) (w 160 rfl) (w 163 rfl) (w 209 rfl) (own_nf (args := #[]) (y' := yIL) (mvT hZ (w 144 rfl)) (mvT hZ (w 143 rfl)) rfl) E1 e17 (g := (mkF m 10 #[vr r0, vr r1, .val .null, vr ta, vu] [(.ref r1)])) (argsL := []) (rest := []) (W := 0) (lenOf own_pd26 rfl) (b d40_10)
    obtain ⟨rfl, Nq18, e18⟩ := hQ18
    have N18 := Fr.app N17 Nq18
    obtain ⟨_, T19, L19, X19, hQ19, st19⟩ := own_cV X18 hx hml hZ hown (rm_il1 l Z a0 hw r1 h0 n0 Z0 hst X00 Fc1) (w 210 rfl) (w 143 rfl) (w 98 rfl) (w 145 rfl) (w 142 rfl) (w 144 rfl) (own_nfS hZ (w 144 rfl)) E1 e18 (g := (mkF m 16 #[vr r0, vr r1, .val .null, vr ta, vi (Int32.ofNat li.length)] [(.ref r1)])) (argsL := []) (rest := []) (W := 0) (lenOf own_pd17 rfl) (b d40_16)
    obtain ⟨rfl, Nq19, e19⟩ := hQ19
    have N19 := Fr.app N18 Nq19
    obtain ⟨T20, X20, e20, st20⟩ := getS2 X19 hx hZ hown (host := "") (Or.inl (w 22 rfl)) Via.refl e19 (O1.ext X00.2) (g := (mkF m 41 #[vr r0, vr r1, .val .null, vr ta, vi (Int32.ofNat li.length)] [])) rfl (b d40_41)
    obtain ⟨T21, X21, e21, st21⟩ := getF X20 hx hZ hown (host := "") (Or.inl (w 282 rfl)) Via.refl e20 Fm1 (g := (mkF m 48 #[vr r0, vr r1, .val .null, vr ta, vi (Int32.ofNat li.length)] [(.ref r1)])) rfl rfl (b d40_48)
    have pre23 : Pr p e below s₁ E0 T21 (mkF m 51 #[vr r0, vr r1, .val .null, vr ta, vi (Int32.ofNat li.length)] [(.int ml1)]) := fun t k => pre0 t (by
      refine XS.aloadN X0.here hx rfl (b d40_0) rfl rfl ?_
      refine st16 _ ?_
      show Sp p e below T16 (mkF m 4 #[vr r0, vr r1, .val .null, vu, vu] []) t
      refine XS.aloadN X16.here hx rfl (b d40_4) rfl rfl ?_
      refine st17 _ ?_
      show Sp p e below T17 (mkF m 8 #[vr r0, vr r1, .val .null, vu, vu] [(.ref ta)]) t
      refine XS.astoreN X17.here hx rfl (b d40_8) rfl rfl (l' := #[vr r0, vr r1, .val .null, vr ta, vu]) rfl ?_
      refine XS.aloadN X17.here hx rfl (b d40_9) rfl rfl ?_
      refine st18 _ ?_
      show Sp p e below T18 (mkF m 13 #[vr r0, vr r1, .val .null, vr ta, vu] [(.int (Int32.ofNat li.length))]) t
      refine XS.istore X18.here hx rfl (b d40_13) rfl (l' := #[vr r0, vr r1, .val .null, vr ta, vi (Int32.ofNat li.length)]) rfl ?_
      refine XS.aloadN X18.here hx rfl (b d40_15) rfl rfl ?_
      refine st19 _ ?_
      show Sp p e below T19 (mkF m 19 #[vr r0, vr r1, .val .null, vr ta, vi (Int32.ofNat li.length)] [(.int (0 : Int32))]) t
      refine XS.ifYes X19.here hx rfl (pc0 := 19) (pc' := 41) rfl (b d40_19) rfl ((if0 _ _).trans (teq (by decide : (0 : Int32) = (0 : Int32))).1) (by decide) (by decide) ?_
      refine st20 _ ?_
      show Sp p e below T20 (mkF m 44 #[vr r0, vr r1, .val .null, vr ta, vi (Int32.ofNat li.length)] [(.int G1)]) t
      refine XS.ifNo X20.here hx rfl (b d40_44) rfl ((if0 _ _).trans (feq (P1)).1) ?_
      refine XS.aloadN X20.here hx rfl (b d40_47) rfl rfl ?_
      refine st21 _ ?_
      exact k)
    by_cases hc22 : ml1 = (0 : Int32)
    · obtain ⟨T24, h24, X24, e24, W24, st24⟩ := putFN X21 hx hZ hown (w 34 rfl) Via.refl e21 F_coder E_r0 (Or.inr ⟨(w 35 rfl), rfl, hnm⟩) (w 10 rfl) (ty := .byte) (v' := (.int (1 : Int32))) (by decide) rfl rfl (g := (mkF m 81 #[vr r0, vr r1, .val .null, vr ta, vi (Int32.ofNat li.length)] [(.int (1 : Int32)), (.ref r0)])) rfl rfl (b d40_81)
      have Fw24 := F_coder.same W24
      have f25_1 := E_r0.wr W24
      have f25_2 := F_value.other W24 (Or.inr (slot_ne (Or.inr (w 37 rfl)) (Or.inr (w 35 rfl)) (by decide) (t := (.array .byte)) (t' := .byte) (by decide) (by decide)))
      have od25 := X00.wr W24 g_r0
      have f25_4 := E1.wr W24
      have f25_5 := Fc1.other W24 (Or.inl (ne_exa E1 E_r0 (by decide)))
      have f25_6 := Fv1.other W24 (Or.inl (ne_exa E1 E_r0 (by decide)))
      have f25_7 := Fk1.other W24 (Or.inl (ne_exa E1 E_r0 (by decide)))
      have f25_8 := Fm1.other W24 (Or.inl (ne_exa E1 E_r0 (by decide)))
      have f25_9 := Y1.other W24 (Ne.symm ne01)
      have f25_10 := Ey1.wr W24
      have N24 := Fr.snoc X24 N19 g_r0
      have Z24 : n0 ≤ h24.size := Nat.le_trans Z0 (Keep.of_wr W24).1
      have K24 := K0.wr W24 (Or.inl (by simp))
      obtain ⟨_, T27, L27, X27, hQ27, st27⟩ := own_cS X24 hx hml hZ hown (rm_cor l Z a0 hw ta (2 * li.length) (2 * cap) f1 h24 n0 Z24 f25_9 (by omega) (by omega) f25_10) (w 211 rfl) (w 212 rfl) (w 213 rfl) (w 214 rfl) e24 (g := (mkF m 91 #[vr r0, vr r1, .val .null, vr ta, vi (Int32.ofNat li.length)] [(.int (Int32.ofNat (2 * li.length))), (.int (0 : Int32)), (.ref ta), (.ref r0)])) (argsL := [(.ref ta), (.int (0 : Int32)), (.int (Int32.ofNat (2 * li.length)))]) (rest := [(.ref r0)]) (W := 1) (lenOf own_pd20 rfl) (b d40_91)
      obtain ⟨b27, f27, rfl, Nq27, szq27, Kq27, Yq27, Exq27, hq27⟩ := hQ27
      have N27 := Fr.app N24 Nq27
      have f28_1 := f25_1.keep Kq27
      have f28_2 := f25_2.keep Kq27 nin0
      have f28_3 := Fw24.keep Kq27 nin0
      have od28 := od25.keep Kq27 all0
      have f28_4 := f25_4.keep Kq27
      have f28_5 := f25_5.keep Kq27 nin0
      have f28_6 := f25_6.keep Kq27 nin0
      have f28_7 := f25_7.keep Kq27 nin0
      have f28_8 := f25_8.keep Kq27 nin0
      have f28_9 := f25_9.keep Kq27 nin0
      have f28_10 := f25_10.keep Kq27
      have Z27 : n0 ≤ T27.heap.size := Nat.le_trans Z24 Kq27.1
      have K27 := K24.trans Kq27 all0
      have ne_r0_b27 : r0 ≠ b27 := Nat.ne_of_lt (Nat.lt_of_lt_of_le f25_1.lt szq27)
      have ne_r1_b27 : r1 ≠ b27 := Nat.ne_of_lt (Nat.lt_of_lt_of_le f25_4.lt szq27)
      have ne_ta_b27 : ta ≠ b27 := Nat.ne_of_lt (Nat.lt_of_lt_of_le f25_9.lt szq27)
      have sz_b27 : h0.size ≤ b27 := Nat.le_trans K24.1 szq27
      have g_b27 : n0 ≤ b27 := Nat.le_trans Z24 szq27
      obtain ⟨T30, h30, X30, e30, W30, st30⟩ := putF X27 hx hZ hown (host := "") (Or.inl (w 36 rfl)) Via.refl rfl f28_2 f28_1 (Or.inr ⟨(w 37 rfl), rfl, hnm⟩) (w 10 rfl) (ty := (.array .byte)) (by decide) rfl rfl (g := (mkF m 94 #[vr r0, vr r1, .val .null, vr ta, vi (Int32.ofNat li.length)] [(.ref b27), (.ref r0)])) rfl rfl (b d40_94)
      have Fw30 := f28_2.same W30
      have f31_1 := f28_1.wr W30
      have f31_3 := f28_3.other W30 (Or.inr (slot_ne (Or.inr (w 35 rfl)) (Or.inr (w 37 rfl)) (by decide) (t := .byte) (t' := (.array .byte)) (by decide) (by decide)))
      have od31 := od28.wr W30 g_r0
      have f31_4 := f28_4.wr W30
      have f31_5 := f28_5.other W30 (Or.inl (ne_exa f28_4 f28_1 (by decide)))
      have f31_6 := f28_6.other W30 (Or.inl (ne_exa f28_4 f28_1 (by decide)))
      have f31_7 := f28_7.other W30 (Or.inl (ne_exa f28_4 f28_1 (by decide)))
      have f31_8 := f28_8.other W30 (Or.inl (ne_exa f28_4 f28_1 (by decide)))
      have f31_9 := f28_9.other W30 (Ne.symm ne01)
      have f31_10 := f28_10.wr W30
      have f31_11 := Yq27.other W30 (Ne.symm ne_r0_b27)
      have f31_12 := Exq27.wr W30
      have N30 := Fr.snoc X30 N27 g_r0
      have Z30 : n0 ≤ h30.size := Nat.le_trans Z27 (Keep.of_wr W30).1
      have K30 := K27.wr W30 (Or.inl (by simp))
      have pre33 : Pr p e below s₁ E0 T30 (mkF m 97 #[vr r0, vr r1, .val .null, vr ta, vi (Int32.ofNat li.length)] []) := fun t k => pre23 t (by
        refine XS.ifYes X21.here hx rfl (pc0 := 51) (pc' := 79) rfl (b d40_51) rfl ((if0 _ _).trans (teq hc22).1) (by decide) (by decide) ?_
        refine XS.aloadN X21.here hx rfl (b d40_79) rfl rfl ?_
        refine XS.iconst X21.here hx rfl (b d40_80) ?_
        refine st24 _ ?_
        show Sp p e below T24 (mkF m 84 #[vr r0, vr r1, .val .null, vr ta, vi (Int32.ofNat li.length)] []) t
        refine XS.aloadN X24.here hx rfl (b d40_84) rfl rfl ?_
        refine XS.aloadN X24.here hx rfl (b d40_85) rfl rfl ?_
        refine XS.iconst X24.here hx rfl (b d40_86) ?_
        refine XS.iload X24.here hx rfl (b d40_87) rfl ?_
        refine XS.iconst X24.here hx rfl (b d40_89) ?_
        refine XS.ishl X24.here hx rfl (b d40_90) rfl ?_
        show Sp p e below T24 (mkF m 91 #[vr r0, vr r1, .val .null, vr ta, vi (Int32.ofNat li.length)] [(.int ((Int32.ofNat li.length) <<< ((1 : Int32) &&& 31))), (.int (0 : Int32)), (.ref ta), (.ref r0)]) t
        rw [own_shl (a := li.length) (by omega)]
        show Sp p e below T24 (mkF m 91 #[vr r0, vr r1, .val .null, vr ta, vi (Int32.ofNat li.length)] [(.int (Int32.ofNat (2 * li.length))), (.int (0 : Int32)), (.ref ta), (.ref r0)]) t
        refine st27 _ ?_
        show Sp p e below T27 (mkF m 94 #[vr r0, vr r1, .val .null, vr ta, vi (Int32.ofNat li.length)] [(.ref b27), (.ref r0)]) t
        refine st30 _ ?_
        exact k)
      exact own_end X30 hlk (v := none) (fun _ => rfl) pre33 (fun fs hr => X30.returnOut hx hret (b d40_97) hr) (by rw [e30]; exact ⟨rfl, N30, K30, b27, sz_b27, _, _, _, f31_1, f31_3, Fw30, f31_11, Cod.ofU rfl hch1 (own_EUc hE1 (fun j hj => hq27 j (by omega))), by omega⟩)
    · obtain ⟨_, T34, L34, X34, hQ34, st34⟩ := own_cS X21 hx hml hZ hown (rm_cb3 l Z a0 hw ta li.length cap f1 li h0 n0 Z0 hst X00 Y1 Ey1 (by omega) (by omega) rfl hE1 hch1) (w 302 rfl) (w 303 rfl) (w 25 rfl) (w 304 rfl) e21 (g := (mkF m 59 #[vr r0, vr r1, .val .null, vr ta, vi (Int32.ofNat li.length)] [(.int (Int32.ofNat li.length)), (.int (0 : Int32)), (.ref ta), (.ref r0)])) (argsL := [(.ref ta), (.int (0 : Int32)), (.int (Int32.ofNat li.length))]) (rest := [(.ref r0)]) (W := 1) (lenOf own_pd20 rfl) (b d40_59)
      obtain ⟨b34, M34, g34, rfl, Nq34, szq34, Kq34, Yq34, hcod34⟩ := hQ34
      have N34 := Fr.app N19 Nq34
      have f35_1 := E_r0.keep Kq34
      have f35_2 := F_value.keep Kq34 nin0
      have f35_3 := F_coder.keep Kq34 nin0
      have od35 := X00.keep Kq34 all0
      have f35_4 := E1.keep Kq34
      have f35_5 := Fc1.keep Kq34 nin0
      have f35_6 := Fv1.keep Kq34 nin0
      have f35_7 := Fk1.keep Kq34 nin0
      have f35_8 := Fm1.keep Kq34 nin0
      have f35_9 := Y1.keep Kq34 nin0
      have f35_10 := Ey1.keep Kq34
      have Z34 : n0 ≤ T34.heap.size := Nat.le_trans Z0 Kq34.1
      have K34 := K0.trans Kq34 all0
      have ne_r0_b34 : r0 ≠ b34 := Nat.ne_of_lt (Nat.lt_of_lt_of_le E_r0.lt szq34)
      have ne_r1_b34 : r1 ≠ b34 := Nat.ne_of_lt (Nat.lt_of_lt_of_le E1.lt szq34)
      have ne_ta_b34 : ta ≠ b34 := Nat.ne_of_lt (Nat.lt_of_lt_of_le Y1.lt szq34)
      have sz_b34 : h0.size ≤ b34 := Nat.le_trans K0.1 szq34
      have g_b34 : n0 ≤ b34 := Nat.le_trans Z0 szq34
      obtain ⟨T37, h37, X37, e37, W37, st37⟩ := putF X34 hx hZ hown (host := "") (Or.inl (w 36 rfl)) Via.refl rfl f35_2 f35_1 (Or.inr ⟨(w 37 rfl), rfl, hnm⟩) (w 10 rfl) (ty := (.array .byte)) (by decide) rfl rfl (g := (mkF m 62 #[vr r0, vr r1, .val .null, vr ta, vi (Int32.ofNat li.length)] [(.ref b34), (.ref r0)])) rfl rfl (b d40_62)
      have Fw37 := f35_2.same W37
      have f38_1 := f35_1.wr W37
      have f38_3 := f35_3.other W37 (Or.inr (slot_ne (Or.inr (w 35 rfl)) (Or.inr (w 37 rfl)) (by decide) (t := .byte) (t' := (.array .byte)) (by decide) (by decide)))
      have od38 := od35.wr W37 g_r0
      have f38_4 := f35_4.wr W37
      have f38_5 := f35_5.other W37 (Or.inl (ne_exa f35_4 f35_1 (by decide)))
      have f38_6 := f35_6.other W37 (Or.inl (ne_exa f35_4 f35_1 (by decide)))
      have f38_7 := f35_7.other W37 (Or.inl (ne_exa f35_4 f35_1 (by decide)))
      have f38_8 := f35_8.other W37 (Or.inl (ne_exa f35_4 f35_1 (by decide)))
      have f38_9 := f35_9.other W37 (Ne.symm ne01)
      have f38_10 := f35_10.wr W37
      have f38_11 := Yq34.other W37 (Ne.symm ne_r0_b34)
      have N37 := Fr.snoc X37 N34 g_r0
      have Z37 : n0 ≤ h37.size := Nat.le_trans Z34 (Keep.of_wr W37).1
      have K37 := K34.wr W37 (Or.inl (by simp))
      obtain ⟨T40, X40, e40, st40⟩ := getF X37 hx hZ hown (host := "") (Or.inl (w 36 rfl)) Via.refl e37 Fw37 (g := (mkF m 67 #[vr r0, vr r1, .val .null, vr ta, vi (Int32.ofNat li.length)] [(.ref r0), (.ref r0)])) rfl rfl (b d40_67)
      obtain ⟨_, T41, L41, X41, hQ41, st41⟩ := own_cS X40 hx hml hZ hown (rm_cfa l Z a0 hw b34 li.length M34 g34 h37 n0 Z37 f38_11) (w 31 rfl) (w 32 rfl) (w 25 rfl) (w 33 rfl) e40 (g := (mkF m 72 #[vr r0, vr r1, .val .null, vr ta, vi (Int32.ofNat li.length)] [(.int (Int32.ofNat li.length)), (.ref b34), (.ref r0)])) (argsL := [(.ref b34), (.int (Int32.ofNat li.length))]) (rest := [(.ref r0)]) (W := 1) (lenOf own_pd10 rfl) (b d40_72)
      obtain ⟨rfl, Nq41, e41⟩ := hQ41
      have N41 := Fr.app N37 Nq41
      obtain ⟨T42, h42, X42, e42, W42, st42⟩ := putFN X41 hx hZ hown (w 34 rfl) Via.refl e41 f38_3 f38_1 (Or.inr ⟨(w 35 rfl), rfl, hnm⟩) (w 10 rfl) (ty := .byte) (v' := (.int (nar .byte (own_cfa li.length M34)))) (by decide) rfl (fits_nar_byte _) (g := (mkF m 75 #[vr r0, vr r1, .val .null, vr ta, vi (Int32.ofNat li.length)] [(.int (own_cfa li.length M34)), (.ref r0)])) rfl rfl (b d40_75)
      have Fw42 := f38_3.same W42
      have f43_1 := f38_1.wr W42
      have f43_2 := Fw37.other W42 (Or.inr (slot_ne (Or.inr (w 37 rfl)) (Or.inr (w 35 rfl)) (by decide) (t := (.array .byte)) (t' := .byte) (by decide) (by decide)))
      have od43 := od38.wr W42 g_r0
      have f43_4 := f38_4.wr W42
      have f43_5 := f38_5.other W42 (Or.inl (ne_exa f38_4 f38_1 (by decide)))
      have f43_6 := f38_6.other W42 (Or.inl (ne_exa f38_4 f38_1 (by decide)))
      have f43_7 := f38_7.other W42 (Or.inl (ne_exa f38_4 f38_1 (by decide)))
      have f43_8 := f38_8.other W42 (Or.inl (ne_exa f38_4 f38_1 (by decide)))
      have f43_9 := f38_9.other W42 (Ne.symm ne01)
      have f43_10 := f38_10.wr W42
      have f43_11 := f38_11.other W42 (Ne.symm ne_r0_b34)
      have N42 := Fr.snoc X42 N41 g_r0
      have Z42 : n0 ≤ h42.size := Nat.le_trans Z37 (Keep.of_wr W42).1
      have K42 := K37.wr W42 (Or.inl (by simp))
      have pre45 : Pr p e below s₁ E0 T42 (mkF m 78 #[vr r0, vr r1, .val .null, vr ta, vi (Int32.ofNat li.length)] []) := fun t k => pre23 t (by
        refine XS.ifNo X21.here hx rfl (b d40_51) rfl ((if0 _ _).trans (feq hc22).1) ?_
        refine XS.aloadN X21.here hx rfl (b d40_54) rfl rfl ?_
        refine XS.aloadN X21.here hx rfl (b d40_55) rfl rfl ?_
        refine XS.iconst X21.here hx rfl (b d40_56) ?_
        refine XS.iload X21.here hx rfl (b d40_57) rfl ?_
        refine st34 _ ?_
        show Sp p e below T34 (mkF m 62 #[vr r0, vr r1, .val .null, vr ta, vi (Int32.ofNat li.length)] [(.ref b34), (.ref r0)]) t
        refine st37 _ ?_
        show Sp p e below T37 (mkF m 65 #[vr r0, vr r1, .val .null, vr ta, vi (Int32.ofNat li.length)] []) t
        refine XS.aloadN X37.here hx rfl (b d40_65) rfl rfl ?_
        refine XS.aloadN X37.here hx rfl (b d40_66) rfl rfl ?_
        refine st40 _ ?_
        show Sp p e below T40 (mkF m 70 #[vr r0, vr r1, .val .null, vr ta, vi (Int32.ofNat li.length)] [(.ref b34), (.ref r0)]) t
        refine XS.iload X40.here hx rfl (b d40_70) rfl ?_
        refine st41 _ ?_
        show Sp p e below T41 (mkF m 75 #[vr r0, vr r1, .val .null, vr ta, vi (Int32.ofNat li.length)] [(.int (own_cfa li.length M34)), (.ref r0)]) t
        refine st42 _ ?_
        exact k)
      exact own_end X42 hlk (v := none) (fun _ => rfl) pre45 (fun fs hr => X42.returnOut hx hret (b d40_78) hr) (by rw [e42]; exact ⟨rfl, N42, K42, b34, sz_b34, _, _, _, f43_1, by have q := Fw42; rw [own_cfan] at q; exact q, f43_2, f43_11, hcod34, by omega⟩)
abbrev C39 := jdk_42_method_53_code
theorem d39_0 : dk C39 0 (.aload_n 0) 1 := by decide +kernel
theorem d39_1 : dk C39 1 (.aload_n 1) 1 := by decide +kernel
theorem d39_2 : dk C39 2 .aconst_null 1 := by decide +kernel
theorem d39_3 : dk C39 3 (.invokespecial 489) 3 := by decide +kernel
theorem own_pd37 : parseMethodDescriptor "(Ljava/lang/AbstractStringBuilder;Ljava/lang/Void;)V" = some ⟨[(.object "java/lang/AbstractStringBuilder"), (.object "java/lang/Void")], none⟩ := by decide +kernel
theorem d39_6 : dk C39 6 .return_ 1 := by decide +kernel
def Q_ssb (Z : State) (r0 : Addr) (r1 : Addr) (ta : Addr) (cap : Nat) (li : List Int32) (h0 : Heap) (n0 : Nat) (v : Option Value) (h : Heap) (L : List Loc) : Prop := v = none ∧ Fr n0 L ∧ Keep h0 h [r0] ∧ ∃ t, h0.size ≤ t ∧ Us Z h r0 t li
theorem rm_ssb (l : Launch) (Z : State) (a0 : Array Value) (hw : Hw a0 Z) (r0 : Addr) (r1 : Addr) (ta : Addr) (cap : Nat) (li : List Int32) (h0 : Heap) (n0 : Nat) (Z0 : n0 ≤ h0.size) (hst : own_St Z) (X00 : Old Z n0 h0) (E_r0 : Exa Z h0 r0 "java/lang/String") (g_r0 : n0 ≤ r0) (F_value : Fld Z h0 r0 "java/lang/String" "value" "[B" .null) (F_coder : Fld Z h0 r0 "java/lang/String" "coder" "B" (.int (0 : Int32))) (B_r1 : Sb Z h0 r1 ta cap li) (ne01 : r0 ≠ ta) : Mt l (⟨"java/lang/String", "<init>", "(Ljava/lang/StringBuilder;)V"⟩ : MethodName) C39 2 none ({ frames := 6, cells := 2, slots := 15, locals := 104 } : Room) #[(.ref r0), (.ref r1)] Z h0 (Q_ssb Z r0 r1 ta cap li h0 n0) := by
  have w := own_w hw
  refine own_go (L0 := #[vr r0, vr r1]) n0 (plainFor_of_name own_pn2) (fun m => rfl) fun p e s m below meth c s₁ E0 hx b hml hown hnm hret hlk hZ X0 e0 N0 pre0 => ?_
  have K0 : Keep h0 h0 [r0] := Keep.refl h0 _
  obtain ⟨_, T1, L1, X1, hQ1, st1⟩ := own_cN X0 hx hml hZ hown (rm_sab l Z a0 hw r0 r1 ta cap li h0 n0 Z0 hst X00 E_r0 g_r0 F_value F_coder B_r1 ne01) (w 200 rfl) (w 201 rfl) (w 11 rfl) (w 202 rfl) rfl e0 (g := (mkF m 3 #[vr r0, vr r1] [.null, (.ref r1), (.ref r0)])) (argsL := [(.ref r1), .null]) (rest := []) (W := 0) (lenOf own_pd37 rfl) (b d39_3)
  obtain ⟨rfl, Nq1, Kq1, t1, szq1, Uq1⟩ := hQ1
  have N1 := Fr.app N0 Nq1
  have f2_1 := E_r0.keep Kq1
  have od2 := X00.keep Kq1 (allS g_r0 all0)
  have u3_1 := B_r1.keep Kq1 (ninS (ne_exa (B_r1.exa) E_r0 (by decide)) nin0) (ninS (Ne.symm ne01) nin0)
  have Z1 : n0 ≤ T1.heap.size := Nat.le_trans Z0 Kq1.1
  have K1 := K0.trans Kq1 (allS (Or.inl (by simp)) all0)
  have ne_r0_t1 : r0 ≠ t1 := Nat.ne_of_lt (Nat.lt_of_lt_of_le E_r0.lt szq1)
  have ne_r1_t1 : r1 ≠ t1 := Nat.ne_of_lt (Nat.lt_of_lt_of_le B_r1.lt szq1)
  have ne_ta_t1 : ta ≠ t1 := Nat.ne_of_lt (Nat.lt_of_lt_of_le B_r1.ltt szq1)
  have sz_t1 : h0.size ≤ t1 := Nat.le_trans K0.1 szq1
  have g_t1 : n0 ≤ t1 := Nat.le_trans Z0 szq1
  have pre4 : Pr p e below s₁ E0 T1 (mkF m 6 #[vr r0, vr r1] []) := fun t k => pre0 t (by
    refine XS.aloadN X0.here hx rfl (b d39_0) rfl rfl ?_
    refine XS.aloadN X0.here hx rfl (b d39_1) rfl rfl ?_
    refine XS.aconstNull X0.here hx rfl (b d39_2) ?_
    refine st1 _ ?_
    exact k)
  exact own_end X1 hlk (v := none) (fun _ => rfl) pre4 (fun fs hr => X1.returnOut hx hret (b d39_6) hr) ⟨rfl, N1, K1, t1, sz_t1, Uq1⟩
abbrev C38 := jdk_67_method_42_code
theorem d38_0 : dk C38 0 (.new 18) 3 := by decide +kernel
theorem d38_3 : dk C38 3 .dup 1 := by decide +kernel
theorem d38_4 : dk C38 4 (.aload_n 0) 1 := by decide +kernel
theorem d38_5 : dk C38 5 (.invokespecial 137) 3 := by decide +kernel
theorem own_pd38 : parseMethodDescriptor "(Ljava/lang/StringBuilder;)V" = some ⟨[(.object "java/lang/StringBuilder")], none⟩ := by decide +kernel
theorem d38_8 : dk C38 8 .areturn 1 := by decide +kernel
def Q_sts (Z : State) (r0 : Addr) (ta : Addr) (cap : Nat) (li : List Int32) (h0 : Heap) (n0 : Nat) (v : Option Value) (h : Heap) (L : List Loc) : Prop := ∃ a t, v = some (.ref a) ∧ Fr n0 L ∧ Keep h0 h [] ∧ Us Z h a t li
theorem rm_sts (l : Launch) (Z : State) (a0 : Array Value) (hw : Hw a0 Z) (r0 : Addr) (ta : Addr) (cap : Nat) (li : List Int32) (h0 : Heap) (n0 : Nat) (Z0 : n0 ≤ h0.size) (hst : own_St Z) (X00 : Old Z n0 h0) (B_r0 : Sb Z h0 r0 ta cap li) : Mt l (⟨"java/lang/StringBuilder", "toString", "()Ljava/lang/String;"⟩ : MethodName) C38 1 (some (.object "java/lang/String")) ({ frames := 7, cells := 3, slots := 19, locals := 118 } : Room) #[(.ref r0)] Z h0 (Q_sts Z r0 ta cap li h0 n0) := by
  have w := own_w hw
  refine own_go (L0 := #[vr r0]) n0 (plainFor_of_name own_pn27) (fun m => rfl) fun p e s m below meth c s₁ E0 hx b hml hown hnm hret hlk hZ X0 e0 N0 pre0 => ?_
  have K0 : Keep h0 h0 [] := Keep.refl h0 _
  obtain ⟨T1, h1, X1, e1, E1, A1, D1, -, st1⟩ := newO X0 hx hZ hown (w 196 rfl) (w 10 rfl) (w 11 rfl) e0 (g := (mkF m 0 #[vr r0] [])) rfl (b d38_0) (by decide) (by decide)
  obtain ⟨b1, g1⟩ : ∃ z, z = h0.size := ⟨_, rfl⟩
  rw [← g1] at A1 D1 st1
  have ne_r0_b1 : r0 ≠ b1 := Nat.ne_of_lt (Nat.lt_of_lt_of_le B_r0.lt (Nat.le_of_eq g1.symm))
  have ne_ta_b1 : ta ≠ b1 := Nat.ne_of_lt (Nat.lt_of_lt_of_le B_r0.ltt (Nat.le_of_eq g1.symm))
  have g_b1 : n0 ≤ b1 := Nat.le_trans Z0 (Nat.le_of_eq g1.symm)
  have sz_b1 : h0.size ≤ b1 := Nat.le_trans K0.1 (Nat.le_of_eq g1.symm)
  have od2 := X00.ext E1
  have u3_1 := B_r0.ext E1
  have Z1 : n0 ≤ h1.size := Nat.le_trans Z0 E1.1
  have K1 := K0.ext E1
  have F_coder_b1 : Fld Z h1 b1 "java/lang/String" "coder" "B" (.int (0 : Int32)) := D1 (Or.inr (w 35 rfl)) (ty := .byte) (by decide)
  have F_value_b1 : Fld Z h1 b1 "java/lang/String" "value" "[B" .null := D1 (Or.inr (w 37 rfl)) (ty := (.array .byte)) (by decide)
  obtain ⟨_, T4, L4, X4, hQ4, st4⟩ := own_cN X1 hx hml hZ hown (rm_ssb l Z a0 hw b1 r0 ta cap li h1 n0 Z1 hst od2 A1 g_b1 F_value_b1 F_coder_b1 u3_1 (Ne.symm ne_ta_b1)) (w 197 rfl) (w 198 rfl) (w 11 rfl) (w 199 rfl) rfl e1 (g := (mkF m 5 #[vr r0] [(.ref r0), (.ref b1), (.ref b1)])) (argsL := [(.ref r0)]) (rest := [(.ref b1)]) (W := 1) (lenOf own_pd38 rfl) (b d38_5)
  obtain ⟨rfl, Nq4, Kq4, t4, szq4, Uq4⟩ := hQ4
  have N4 := Fr.app N0 Nq4
  have od5 := od2.keep Kq4 (allS g_b1 all0)
  have f5_1 := A1.keep Kq4
  have u6_1 := u3_1.keep Kq4 (ninS ne_r0_b1 nin0) (ninS ne_ta_b1 nin0)
  have Z4 : n0 ≤ T4.heap.size := Nat.le_trans Z1 Kq4.1
  have K4 := K1.trans Kq4 (allS (Or.inr sz_b1) all0)
  have ne_r0_t4 : r0 ≠ t4 := Nat.ne_of_lt (Nat.lt_of_lt_of_le u3_1.lt szq4)
  have ne_ta_t4 : ta ≠ t4 := Nat.ne_of_lt (Nat.lt_of_lt_of_le u3_1.ltt szq4)
  have ne_b1_t4 : b1 ≠ t4 := Nat.ne_of_lt (Nat.lt_of_lt_of_le A1.lt szq4)
  have sz_t4 : h0.size ≤ t4 := Nat.le_trans K1.1 szq4
  have g_t4 : n0 ≤ t4 := Nat.le_trans Z1 szq4
  have pre7 : Pr p e below s₁ E0 T4 (mkF m 8 #[vr r0] [(.ref b1)]) := fun t k => pre0 t (by
    refine st1 _ ?_
    show Sp p e below T1 (mkF m 3 #[vr r0] [(.ref b1)]) t
    refine XS.dup X1.here hx rfl (b d38_3) rfl rfl ?_
    refine XS.aloadN X1.here hx rfl (b d38_4) rfl rfl ?_
    refine st4 _ ?_
    exact k)
  exact own_end X4 hlk (v := some (.ref b1)) (own_hv hret) pre7 (fun fs hr => own_ra X4 hx hret rfl (b d38_8) hr) ⟨b1, t4, rfl, N4, K4, Uq4⟩
abbrev C17 := prog_5_method_3_code
theorem d17_0 : dk C17 0 (.iload_n 0) 1 := by decide +kernel
theorem d17_1 : dk C17 1 (.lookupswitch 95 #[(10, 91), (11, 91), (12, 91), (13, 91), (28, 91), (29, 91), (30, 91), (133, 91), (8232, 91), (8233, 91)]) 91 := by decide +kernel
theorem d17_92 : dk C17 92 (.iconst 1) 1 := by decide +kernel
theorem d17_93 : dk C17 93 (.goto 4) 3 := by decide +kernel
theorem d17_97 : dk C17 97 .ireturn 1 := by decide +kernel
theorem d17_96 : dk C17 96 (.iconst 0) 1 := by decide +kernel
theorem own_pn39 : plainName "org/interpunct/marc/OneLine" = true := by first | (simp [plainName, overriddenIn]; done) | decide +kernel
def fn_lb (p0 : Int32) : Int32 := (if p0 = (10 : Int32) then (1 : Int32) else (if p0 = (11 : Int32) then (1 : Int32) else (if p0 = (12 : Int32) then (1 : Int32) else (if p0 = (13 : Int32) then (1 : Int32) else (if p0 = (28 : Int32) then (1 : Int32) else (if p0 = (29 : Int32) then (1 : Int32) else (if p0 = (30 : Int32) then (1 : Int32) else (if p0 = (133 : Int32) then (1 : Int32) else (if p0 = (8232 : Int32) then (1 : Int32) else (if p0 = (8233 : Int32) then (1 : Int32) else (0 : Int32)))))))))))
def Q_lb (Z : State) (p0 : Int32) (h0 : Heap) (n0 : Nat) (v : Option Value) (h : Heap) (L : List Loc) : Prop := v = some (.int (fn_lb p0)) ∧ Fr n0 L ∧ h = h0
theorem rm_lb (l : Launch) (Z : State) (a0 : Array Value) (hw : Hw a0 Z) (p0 : Int32) (h0 : Heap) (n0 : Nat) (Z0 : n0 ≤ h0.size) : Mt l (⟨"org/interpunct/marc/OneLine", "isLineBreak", "(C)Z"⟩ : MethodName) C17 1 (some .boolean) ({ frames := 0, cells := 0, slots := 0, locals := 0 } : Room) #[(.int p0)] Z h0 (Q_lb Z p0 h0 n0) := by
  have w := own_w hw
  refine own_go (L0 := #[vi p0]) n0 (plainFor_of_name own_pn39) (fun m => rfl) fun p e s m below meth c s₁ E0 hx b hml hown hnm hret hlk hZ X0 e0 N0 pre0 => ?_
  have pre1 : Pr p e below s₁ E0 s₁ (mkF m 1 #[vi p0] [(.int p0)]) := fun t k => pre0 t (by
    refine XS.iloadN X0.here hx rfl (b d17_0) rfl ?_
    exact k)
  by_cases hs2 : p0 = (10 : Int32)
  · have pre3 : Pr p e below s₁ E0 s₁ (mkF m 97 #[vi p0] [(.int (1 : Int32))]) := fun t k => pre1 t (by
      refine X0.lookupswitchHit hx (g := (mkF m 1 #[vi p0] [(.int p0)])) rfl rfl (b d17_1) (by decide) (a := 10) (off := 91) (by rw [hs2]; decide) (by show (0 : Int) ≤ ((1 : Nat) : Int) + 91; decide) _ ?_
      show Sp p e below s₁ (mkF m 92 #[vi p0] []) t
      refine XS.iconst X0.here hx rfl (b d17_92) ?_
      refine XS.goto X0.here hx rfl (pc0 := 93) (pc' := 97) rfl (b d17_93) (by decide) (by decide) ?_
      exact k)
    exact own_end X0 hlk (v := some (.int (1 : Int32))) (own_hv hret) pre3 (fun fs hr => retN X0 hx (t := .boolean) hret (by simp) (b d17_97) hr) (by rw [e0]; exact ⟨by simp only [fn_lb, if_pos hs2], N0, rfl⟩)
  by_cases hs4 : p0 = (11 : Int32)
  · have pre5 : Pr p e below s₁ E0 s₁ (mkF m 97 #[vi p0] [(.int (1 : Int32))]) := fun t k => pre1 t (by
      refine X0.lookupswitchHit hx (g := (mkF m 1 #[vi p0] [(.int p0)])) rfl rfl (b d17_1) (by decide) (a := 11) (off := 91) (by rw [hs4]; decide) (by show (0 : Int) ≤ ((1 : Nat) : Int) + 91; decide) _ ?_
      show Sp p e below s₁ (mkF m 92 #[vi p0] []) t
      refine XS.iconst X0.here hx rfl (b d17_92) ?_
      refine XS.goto X0.here hx rfl (pc0 := 93) (pc' := 97) rfl (b d17_93) (by decide) (by decide) ?_
      exact k)
    exact own_end X0 hlk (v := some (.int (1 : Int32))) (own_hv hret) pre5 (fun fs hr => retN X0 hx (t := .boolean) hret (by simp) (b d17_97) hr) (by rw [e0]; exact ⟨by simp only [fn_lb, if_neg hs2, if_pos hs4], N0, rfl⟩)
  by_cases hs6 : p0 = (12 : Int32)
  · have pre7 : Pr p e below s₁ E0 s₁ (mkF m 97 #[vi p0] [(.int (1 : Int32))]) := fun t k => pre1 t (by
      refine X0.lookupswitchHit hx (g := (mkF m 1 #[vi p0] [(.int p0)])) rfl rfl (b d17_1) (by decide) (a := 12) (off := 91) (by rw [hs6]; decide) (by show (0 : Int) ≤ ((1 : Nat) : Int) + 91; decide) _ ?_
      show Sp p e below s₁ (mkF m 92 #[vi p0] []) t
      refine XS.iconst X0.here hx rfl (b d17_92) ?_
      refine XS.goto X0.here hx rfl (pc0 := 93) (pc' := 97) rfl (b d17_93) (by decide) (by decide) ?_
      exact k)
    exact own_end X0 hlk (v := some (.int (1 : Int32))) (own_hv hret) pre7 (fun fs hr => retN X0 hx (t := .boolean) hret (by simp) (b d17_97) hr) (by rw [e0]; exact ⟨by simp only [fn_lb, if_neg hs2, if_neg hs4, if_pos hs6], N0, rfl⟩)
  by_cases hs8 : p0 = (13 : Int32)
  · have pre9 : Pr p e below s₁ E0 s₁ (mkF m 97 #[vi p0] [(.int (1 : Int32))]) := fun t k => pre1 t (by
      refine X0.lookupswitchHit hx (g := (mkF m 1 #[vi p0] [(.int p0)])) rfl rfl (b d17_1) (by decide) (a := 13) (off := 91) (by rw [hs8]; decide) (by show (0 : Int) ≤ ((1 : Nat) : Int) + 91; decide) _ ?_
      show Sp p e below s₁ (mkF m 92 #[vi p0] []) t
      refine XS.iconst X0.here hx rfl (b d17_92) ?_
      refine XS.goto X0.here hx rfl (pc0 := 93) (pc' := 97) rfl (b d17_93) (by decide) (by decide) ?_
      exact k)
    exact own_end X0 hlk (v := some (.int (1 : Int32))) (own_hv hret) pre9 (fun fs hr => retN X0 hx (t := .boolean) hret (by simp) (b d17_97) hr) (by rw [e0]; exact ⟨by simp only [fn_lb, if_neg hs2, if_neg hs4, if_neg hs6, if_pos hs8], N0, rfl⟩)
  by_cases hs10 : p0 = (28 : Int32)
  · have pre11 : Pr p e below s₁ E0 s₁ (mkF m 97 #[vi p0] [(.int (1 : Int32))]) := fun t k => pre1 t (by
      refine X0.lookupswitchHit hx (g := (mkF m 1 #[vi p0] [(.int p0)])) rfl rfl (b d17_1) (by decide) (a := 28) (off := 91) (by rw [hs10]; decide) (by show (0 : Int) ≤ ((1 : Nat) : Int) + 91; decide) _ ?_
      show Sp p e below s₁ (mkF m 92 #[vi p0] []) t
      refine XS.iconst X0.here hx rfl (b d17_92) ?_
      refine XS.goto X0.here hx rfl (pc0 := 93) (pc' := 97) rfl (b d17_93) (by decide) (by decide) ?_
      exact k)
    exact own_end X0 hlk (v := some (.int (1 : Int32))) (own_hv hret) pre11 (fun fs hr => retN X0 hx (t := .boolean) hret (by simp) (b d17_97) hr) (by rw [e0]; exact ⟨by simp only [fn_lb, if_neg hs2, if_neg hs4, if_neg hs6, if_neg hs8, if_pos hs10], N0, rfl⟩)
  by_cases hs12 : p0 = (29 : Int32)
  · have pre13 : Pr p e below s₁ E0 s₁ (mkF m 97 #[vi p0] [(.int (1 : Int32))]) := fun t k => pre1 t (by
      refine X0.lookupswitchHit hx (g := (mkF m 1 #[vi p0] [(.int p0)])) rfl rfl (b d17_1) (by decide) (a := 29) (off := 91) (by rw [hs12]; decide) (by show (0 : Int) ≤ ((1 : Nat) : Int) + 91; decide) _ ?_
      show Sp p e below s₁ (mkF m 92 #[vi p0] []) t
      refine XS.iconst X0.here hx rfl (b d17_92) ?_
      refine XS.goto X0.here hx rfl (pc0 := 93) (pc' := 97) rfl (b d17_93) (by decide) (by decide) ?_
      exact k)
    exact own_end X0 hlk (v := some (.int (1 : Int32))) (own_hv hret) pre13 (fun fs hr => retN X0 hx (t := .boolean) hret (by simp) (b d17_97) hr) (by rw [e0]; exact ⟨by simp only [fn_lb, if_neg hs2, if_neg hs4, if_neg hs6, if_neg hs8, if_neg hs10, if_pos hs12], N0, rfl⟩)
  by_cases hs14 : p0 = (30 : Int32)
  · have pre15 : Pr p e below s₁ E0 s₁ (mkF m 97 #[vi p0] [(.int (1 : Int32))]) := fun t k => pre1 t (by
      refine X0.lookupswitchHit hx (g := (mkF m 1 #[vi p0] [(.int p0)])) rfl rfl (b d17_1) (by decide) (a := 30) (off := 91) (by rw [hs14]; decide) (by show (0 : Int) ≤ ((1 : Nat) : Int) + 91; decide) _ ?_
      show Sp p e below s₁ (mkF m 92 #[vi p0] []) t
      refine XS.iconst X0.here hx rfl (b d17_92) ?_
      refine XS.goto X0.here hx rfl (pc0 := 93) (pc' := 97) rfl (b d17_93) (by decide) (by decide) ?_
      exact k)
    exact own_end X0 hlk (v := some (.int (1 : Int32))) (own_hv hret) pre15 (fun fs hr => retN X0 hx (t := .boolean) hret (by simp) (b d17_97) hr) (by rw [e0]; exact ⟨by simp only [fn_lb, if_neg hs2, if_neg hs4, if_neg hs6, if_neg hs8, if_neg hs10, if_neg hs12, if_pos hs14], N0, rfl⟩)
  by_cases hs16 : p0 = (133 : Int32)
  · have pre17 : Pr p e below s₁ E0 s₁ (mkF m 97 #[vi p0] [(.int (1 : Int32))]) := fun t k => pre1 t (by
      refine X0.lookupswitchHit hx (g := (mkF m 1 #[vi p0] [(.int p0)])) rfl rfl (b d17_1) (by decide) (a := 133) (off := 91) (by rw [hs16]; decide) (by show (0 : Int) ≤ ((1 : Nat) : Int) + 91; decide) _ ?_
      show Sp p e below s₁ (mkF m 92 #[vi p0] []) t
      refine XS.iconst X0.here hx rfl (b d17_92) ?_
      refine XS.goto X0.here hx rfl (pc0 := 93) (pc' := 97) rfl (b d17_93) (by decide) (by decide) ?_
      exact k)
    exact own_end X0 hlk (v := some (.int (1 : Int32))) (own_hv hret) pre17 (fun fs hr => retN X0 hx (t := .boolean) hret (by simp) (b d17_97) hr) (by rw [e0]; exact ⟨by simp only [fn_lb, if_neg hs2, if_neg hs4, if_neg hs6, if_neg hs8, if_neg hs10, if_neg hs12, if_neg hs14, if_pos hs16], N0, rfl⟩)
  by_cases hs18 : p0 = (8232 : Int32)
  · have pre19 : Pr p e below s₁ E0 s₁ (mkF m 97 #[vi p0] [(.int (1 : Int32))]) := fun t k => pre1 t (by
      refine X0.lookupswitchHit hx (g := (mkF m 1 #[vi p0] [(.int p0)])) rfl rfl (b d17_1) (by decide) (a := 8232) (off := 91) (by rw [hs18]; decide) (by show (0 : Int) ≤ ((1 : Nat) : Int) + 91; decide) _ ?_
      show Sp p e below s₁ (mkF m 92 #[vi p0] []) t
      refine XS.iconst X0.here hx rfl (b d17_92) ?_
      refine XS.goto X0.here hx rfl (pc0 := 93) (pc' := 97) rfl (b d17_93) (by decide) (by decide) ?_
      exact k)
    exact own_end X0 hlk (v := some (.int (1 : Int32))) (own_hv hret) pre19 (fun fs hr => retN X0 hx (t := .boolean) hret (by simp) (b d17_97) hr) (by rw [e0]; exact ⟨by simp only [fn_lb, if_neg hs2, if_neg hs4, if_neg hs6, if_neg hs8, if_neg hs10, if_neg hs12, if_neg hs14, if_neg hs16, if_pos hs18], N0, rfl⟩)
  by_cases hs20 : p0 = (8233 : Int32)
  · have pre21 : Pr p e below s₁ E0 s₁ (mkF m 97 #[vi p0] [(.int (1 : Int32))]) := fun t k => pre1 t (by
      refine X0.lookupswitchHit hx (g := (mkF m 1 #[vi p0] [(.int p0)])) rfl rfl (b d17_1) (by decide) (a := 8233) (off := 91) (by rw [hs20]; decide) (by show (0 : Int) ≤ ((1 : Nat) : Int) + 91; decide) _ ?_
      show Sp p e below s₁ (mkF m 92 #[vi p0] []) t
      refine XS.iconst X0.here hx rfl (b d17_92) ?_
      refine XS.goto X0.here hx rfl (pc0 := 93) (pc' := 97) rfl (b d17_93) (by decide) (by decide) ?_
      exact k)
    exact own_end X0 hlk (v := some (.int (1 : Int32))) (own_hv hret) pre21 (fun fs hr => retN X0 hx (t := .boolean) hret (by simp) (b d17_97) hr) (by rw [e0]; exact ⟨by simp only [fn_lb, if_neg hs2, if_neg hs4, if_neg hs6, if_neg hs8, if_neg hs10, if_neg hs12, if_neg hs14, if_neg hs16, if_neg hs18, if_pos hs20], N0, rfl⟩)
  have pre22 : Pr p e below s₁ E0 s₁ (mkF m 97 #[vi p0] [(.int (0 : Int32))]) := fun t k => pre1 t (by
    refine X0.lookupswitchMiss hx (g := (mkF m 1 #[vi p0] [(.int p0)])) rfl rfl (b d17_1) (by decide) (find_miss (by
        intro q hq
        simp only [List.mem_cons, List.not_mem_nil, or_false] at hq
        rcases hq with rfl | rfl | rfl | rfl | rfl | rfl | rfl | rfl | rfl | rfl
        · exact fun z => hs2 (Int32.toInt_inj.mp z.symm)
        · exact fun z => hs4 (Int32.toInt_inj.mp z.symm)
        · exact fun z => hs6 (Int32.toInt_inj.mp z.symm)
        · exact fun z => hs8 (Int32.toInt_inj.mp z.symm)
        · exact fun z => hs10 (Int32.toInt_inj.mp z.symm)
        · exact fun z => hs12 (Int32.toInt_inj.mp z.symm)
        · exact fun z => hs14 (Int32.toInt_inj.mp z.symm)
        · exact fun z => hs16 (Int32.toInt_inj.mp z.symm)
        · exact fun z => hs18 (Int32.toInt_inj.mp z.symm)
        · exact fun z => hs20 (Int32.toInt_inj.mp z.symm)
        )) (by show (0 : Int) ≤ ((1 : Nat) : Int) + 95; decide) _ ?_
    show Sp p e below s₁ (mkF m 96 #[vi p0] []) t
    refine XS.iconst X0.here hx rfl (b d17_96) ?_
    exact k)
  exact own_end X0 hlk (v := some (.int (0 : Int32))) (own_hv hret) pre22 (fun fs hr => retN X0 hx (t := .boolean) hret (by simp) (b d17_97) hr) (by rw [e0]; exact ⟨by simp only [fn_lb, if_neg hs2, if_neg hs4, if_neg hs6, if_neg hs8, if_neg hs10, if_neg hs12, if_neg hs14, if_neg hs16, if_neg hs18, if_neg hs20], N0, rfl⟩)
abbrev C18 := method_4_code
theorem d18_0 : dk C18 0 (.iload_n 0) 1 := by decide +kernel
theorem d18_1 : dk C18 1 (.bipush 10) 2 := by decide +kernel
theorem d18_3 : dk C18 3 (.if_icmp .eq 60) 3 := by decide +kernel
theorem d18_63 : dk C18 63 (.iconst 1) 1 := by decide +kernel
theorem d18_64 : dk C18 64 (.goto 4) 3 := by decide +kernel
theorem d18_68 : dk C18 68 .ireturn 1 := by decide +kernel
theorem d18_6 : dk C18 6 (.iload_n 0) 1 := by decide +kernel
theorem d18_7 : dk C18 7 (.bipush 11) 2 := by decide +kernel
theorem d18_9 : dk C18 9 (.if_icmp .eq 54) 3 := by decide +kernel
theorem d18_12 : dk C18 12 (.iload_n 0) 1 := by decide +kernel
theorem d18_13 : dk C18 13 (.bipush 12) 2 := by decide +kernel
theorem d18_15 : dk C18 15 (.if_icmp .eq 48) 3 := by decide +kernel
theorem d18_18 : dk C18 18 (.iload_n 0) 1 := by decide +kernel
theorem d18_19 : dk C18 19 (.bipush 13) 2 := by decide +kernel
theorem d18_21 : dk C18 21 (.if_icmp .eq 42) 3 := by decide +kernel
theorem d18_24 : dk C18 24 (.iload_n 0) 1 := by decide +kernel
theorem d18_25 : dk C18 25 (.bipush 28) 2 := by decide +kernel
theorem d18_27 : dk C18 27 (.if_icmp .eq 36) 3 := by decide +kernel
theorem d18_30 : dk C18 30 (.iload_n 0) 1 := by decide +kernel
theorem d18_31 : dk C18 31 (.bipush 29) 2 := by decide +kernel
theorem d18_33 : dk C18 33 (.if_icmp .eq 30) 3 := by decide +kernel
theorem d18_36 : dk C18 36 (.iload_n 0) 1 := by decide +kernel
theorem d18_37 : dk C18 37 (.bipush 30) 2 := by decide +kernel
theorem d18_39 : dk C18 39 (.if_icmp .eq 24) 3 := by decide +kernel
theorem d18_42 : dk C18 42 (.iload_n 0) 1 := by decide +kernel
theorem d18_43 : dk C18 43 (.sipush 133) 3 := by decide +kernel
theorem d18_46 : dk C18 46 (.if_icmp .eq 17) 3 := by decide +kernel
theorem d18_49 : dk C18 49 (.iload_n 0) 1 := by decide +kernel
theorem d18_50 : dk C18 50 (.sipush 8232) 3 := by decide +kernel
theorem d18_53 : dk C18 53 (.if_icmp .eq 10) 3 := by decide +kernel
theorem d18_56 : dk C18 56 (.iload_n 0) 1 := by decide +kernel
theorem d18_57 : dk C18 57 (.sipush 8233) 3 := by decide +kernel
theorem d18_60 : dk C18 60 (.if_icmp .ne 7) 3 := by decide +kernel
theorem d18_67 : dk C18 67 (.iconst 0) 1 := by decide +kernel
theorem own_pn40 : plainName "org/interpunct/marc/OneLineOfPinLaw" = true := by first | (simp [plainName, overriddenIn]; done) | decide +kernel
def fn_br (p0 : Int32) : Int32 := (if p0 = (10 : Int32) then (1 : Int32) else (if p0 = (11 : Int32) then (1 : Int32) else (if p0 = (12 : Int32) then (1 : Int32) else (if p0 = (13 : Int32) then (1 : Int32) else (if p0 = (28 : Int32) then (1 : Int32) else (if p0 = (29 : Int32) then (1 : Int32) else (if p0 = (30 : Int32) then (1 : Int32) else (if p0 = (133 : Int32) then (1 : Int32) else (if p0 = (8232 : Int32) then (1 : Int32) else (if p0 = (8233 : Int32) then (1 : Int32) else (0 : Int32)))))))))))
def Q_br (Z : State) (p0 : Int32) (h0 : Heap) (n0 : Nat) (v : Option Value) (h : Heap) (L : List Loc) : Prop := v = some (.int (fn_br p0)) ∧ Fr n0 L ∧ h = h0
theorem rm_br (l : Launch) (Z : State) (a0 : Array Value) (hw : Hw a0 Z) (p0 : Int32) (h0 : Heap) (n0 : Nat) (Z0 : n0 ≤ h0.size) : Mt l (⟨"org/interpunct/marc/OneLineOfPinLaw", "br", "(C)Z"⟩ : MethodName) C18 1 (some .boolean) ({ frames := 0, cells := 0, slots := 0, locals := 0 } : Room) #[(.int p0)] Z h0 (Q_br Z p0 h0 n0) := by
  have w := own_w hw
  refine own_go (L0 := #[vi p0]) n0 (plainFor_of_name own_pn40) (fun m => rfl) fun p e s m below meth c s₁ E0 hx b hml hown hnm hret hlk hZ X0 e0 N0 pre0 => ?_
  have pre2 : Pr p e below s₁ E0 s₁ (mkF m 3 #[vi p0] [(.int (10 : Int32)), (.int p0)]) := fun t k => pre0 t (by
    refine XS.iloadN X0.here hx rfl (b d18_0) rfl ?_
    refine XS.bipush X0.here hx rfl (b d18_1) ?_
    exact k)
  by_cases hc1 : p0 = (10 : Int32)
  · have pre3 : Pr p e below s₁ E0 s₁ (mkF m 68 #[vi p0] [(.int (1 : Int32))]) := fun t k => pre2 t (by
      refine XS.icmpYes X0.here hx rfl (pc0 := 3) (pc' := 63) rfl (b d18_3) rfl (teq hc1).1 (by decide) (by decide) ?_
      refine XS.iconst X0.here hx rfl (b d18_63) ?_
      refine XS.goto X0.here hx rfl (pc0 := 64) (pc' := 68) rfl (b d18_64) (by decide) (by decide) ?_
      exact k)
    exact own_end X0 hlk (v := some (.int (1 : Int32))) (own_hv hret) pre3 (fun fs hr => retN X0 hx (t := .boolean) hret (by simp) (b d18_68) hr) (by rw [e0]; exact ⟨by simp only [fn_br, if_pos hc1], N0, rfl⟩)
  · have pre5 : Pr p e below s₁ E0 s₁ (mkF m 9 #[vi p0] [(.int (11 : Int32)), (.int p0)]) := fun t k => pre2 t (by
      refine XS.icmpNo X0.here hx rfl (b d18_3) rfl (feq hc1).1 ?_
      refine XS.iloadN X0.here hx rfl (b d18_6) rfl ?_
      refine XS.bipush X0.here hx rfl (b d18_7) ?_
      exact k)
    by_cases hc4 : p0 = (11 : Int32)
    · have pre6 : Pr p e below s₁ E0 s₁ (mkF m 68 #[vi p0] [(.int (1 : Int32))]) := fun t k => pre5 t (by
        refine XS.icmpYes X0.here hx rfl (pc0 := 9) (pc' := 63) rfl (b d18_9) rfl (teq hc4).1 (by decide) (by decide) ?_
        refine XS.iconst X0.here hx rfl (b d18_63) ?_
        refine XS.goto X0.here hx rfl (pc0 := 64) (pc' := 68) rfl (b d18_64) (by decide) (by decide) ?_
        exact k)
      exact own_end X0 hlk (v := some (.int (1 : Int32))) (own_hv hret) pre6 (fun fs hr => retN X0 hx (t := .boolean) hret (by simp) (b d18_68) hr) (by rw [e0]; exact ⟨by simp only [fn_br, if_neg hc1, if_pos hc4], N0, rfl⟩)
    · have pre8 : Pr p e below s₁ E0 s₁ (mkF m 15 #[vi p0] [(.int (12 : Int32)), (.int p0)]) := fun t k => pre5 t (by
        refine XS.icmpNo X0.here hx rfl (b d18_9) rfl (feq hc4).1 ?_
        refine XS.iloadN X0.here hx rfl (b d18_12) rfl ?_
        refine XS.bipush X0.here hx rfl (b d18_13) ?_
        exact k)
      by_cases hc7 : p0 = (12 : Int32)
      · have pre9 : Pr p e below s₁ E0 s₁ (mkF m 68 #[vi p0] [(.int (1 : Int32))]) := fun t k => pre8 t (by
          refine XS.icmpYes X0.here hx rfl (pc0 := 15) (pc' := 63) rfl (b d18_15) rfl (teq hc7).1 (by decide) (by decide) ?_
          refine XS.iconst X0.here hx rfl (b d18_63) ?_
          refine XS.goto X0.here hx rfl (pc0 := 64) (pc' := 68) rfl (b d18_64) (by decide) (by decide) ?_
          exact k)
        exact own_end X0 hlk (v := some (.int (1 : Int32))) (own_hv hret) pre9 (fun fs hr => retN X0 hx (t := .boolean) hret (by simp) (b d18_68) hr) (by rw [e0]; exact ⟨by simp only [fn_br, if_neg hc1, if_neg hc4, if_pos hc7], N0, rfl⟩)
      · have pre11 : Pr p e below s₁ E0 s₁ (mkF m 21 #[vi p0] [(.int (13 : Int32)), (.int p0)]) := fun t k => pre8 t (by
          refine XS.icmpNo X0.here hx rfl (b d18_15) rfl (feq hc7).1 ?_
          refine XS.iloadN X0.here hx rfl (b d18_18) rfl ?_
          refine XS.bipush X0.here hx rfl (b d18_19) ?_
          exact k)
        by_cases hc10 : p0 = (13 : Int32)
        · have pre12 : Pr p e below s₁ E0 s₁ (mkF m 68 #[vi p0] [(.int (1 : Int32))]) := fun t k => pre11 t (by
            refine XS.icmpYes X0.here hx rfl (pc0 := 21) (pc' := 63) rfl (b d18_21) rfl (teq hc10).1 (by decide) (by decide) ?_
            refine XS.iconst X0.here hx rfl (b d18_63) ?_
            refine XS.goto X0.here hx rfl (pc0 := 64) (pc' := 68) rfl (b d18_64) (by decide) (by decide) ?_
            exact k)
          exact own_end X0 hlk (v := some (.int (1 : Int32))) (own_hv hret) pre12 (fun fs hr => retN X0 hx (t := .boolean) hret (by simp) (b d18_68) hr) (by rw [e0]; exact ⟨by simp only [fn_br, if_neg hc1, if_neg hc4, if_neg hc7, if_pos hc10], N0, rfl⟩)
        · have pre14 : Pr p e below s₁ E0 s₁ (mkF m 27 #[vi p0] [(.int (28 : Int32)), (.int p0)]) := fun t k => pre11 t (by
            refine XS.icmpNo X0.here hx rfl (b d18_21) rfl (feq hc10).1 ?_
            refine XS.iloadN X0.here hx rfl (b d18_24) rfl ?_
            refine XS.bipush X0.here hx rfl (b d18_25) ?_
            exact k)
          by_cases hc13 : p0 = (28 : Int32)
          · have pre15 : Pr p e below s₁ E0 s₁ (mkF m 68 #[vi p0] [(.int (1 : Int32))]) := fun t k => pre14 t (by
              refine XS.icmpYes X0.here hx rfl (pc0 := 27) (pc' := 63) rfl (b d18_27) rfl (teq hc13).1 (by decide) (by decide) ?_
              refine XS.iconst X0.here hx rfl (b d18_63) ?_
              refine XS.goto X0.here hx rfl (pc0 := 64) (pc' := 68) rfl (b d18_64) (by decide) (by decide) ?_
              exact k)
            exact own_end X0 hlk (v := some (.int (1 : Int32))) (own_hv hret) pre15 (fun fs hr => retN X0 hx (t := .boolean) hret (by simp) (b d18_68) hr) (by rw [e0]; exact ⟨by simp only [fn_br, if_neg hc1, if_neg hc4, if_neg hc7, if_neg hc10, if_pos hc13], N0, rfl⟩)
          · have pre17 : Pr p e below s₁ E0 s₁ (mkF m 33 #[vi p0] [(.int (29 : Int32)), (.int p0)]) := fun t k => pre14 t (by
              refine XS.icmpNo X0.here hx rfl (b d18_27) rfl (feq hc13).1 ?_
              refine XS.iloadN X0.here hx rfl (b d18_30) rfl ?_
              refine XS.bipush X0.here hx rfl (b d18_31) ?_
              exact k)
            by_cases hc16 : p0 = (29 : Int32)
            · have pre18 : Pr p e below s₁ E0 s₁ (mkF m 68 #[vi p0] [(.int (1 : Int32))]) := fun t k => pre17 t (by
                refine XS.icmpYes X0.here hx rfl (pc0 := 33) (pc' := 63) rfl (b d18_33) rfl (teq hc16).1 (by decide) (by decide) ?_
                refine XS.iconst X0.here hx rfl (b d18_63) ?_
                refine XS.goto X0.here hx rfl (pc0 := 64) (pc' := 68) rfl (b d18_64) (by decide) (by decide) ?_
                exact k)
              exact own_end X0 hlk (v := some (.int (1 : Int32))) (own_hv hret) pre18 (fun fs hr => retN X0 hx (t := .boolean) hret (by simp) (b d18_68) hr) (by rw [e0]; exact ⟨by simp only [fn_br, if_neg hc1, if_neg hc4, if_neg hc7, if_neg hc10, if_neg hc13, if_pos hc16], N0, rfl⟩)
            · have pre20 : Pr p e below s₁ E0 s₁ (mkF m 39 #[vi p0] [(.int (30 : Int32)), (.int p0)]) := fun t k => pre17 t (by
                refine XS.icmpNo X0.here hx rfl (b d18_33) rfl (feq hc16).1 ?_
                refine XS.iloadN X0.here hx rfl (b d18_36) rfl ?_
                refine XS.bipush X0.here hx rfl (b d18_37) ?_
                exact k)
              by_cases hc19 : p0 = (30 : Int32)
              · have pre21 : Pr p e below s₁ E0 s₁ (mkF m 68 #[vi p0] [(.int (1 : Int32))]) := fun t k => pre20 t (by
                  refine XS.icmpYes X0.here hx rfl (pc0 := 39) (pc' := 63) rfl (b d18_39) rfl (teq hc19).1 (by decide) (by decide) ?_
                  refine XS.iconst X0.here hx rfl (b d18_63) ?_
                  refine XS.goto X0.here hx rfl (pc0 := 64) (pc' := 68) rfl (b d18_64) (by decide) (by decide) ?_
                  exact k)
                exact own_end X0 hlk (v := some (.int (1 : Int32))) (own_hv hret) pre21 (fun fs hr => retN X0 hx (t := .boolean) hret (by simp) (b d18_68) hr) (by rw [e0]; exact ⟨by simp only [fn_br, if_neg hc1, if_neg hc4, if_neg hc7, if_neg hc10, if_neg hc13, if_neg hc16, if_pos hc19], N0, rfl⟩)
              · have pre23 : Pr p e below s₁ E0 s₁ (mkF m 46 #[vi p0] [(.int (133 : Int32)), (.int p0)]) := fun t k => pre20 t (by
                  refine XS.icmpNo X0.here hx rfl (b d18_39) rfl (feq hc19).1 ?_
                  refine XS.iloadN X0.here hx rfl (b d18_42) rfl ?_
                  refine XS.sipush X0.here hx rfl (b d18_43) ?_
                  exact k)
                by_cases hc22 : p0 = (133 : Int32)
                · have pre24 : Pr p e below s₁ E0 s₁ (mkF m 68 #[vi p0] [(.int (1 : Int32))]) := fun t k => pre23 t (by
                    refine XS.icmpYes X0.here hx rfl (pc0 := 46) (pc' := 63) rfl (b d18_46) rfl (teq hc22).1 (by decide) (by decide) ?_
                    refine XS.iconst X0.here hx rfl (b d18_63) ?_
                    refine XS.goto X0.here hx rfl (pc0 := 64) (pc' := 68) rfl (b d18_64) (by decide) (by decide) ?_
                    exact k)
                  exact own_end X0 hlk (v := some (.int (1 : Int32))) (own_hv hret) pre24 (fun fs hr => retN X0 hx (t := .boolean) hret (by simp) (b d18_68) hr) (by rw [e0]; exact ⟨by simp only [fn_br, if_neg hc1, if_neg hc4, if_neg hc7, if_neg hc10, if_neg hc13, if_neg hc16, if_neg hc19, if_pos hc22], N0, rfl⟩)
                · have pre26 : Pr p e below s₁ E0 s₁ (mkF m 53 #[vi p0] [(.int (8232 : Int32)), (.int p0)]) := fun t k => pre23 t (by
                    refine XS.icmpNo X0.here hx rfl (b d18_46) rfl (feq hc22).1 ?_
                    refine XS.iloadN X0.here hx rfl (b d18_49) rfl ?_
                    refine XS.sipush X0.here hx rfl (b d18_50) ?_
                    exact k)
                  by_cases hc25 : p0 = (8232 : Int32)
                  · have pre27 : Pr p e below s₁ E0 s₁ (mkF m 68 #[vi p0] [(.int (1 : Int32))]) := fun t k => pre26 t (by
                      refine XS.icmpYes X0.here hx rfl (pc0 := 53) (pc' := 63) rfl (b d18_53) rfl (teq hc25).1 (by decide) (by decide) ?_
                      refine XS.iconst X0.here hx rfl (b d18_63) ?_
                      refine XS.goto X0.here hx rfl (pc0 := 64) (pc' := 68) rfl (b d18_64) (by decide) (by decide) ?_
                      exact k)
                    exact own_end X0 hlk (v := some (.int (1 : Int32))) (own_hv hret) pre27 (fun fs hr => retN X0 hx (t := .boolean) hret (by simp) (b d18_68) hr) (by rw [e0]; exact ⟨by simp only [fn_br, if_neg hc1, if_neg hc4, if_neg hc7, if_neg hc10, if_neg hc13, if_neg hc16, if_neg hc19, if_neg hc22, if_pos hc25], N0, rfl⟩)
                  · have pre29 : Pr p e below s₁ E0 s₁ (mkF m 60 #[vi p0] [(.int (8233 : Int32)), (.int p0)]) := fun t k => pre26 t (by
                      refine XS.icmpNo X0.here hx rfl (b d18_53) rfl (feq hc25).1 ?_
                      refine XS.iloadN X0.here hx rfl (b d18_56) rfl ?_
                      refine XS.sipush X0.here hx rfl (b d18_57) ?_
                      exact k)
                    by_cases hc28 : p0 = (8233 : Int32)
                    · have pre30 : Pr p e below s₁ E0 s₁ (mkF m 68 #[vi p0] [(.int (1 : Int32))]) := fun t k => pre29 t (by
                        refine XS.icmpNo X0.here hx rfl (b d18_60) rfl (teq hc28).2 ?_
                        refine XS.iconst X0.here hx rfl (b d18_63) ?_
                        refine XS.goto X0.here hx rfl (pc0 := 64) (pc' := 68) rfl (b d18_64) (by decide) (by decide) ?_
                        exact k)
                      exact own_end X0 hlk (v := some (.int (1 : Int32))) (own_hv hret) pre30 (fun fs hr => retN X0 hx (t := .boolean) hret (by simp) (b d18_68) hr) (by rw [e0]; exact ⟨by simp only [fn_br, if_neg hc1, if_neg hc4, if_neg hc7, if_neg hc10, if_neg hc13, if_neg hc16, if_neg hc19, if_neg hc22, if_neg hc25, if_pos hc28], N0, rfl⟩)
                    · have pre31 : Pr p e below s₁ E0 s₁ (mkF m 68 #[vi p0] [(.int (0 : Int32))]) := fun t k => pre29 t (by
                        refine XS.icmpYes X0.here hx rfl (pc0 := 60) (pc' := 67) rfl (b d18_60) rfl (feq hc28).2 (by decide) (by decide) ?_
                        refine XS.iconst X0.here hx rfl (b d18_67) ?_
                        exact k)
                      exact own_end X0 hlk (v := some (.int (0 : Int32))) (own_hv hret) pre31 (fun fs hr => retN X0 hx (t := .boolean) hret (by simp) (b d18_68) hr) (by rw [e0]; exact ⟨by simp only [fn_br, if_neg hc1, if_neg hc4, if_neg hc7, if_neg hc10, if_neg hc13, if_neg hc16, if_neg hc19, if_neg hc22, if_neg hc25, if_neg hc28], N0, rfl⟩)
theorem own_brlb (c : Int32) : fn_br c = fn_lb c := rfl
def own_br (c : Int32) : Bool := !(decide (fn_lb c = (0 : Int32)))
def own_sp (c : Int32) : Bool := decide (c = (32 : Int32))
def own_ws (c : Int32) : Bool := own_sp c || own_br c
theorem own_Bt {b : Bool} (h : ¬ own_B b = (0 : Int32)) : b = true := by cases b; exact absurd rfl h; rfl
theorem own_Bf {b : Bool} (h : own_B b = (0 : Int32)) : b = false := by cases b; rfl; exact absurd h (by decide)
theorem own_bt {c : Int32} (h : ¬ fn_br c = (0 : Int32)) : own_br c = true := by rw [own_brlb] at h; simp [own_br, h]
theorem own_bf {c : Int32} (h : fn_br c = (0 : Int32)) : own_br c = false := by rw [own_brlb] at h; simp [own_br, h]
theorem own_lt {c : Int32} (h : ¬ fn_lb c = (0 : Int32)) : own_br c = true := by simp [own_br, h]
theorem own_lf {c : Int32} (h : fn_lb c = (0 : Int32)) : own_br c = false := by simp [own_br, h]
theorem own_spt {c : Int32} (h : c = (32 : Int32)) : own_sp c = true := by simp [own_sp, h]
theorem own_spf {c : Int32} (h : ¬ c = (32 : Int32)) : own_sp c = false := by simp [own_sp, h]
theorem own_w1 {c : Int32} (h : c = (32 : Int32)) : own_ws c = true := by simp [own_ws, own_spt h]
theorem own_w2 {c : Int32} (h : ¬ fn_lb c = (0 : Int32)) : own_ws c = true := by simp [own_ws, own_lt h]
theorem own_w3 {c : Int32} (h : ¬ c = (32 : Int32)) (q : fn_lb c = (0 : Int32)) : own_ws c = false := by simp [own_ws, own_spf h, own_lf q]
theorem own_c32 : Chr (32 : Int32) := by unfold Chr; decide
section
variable {α : Type}
def own_strip (sp : α → Bool) (ob : List α) : List α := (ob.reverse.dropWhile sp).reverse
def own_run (br sp : α → Bool) (s : α) : Nat → List α → List α → List α
  | 0, _, ob => ob
  | _ + 1, [], ob => ob
  | k + 1, c :: r, ob => if br c then own_run br sp s k (r.dropWhile fun x => sp x || br x) (own_strip sp ob ++ [s]) else own_run br sp s k r (ob ++ [c])
theorem own_run_cons (br sp : α → Bool) (s : α) (k : Nat) (c : α) (r ob : List α) : own_run br sp s (k + 1) (c :: r) ob = if br c then own_run br sp s k (r.dropWhile fun x => sp x || br x) (own_strip sp ob ++ [s]) else own_run br sp s k r (ob ++ [c]) := rfl
def own_put (s : α) (ou : List α) (bi bp : Bool) (c : α) : List α := if bi then (if bp then ou else ou ++ [s]) else ou ++ [c]
def own_law (br sp : α → Bool) (s : α) (n : Nat) (c0 c1 c2 c3 c4 : α) : List α :=
  let w0 := decide (0 < n) && (sp c0 || br c0)
  let w1 := decide (1 < n) && (sp c1 || br c1)
  let w2 := decide (2 < n) && (sp c2 || br c2)
  let w3 := decide (3 < n) && (sp c3 || br c3)
  let w4 := decide (4 < n) && (sp c4 || br c4)
  let b0 := decide (0 < n) && br c0
  let b1 := decide (1 < n) && br c1
  let b2 := decide (2 < n) && br c2
  let b3 := decide (3 < n) && br c3
  let b4 := decide (4 < n) && br c4
  let l1 := b1 || (w1 && b0)
  let l2 := b2 || (w2 && l1)
  let l3 := b3 || (w3 && l2)
  let l4 := b4 || (w4 && l3)
  let r3 := b3 || (w3 && b4)
  let r2 := b2 || (w2 && r3)
  let r1 := b1 || (w1 && r2)
  let r0 := b0 || (w0 && r1)
  let i0 := b0 || r0
  let i1 := l1 || r1
  let i2 := l2 || r2
  let i3 := l3 || r3
  let i4 := l4 || b4
  let o1 := if 0 < n then own_put s [] i0 false c0 else []
  let o2 := if 1 < n then own_put s o1 i1 i0 c1 else o1
  let o3 := if 2 < n then own_put s o2 i2 i1 c2 else o2
  let o4 := if 3 < n then own_put s o3 i3 i2 c3 else o3
  if 4 < n then own_put s o4 i4 i3 c4 else o4
theorem own_dwm {β : Type} (φ : α → β) (p : β → Bool) : ∀ l : List α, (l.map φ).dropWhile p = (l.dropWhile fun x => p (φ x)).map φ
  | [] => rfl
  | a :: r => by
    rw [List.map_cons, List.dropWhile_cons, List.dropWhile_cons]
    by_cases h : p (φ a) = true
    · rw [if_pos h, if_pos h]; exact own_dwm φ p r
    · rw [if_neg h, if_neg h]; rfl
theorem own_stm {β : Type} (φ : α → β) (sp : β → Bool) (ob : List α) : own_strip sp (ob.map φ) = (own_strip (fun x => sp (φ x)) ob).map φ := by
  unfold own_strip
  rw [← List.map_reverse, own_dwm, ← List.map_reverse]
theorem own_run_map {β : Type} (φ : α → β) (br sp : β → Bool) (s : α) : ∀ (k : Nat) (li ob : List α), own_run br sp (φ s) k (li.map φ) (ob.map φ) = (own_run (fun x => br (φ x)) (fun x => sp (φ x)) s k li ob).map φ
  | 0, _, _ => rfl
  | _ + 1, [], _ => rfl
  | k + 1, c :: r, ob => by
    rw [List.map_cons, own_run_cons, own_run_cons]
    by_cases h : br (φ c) = true
    · rw [if_pos h, if_pos h, ← own_run_map φ br sp s k, own_dwm, own_stm, List.map_append]; rfl
    · rw [if_neg h, if_neg h, ← own_run_map φ br sp s k, List.map_append]; rfl
theorem own_put_map {β : Type} (φ : α → β) (s : α) (ou : List α) (bi bp : Bool) (c : α) : (own_put s ou bi bp c).map φ = own_put (φ s) (ou.map φ) bi bp (φ c) := by
  cases bi <;> cases bp <;> simp [own_put]
theorem own_law_map {β : Type} (φ : α → β) (br sp : β → Bool) (s : α) (n : Nat) (c0 c1 c2 c3 c4 : α) : own_law br sp (φ s) n (φ c0) (φ c1) (φ c2) (φ c3) (φ c4) = (own_law (fun x => br (φ x)) (fun x => sp (φ x)) s n c0 c1 c2 c3 c4).map φ := by
  simp only [own_law, apply_ite (List.map φ), own_put_map, List.map_nil]
end
def own_fT (b0 b1 b2 b3 b4 d : Bool) : Nat → Bool
  | 0 => b0
  | 1 => b1
  | 2 => b2
  | 3 => b3
  | 4 => b4
  | _ => d
def own_phi (c0 c1 c2 c3 c4 : Int32) : Nat → Int32
  | 0 => c0
  | 1 => c1
  | 2 => c2
  | 3 => c3
  | 4 => c4
  | _ => 32
theorem own_fphi (g : Int32 → Bool) (c0 c1 c2 c3 c4 : Int32) : (fun x => g (own_phi c0 c1 c2 c3 c4 x)) = own_fT (g c0) (g c1) (g c2) (g c3) (g c4) (g 32) := by
  funext x
  match x with
  | 0 => rfl
  | 1 => rfl
  | 2 => rfl
  | 3 => rfl
  | 4 => rfl
  | _ + 5 => rfl
def own_chk (n : Nat) (b0 b1 b2 b3 b4 s0 s1 s2 s3 s4 : Bool) : Bool := own_run (own_fT b0 b1 b2 b3 b4 false) (own_fT s0 s1 s2 s3 s4 true) 5 (([0, 1, 2, 3, 4] : List Nat).take n).length (([0, 1, 2, 3, 4] : List Nat).take n) [] == own_law (own_fT b0 b1 b2 b3 b4 false) (own_fT s0 s1 s2 s3 s4 true) 5 n 0 1 2 3 4
def own_all (p : Bool → Bool) : Bool := p false && p true
theorem own_allE {p : Bool → Bool} (h : own_all p = true) (b : Bool) : p b = true := by
  simp only [own_all, Bool.and_eq_true] at h
  cases b
  · exact h.1
  · exact h.2
theorem own_dec0 : own_all (fun b0 => own_all fun b1 => own_all fun b2 => own_all fun b3 => own_all fun b4 => own_all fun s0 => own_all fun s1 => own_all fun s2 => own_all fun s3 => own_all fun s4 => own_chk 0 b0 b1 b2 b3 b4 s0 s1 s2 s3 s4) = true := by decide +kernel
theorem own_dec1 : own_all (fun b0 => own_all fun b1 => own_all fun b2 => own_all fun b3 => own_all fun b4 => own_all fun s0 => own_all fun s1 => own_all fun s2 => own_all fun s3 => own_all fun s4 => own_chk 1 b0 b1 b2 b3 b4 s0 s1 s2 s3 s4) = true := by decide +kernel
theorem own_dec2 : own_all (fun b0 => own_all fun b1 => own_all fun b2 => own_all fun b3 => own_all fun b4 => own_all fun s0 => own_all fun s1 => own_all fun s2 => own_all fun s3 => own_all fun s4 => own_chk 2 b0 b1 b2 b3 b4 s0 s1 s2 s3 s4) = true := by decide +kernel
theorem own_dec3 : own_all (fun b0 => own_all fun b1 => own_all fun b2 => own_all fun b3 => own_all fun b4 => own_all fun s0 => own_all fun s1 => own_all fun s2 => own_all fun s3 => own_all fun s4 => own_chk 3 b0 b1 b2 b3 b4 s0 s1 s2 s3 s4) = true := by decide +kernel
theorem own_dec4 : own_all (fun b0 => own_all fun b1 => own_all fun b2 => own_all fun b3 => own_all fun b4 => own_all fun s0 => own_all fun s1 => own_all fun s2 => own_all fun s3 => own_all fun s4 => own_chk 4 b0 b1 b2 b3 b4 s0 s1 s2 s3 s4) = true := by decide +kernel
theorem own_dec5 : own_all (fun b0 => own_all fun b1 => own_all fun b2 => own_all fun b3 => own_all fun b4 => own_all fun s0 => own_all fun s1 => own_all fun s2 => own_all fun s3 => own_all fun s4 => own_chk 5 b0 b1 b2 b3 b4 s0 s1 s2 s3 s4) = true := by decide +kernel
theorem own_decE {p : Bool → Bool → Bool → Bool → Bool → Bool → Bool → Bool → Bool → Bool → Bool} (h : own_all (fun b0 => own_all fun b1 => own_all fun b2 => own_all fun b3 => own_all fun b4 => own_all fun s0 => own_all fun s1 => own_all fun s2 => own_all fun s3 => own_all fun s4 => p b0 b1 b2 b3 b4 s0 s1 s2 s3 s4) = true) (b0 b1 b2 b3 b4 s0 s1 s2 s3 s4 : Bool) : p b0 b1 b2 b3 b4 s0 s1 s2 s3 s4 = true :=
  own_allE (own_allE (own_allE (own_allE (own_allE (own_allE (own_allE (own_allE (own_allE (own_allE h b0) b1) b2) b3) b4) s0) s1) s2) s3) s4
theorem own_decN {n : Nat} (hn : n < 6) (b0 b1 b2 b3 b4 s0 s1 s2 s3 s4 : Bool) : own_chk n b0 b1 b2 b3 b4 s0 s1 s2 s3 s4 = true := by
  have q : n = 0 ∨ n = 1 ∨ n = 2 ∨ n = 3 ∨ n = 4 ∨ n = 5 := by omega
  rcases q with rfl | rfl | rfl | rfl | rfl | rfl
  · exact own_decE own_dec0 b0 b1 b2 b3 b4 s0 s1 s2 s3 s4
  · exact own_decE own_dec1 b0 b1 b2 b3 b4 s0 s1 s2 s3 s4
  · exact own_decE own_dec2 b0 b1 b2 b3 b4 s0 s1 s2 s3 s4
  · exact own_decE own_dec3 b0 b1 b2 b3 b4 s0 s1 s2 s3 s4
  · exact own_decE own_dec4 b0 b1 b2 b3 b4 s0 s1 s2 s3 s4
  · exact own_decE own_dec5 b0 b1 b2 b3 b4 s0 s1 s2 s3 s4
def own_mk (n : Nat) (c0 c1 c2 c3 c4 : Int32) : List Int32 := [c0, c1, c2, c3, c4].take n
def own_of (li : List Int32) : List Int32 := own_run own_br own_sp (32 : Int32) li.length li []
theorem own_plain {n : Nat} (hn : n < 6) (c0 c1 c2 c3 c4 : Int32) : own_of (own_mk n c0 c1 c2 c3 c4) = own_law own_br own_sp (32 : Int32) n c0 c1 c2 c3 c4 := by
  have e : own_mk n c0 c1 c2 c3 c4 = (([0, 1, 2, 3, 4] : List Nat).take n).map (own_phi c0 c1 c2 c3 c4) := by rw [List.map_take]; rfl
  have h1 := own_run_map (own_phi c0 c1 c2 c3 c4) own_br own_sp 5 (([0, 1, 2, 3, 4] : List Nat).take n).length (([0, 1, 2, 3, 4] : List Nat).take n) []
  have h2 := own_law_map (own_phi c0 c1 c2 c3 c4) own_br own_sp 5 n 0 1 2 3 4
  rw [own_fphi, own_fphi] at h1 h2
  have h3 := eq_of_beq (own_decN hn (own_br c0) (own_br c1) (own_br c2) (own_br c3) (own_br c4) (own_sp c0) (own_sp c1) (own_sp c2) (own_sp c3) (own_sp c4))
  have b32 : own_br 32 = false := by decide
  have s32 : own_sp 32 = true := by decide
  rw [b32, s32, h3] at h1
  rw [b32, s32] at h2
  unfold own_of
  rw [e, List.length_map]
  exact h1.trans h2.symm
theorem own_dr : ∀ {li : List Int32} {i : Nat}, i < li.length → li.drop i = li.getD i 0 :: li.drop (i + 1)
  | [], _, h => absurd h (Nat.not_lt_zero _)
  | _ :: _, 0, _ => rfl
  | _ :: r, i + 1, h => own_dr (li := r) (i := i) (Nat.lt_of_succ_lt_succ h)
theorem own_tk : ∀ {li : List Int32} {i : Nat}, i < li.length → li.take (i + 1) = li.take i ++ [li.getD i 0]
  | [], _, h => absurd h (Nat.not_lt_zero _)
  | _ :: _, 0, _ => rfl
  | a :: r, i + 1, h => congrArg (List.cons a) (own_tk (li := r) (i := i) (Nat.lt_of_succ_lt_succ h))
section
variable {li ob ob2 R : List Int32} {i i2 fu : Nat}
theorem own_rN (h : i < li.length) (hf : li.length - i ≤ fu) (hb : fn_lb (li.getD i 0) = (0 : Int32)) (hR : own_run own_br own_sp (32 : Int32) fu (li.drop i) ob = R) : own_run own_br own_sp (32 : Int32) (fu - 1) (li.drop (i + 1)) (ob ++ [li.getD i 0]) = R := by
  obtain ⟨k, rfl⟩ : ∃ k, fu = k + 1 := ⟨fu - 1, by omega⟩
  rw [own_dr h, own_run_cons, own_lf hb] at hR
  exact hR
theorem own_rA (h : i < li.length) (hb : fn_lb (li.getD i 0) = (0 : Int32)) (hR : own_run own_br own_sp (32 : Int32) (li.length - i) (li.drop i) (li.take i) = R) : own_run own_br own_sp (32 : Int32) (li.length - (i + 1)) (li.drop (i + 1)) (li.take (i + 1)) = R := by
  rw [own_tk h, show li.length - (i + 1) = li.length - i - 1 by omega]
  exact own_rN h (Nat.le_refl _) hb hR
theorem own_rE (h : ¬ i < li.length) (hR : own_run own_br own_sp (32 : Int32) fu (li.drop i) ob = R) : ob = R := by
  rw [List.drop_eq_nil_of_le (by omega)] at hR
  cases fu with
  | zero => exact hR
  | succ k => exact hR
theorem own_rF (h : i = li.length) (hR : own_run own_br own_sp (32 : Int32) (li.length - i) (li.drop i) (li.take i) = R) : li = R := by
  have q := own_rE (by omega) hR
  rw [h, List.take_length] at q
  exact q
theorem own_rB (h : i < li.length) (hf : li.length - i ≤ fu) (hb : ¬ fn_lb (li.getD i 0) = (0 : Int32)) (hR : own_run own_br own_sp (32 : Int32) fu (li.drop i) ob = R) (hD : (li.drop i).dropWhile own_ws = li.drop i2) (hS : own_strip own_sp ob = ob2) : own_run own_br own_sp (32 : Int32) (fu - 1) (li.drop i2) (ob2 ++ [(32 : Int32)]) = R := by
  obtain ⟨k, rfl⟩ : ∃ k, fu = k + 1 := ⟨fu - 1, by omega⟩
  rw [own_dr h, own_run_cons, own_lt hb, if_pos rfl, hS] at hR
  rw [own_dr h, List.dropWhile_cons, if_pos (own_w2 hb)] at hD
  rw [← hD]
  exact hR
theorem own_str1 (x : List Int32) : own_strip own_sp (x ++ [(32 : Int32)]) = own_strip own_sp x := by simp [own_strip, own_sp]
theorem own_str2 (x : List Int32) {c : Int32} (h : ¬ c = (32 : Int32)) : own_strip own_sp (x ++ [c]) = x ++ [c] := by simp [own_strip, own_sp, h]
theorem own_la (h0 : 0 < ob.length) : ob = ob.take (ob.length - 1) ++ [ob.getD (ob.length - 1) 0] := by
  have q := own_tk (li := ob) (i := ob.length - 1) (by omega)
  rw [show ob.length - 1 + 1 = ob.length by omega, List.take_length] at q
  exact q
theorem own_sT (h0 : 0 < ob.length) (h : ob.getD (ob.length - 1) 0 = (32 : Int32)) : own_strip own_sp (ob.take (ob.length - 1)) = own_strip own_sp ob := by
  have e := own_la h0
  rw [h] at e
  exact (own_str1 _).symm.trans (congrArg (own_strip own_sp) e.symm)
theorem own_sN (h0 : 0 < ob.length) (h : ¬ ob.getD (ob.length - 1) 0 = (32 : Int32)) : own_strip own_sp ob = ob := by
  have e := own_la h0
  exact (congrArg (own_strip own_sp) e).trans ((own_str2 _ h).trans e.symm)
theorem own_sE (h0 : ¬ 0 < ob.length) : own_strip own_sp ob = ob := by
  cases ob with
  | nil => rfl
  | cons a r => exact absurd (Nat.succ_pos _) h0
theorem own_dwT (h : i < li.length) (hp : own_ws (li.getD i 0) = true) : (li.drop (i + 1)).dropWhile own_ws = (li.drop i).dropWhile own_ws := by
  rw [own_dr h, List.dropWhile_cons, if_pos hp]
theorem own_dwN (h : i < li.length) (hp : own_ws (li.getD i 0) = false) : (li.drop i).dropWhile own_ws = li.drop i := by
  rw [own_dr h, List.dropWhile_cons, if_neg (by rw [hp]; decide)]
theorem own_dw0 (h : ¬ i < li.length) : (li.drop i).dropWhile own_ws = li.drop i := by
  rw [List.drop_eq_nil_of_le (by omega)]; rfl
end
section
variable {ou : List Int32} {bi bp : Bool} {c : Int32} {f : Nat → Int32}
theorem own_putF (h : bi = false) : own_put (32 : Int32) ou bi bp c = ou ++ [c] := by subst h; rfl
theorem own_putS (h : bi = true) (q : bp = false) : own_put (32 : Int32) ou bi bp c = ou ++ [(32 : Int32)] := by subst h q; rfl
theorem own_putN (h : bi = true) (q : bp = true) : own_put (32 : Int32) ou bi bp c = ou := by subst h q; rfl
end
theorem own_ch (x : Int32) : ∃ j, j < 10 ∧ (((x.toUInt32 >>> ((2 : Int32) &&& 31).toUInt32).toInt32) % (10 : Int32)) = Int32.ofNat j := by
  have h1 := c_iushr x 2 2 (by decide) (by decide)
  have e : (10 : Int32).toInt = 10 := by decide
  have h3 := c_irem ((x.toUInt32 >>> ((2 : Int32) &&& 31).toUInt32).toInt32) 10 10 e
  have h4 := rng32 x
  refine ⟨((((x.toUInt32 >>> ((2 : Int32) &&& 31).toUInt32).toInt32) % (10 : Int32)).toInt).toNat, ?_, ?_⟩
  · omega
  · rw [← Int32.toInt_inj, own_ti (by omega)]; omega
theorem own_n6 (x : Int32) : ∃ j, j < 6 ∧ ((x &&& (2147483647 : Int32)) % (6 : Int32)) = Int32.ofNat j := by
  have h1 := c_and x 2147483647 (by decide)
  have e : (6 : Int32).toInt = 6 := by decide
  have h3 := c_irem (x &&& (2147483647 : Int32)) 6 6 e
  refine ⟨(((x &&& (2147483647 : Int32)) % (6 : Int32)).toInt).toNat, ?_, ?_⟩
  · omega
  · rw [← Int32.toInt_inj, own_ti (by omega)]; omega
abbrev C1 := method_3_code
theorem d1_0 : dk C1 0 (.iload_n 0) 1 := by decide +kernel
theorem d1_1 : dk C1 1 (.iconst 3) 1 := by decide +kernel
theorem d1_2 : dk C1 2 .iand 1 := by decide +kernel
theorem d1_3 : dk C1 3 (.istore_n 1) 1 := by decide +kernel
theorem d1_4 : dk C1 4 (.iload_n 0) 1 := by decide +kernel
theorem d1_5 : dk C1 5 (.iconst 2) 1 := by decide +kernel
theorem d1_6 : dk C1 6 .iushr 1 := by decide +kernel
theorem d1_7 : dk C1 7 (.istore_n 2) 1 := by decide +kernel
theorem d1_8 : dk C1 8 (.iload_n 1) 1 := by decide +kernel
theorem d1_9 : dk C1 9 (.ifCond .ne 6) 3 := by decide +kernel
theorem d1_12 : dk C1 12 (.bipush 32) 2 := by decide +kernel
theorem d1_14 : dk C1 14 .ireturn 1 := by decide +kernel
theorem d1_15 : dk C1 15 (.iload_n 1) 1 := by decide +kernel
theorem d1_16 : dk C1 16 (.iconst 1) 1 := by decide +kernel
theorem d1_17 : dk C1 17 (.if_icmp .ne 72) 3 := by decide +kernel
theorem d1_20 : dk C1 20 (.bipush 10) 2 := by decide +kernel
theorem d1_22 : dk C1 22 (.newarray .char) 2 := by decide +kernel
theorem d1_24 : dk C1 24 .dup 1 := by decide +kernel
theorem d1_25 : dk C1 25 (.iconst 0) 1 := by decide +kernel
theorem d1_26 : dk C1 26 (.bipush 10) 2 := by decide +kernel
theorem d1_28 : dk C1 28 .castore 1 := by decide +kernel
theorem d1_29 : dk C1 29 .dup 1 := by decide +kernel
theorem d1_30 : dk C1 30 (.iconst 1) 1 := by decide +kernel
theorem d1_31 : dk C1 31 (.bipush 11) 2 := by decide +kernel
theorem d1_33 : dk C1 33 .castore 1 := by decide +kernel
theorem d1_34 : dk C1 34 .dup 1 := by decide +kernel
theorem d1_35 : dk C1 35 (.iconst 2) 1 := by decide +kernel
theorem d1_36 : dk C1 36 (.bipush 12) 2 := by decide +kernel
theorem d1_38 : dk C1 38 .castore 1 := by decide +kernel
theorem d1_39 : dk C1 39 .dup 1 := by decide +kernel
theorem d1_40 : dk C1 40 (.iconst 3) 1 := by decide +kernel
theorem d1_41 : dk C1 41 (.bipush 13) 2 := by decide +kernel
theorem d1_43 : dk C1 43 .castore 1 := by decide +kernel
theorem d1_44 : dk C1 44 .dup 1 := by decide +kernel
theorem d1_45 : dk C1 45 (.iconst 4) 1 := by decide +kernel
theorem d1_46 : dk C1 46 (.bipush 28) 2 := by decide +kernel
theorem d1_48 : dk C1 48 .castore 1 := by decide +kernel
theorem d1_49 : dk C1 49 .dup 1 := by decide +kernel
theorem d1_50 : dk C1 50 (.iconst 5) 1 := by decide +kernel
theorem d1_51 : dk C1 51 (.bipush 29) 2 := by decide +kernel
theorem d1_53 : dk C1 53 .castore 1 := by decide +kernel
theorem d1_54 : dk C1 54 .dup 1 := by decide +kernel
theorem d1_55 : dk C1 55 (.bipush 6) 2 := by decide +kernel
theorem d1_57 : dk C1 57 (.bipush 30) 2 := by decide +kernel
theorem d1_59 : dk C1 59 .castore 1 := by decide +kernel
theorem d1_60 : dk C1 60 .dup 1 := by decide +kernel
theorem d1_61 : dk C1 61 (.bipush 7) 2 := by decide +kernel
theorem d1_63 : dk C1 63 (.sipush 133) 3 := by decide +kernel
theorem d1_66 : dk C1 66 .castore 1 := by decide +kernel
theorem d1_67 : dk C1 67 .dup 1 := by decide +kernel
theorem d1_68 : dk C1 68 (.bipush 8) 2 := by decide +kernel
theorem d1_70 : dk C1 70 (.sipush 8232) 3 := by decide +kernel
theorem d1_73 : dk C1 73 .castore 1 := by decide +kernel
theorem d1_74 : dk C1 74 .dup 1 := by decide +kernel
theorem d1_75 : dk C1 75 (.bipush 9) 2 := by decide +kernel
theorem d1_77 : dk C1 77 (.sipush 8233) 3 := by decide +kernel
theorem d1_80 : dk C1 80 .castore 1 := by decide +kernel
theorem d1_81 : dk C1 81 (.astore_n 3) 1 := by decide +kernel
theorem d1_82 : dk C1 82 (.aload_n 3) 1 := by decide +kernel
theorem d1_83 : dk C1 83 (.iload_n 2) 1 := by decide +kernel
theorem d1_84 : dk C1 84 (.bipush 10) 2 := by decide +kernel
theorem d1_86 : dk C1 86 .irem 1 := by decide +kernel
theorem d1_87 : dk C1 87 .caload 1 := by decide +kernel
theorem d1_88 : dk C1 88 .ireturn 1 := by decide +kernel
theorem d1_89 : dk C1 89 (.iload_n 1) 1 := by decide +kernel
theorem d1_90 : dk C1 90 (.iconst 2) 1 := by decide +kernel
theorem d1_91 : dk C1 91 (.if_icmp .ne 6) 3 := by decide +kernel
theorem d1_94 : dk C1 94 (.iload_n 2) 1 := by decide +kernel
theorem d1_95 : dk C1 95 .i2c 1 := by decide +kernel
theorem d1_96 : dk C1 96 .ireturn 1 := by decide +kernel
theorem d1_97 : dk C1 97 (.iload_n 2) 1 := by decide +kernel
theorem d1_98 : dk C1 98 (.sipush 255) 3 := by decide +kernel
theorem d1_101 : dk C1 101 .iand 1 := by decide +kernel
theorem d1_102 : dk C1 102 .i2c 1 := by decide +kernel
theorem d1_103 : dk C1 103 .ireturn 1 := by decide +kernel
def Q_ch (Z : State) (p0 : Int32) (h0 : Heap) (n0 : Nat) (v : Option Value) (h : Heap) (L : List Loc) : Prop := ∃ c, v = some (.int c) ∧ Fr n0 L ∧ Keep h0 h [] ∧ Chr c
theorem rm_ch (l : Launch) (Z : State) (a0 : Array Value) (hw : Hw a0 Z) (p0 : Int32) (h0 : Heap) (n0 : Nat) (Z0 : n0 ≤ h0.size) : Mt l (⟨"org/interpunct/marc/OneLineOfPinLaw", "ch", "(I)C"⟩ : MethodName) C1 4 (some .char) ({ frames := 0, cells := 1, slots := 10, locals := 0 } : Room) #[(.int p0)] Z h0 (Q_ch Z p0 h0 n0) := by
  have w := own_w hw
  refine own_go (L0 := #[vi p0, vu, vu, vu]) n0 (plainFor_of_name own_pn40) (fun m => rfl) fun p e s m below meth c s₁ E0 hx b hml hown hnm hret hlk hZ X0 e0 N0 pre0 => ?_
  have K0 : Keep h0 h0 [] := Keep.refl h0 _
  have pre2 : Pr p e below s₁ E0 s₁ (mkF m 9 #[vi p0, vi (p0 &&& (3 : Int32)), vi ((p0.toUInt32 >>> ((2 : Int32) &&& 31).toUInt32).toInt32), vu] [(.int (p0 &&& (3 : Int32)))]) := fun t k => pre0 t (by
    refine XS.iloadN X0.here hx rfl (b d1_0) rfl ?_
    refine XS.iconst X0.here hx rfl (b d1_1) ?_
    refine XS.iand X0.here hx rfl (b d1_2) rfl ?_
    refine XS.istoreN X0.here hx rfl (b d1_3) rfl (l' := #[vi p0, vi (p0 &&& (3 : Int32)), vu, vu]) rfl ?_
    refine XS.iloadN X0.here hx rfl (b d1_4) rfl ?_
    refine XS.iconst X0.here hx rfl (b d1_5) ?_
    refine XS.iushr X0.here hx rfl (b d1_6) rfl ?_
    refine XS.istoreN X0.here hx rfl (b d1_7) rfl (l' := #[vi p0, vi (p0 &&& (3 : Int32)), vi ((p0.toUInt32 >>> ((2 : Int32) &&& 31).toUInt32).toInt32), vu]) rfl ?_
    refine XS.iloadN X0.here hx rfl (b d1_8) rfl ?_
    exact k)
  by_cases hc1 : (p0 &&& (3 : Int32)) = (0 : Int32)
  · have pre3 : Pr p e below s₁ E0 s₁ (mkF m 14 #[vi p0, vi (p0 &&& (3 : Int32)), vi ((p0.toUInt32 >>> ((2 : Int32) &&& 31).toUInt32).toInt32), vu] [(.int (32 : Int32))]) := fun t k => pre2 t (by
      refine XS.ifNo X0.here hx rfl (b d1_9) rfl ((if0 _ _).trans (teq hc1).2) ?_
      refine XS.bipush X0.here hx rfl (b d1_12) ?_
      exact k)
    exact own_end X0 hlk (v := some (.int (32 : Int32))) (own_hv hret) pre3 (fun fs hr => retN X0 hx (t := .char) hret (by simp) (b d1_14) hr) (by rw [e0]; exact ⟨_, rfl, N0, K0, own_c32⟩)
  · have pre5 : Pr p e below s₁ E0 s₁ (mkF m 17 #[vi p0, vi (p0 &&& (3 : Int32)), vi ((p0.toUInt32 >>> ((2 : Int32) &&& 31).toUInt32).toInt32), vu] [(.int (1 : Int32)), (.int (p0 &&& (3 : Int32)))]) := fun t k => pre2 t (by
      refine XS.ifYes X0.here hx rfl (pc0 := 9) (pc' := 15) rfl (b d1_9) rfl ((if0 _ _).trans (feq hc1).2) (by decide) (by decide) ?_
      refine XS.iloadN X0.here hx rfl (b d1_15) rfl ?_
      refine XS.iconst X0.here hx rfl (b d1_16) ?_
      exact k)
    by_cases hc4 : (p0 &&& (3 : Int32)) = (1 : Int32)
    · obtain ⟨T6, h6, k6, X6, e6, E6, A6, Ex6, st6⟩ := newPE X0 hx hZ (w 5 rfl) e0 (g := (mkF m 22 #[vi p0, vi (p0 &&& (3 : Int32)), vi ((p0.toUInt32 >>> ((2 : Int32) &&& 31).toUInt32).toInt32), vu] [(.int (10 : Int32))])) rfl (b d1_22) (n := (Int32.ofNat 10)) rfl (own_nn (by omega)) (cap := 10) (by rw [own_nc (by omega)]; omega) (by decide) (by decide) (by decide) (ad := "[C") (by decide)
      obtain ⟨b6, g6⟩ : ∃ z, z = h0.size := ⟨_, rfl⟩
      rw [← g6] at A6 Ex6 st6
      have g_b6 : n0 ≤ b6 := Nat.le_trans Z0 (Nat.le_of_eq g6.symm)
      have sz_b6 : h0.size ≤ b6 := Nat.le_trans K0.1 (Nat.le_of_eq g6.symm)
      have Z6 : n0 ≤ h6.size := Nat.le_trans Z0 E6.1
      have K6 := K0.ext E6
      have Y6 : Ay Z h6 b6 .char 10 (fun _ => 0) := Ay.new (by omega) A6 rfl
      obtain ⟨qn9, cl9, Ar9, S9, H9⟩ := id Y6
      obtain ⟨T10, h10, X10, e10, W10, st10⟩ := stC X6 hx hZ e6 Ar9 (j := (Int32.ofNat 0)) (own_in qn9 S9 (show 0 < 10 by omega)) (g := (mkF m 28 #[vi p0, vi (p0 &&& (3 : Int32)), vi ((p0.toUInt32 >>> ((2 : Int32) &&& 31).toUInt32).toInt32), vu] [(.int (10 : Int32)), (.int (0 : Int32)), (.ref b6), (.ref b6)])) rfl rfl (b d1_28)
      have Y10 : Ay Z h10 b6 .char 10 (fun x => if x = 0 then (nar .char (10 : Int32)) else (fun _ => 0) x) := Ay.put qn9 Ar9 S9 H9 (show 0 < 10 by omega) W10 (fits_nar_char _)
      have f11_2 := Ex6.wr W10
      obtain ⟨ff10, Yf10⟩ : ∃ z, Ay Z h10 b6 .char 10 z := ⟨_, Y10⟩
      have N10 := Fr.snoc X10 N0 g_b6
      have Z10 : n0 ≤ h10.size := Nat.le_trans Z6 (Keep.of_wr W10).1
      have K10 := K6.wr W10 (Or.inr sz_b6)
      obtain ⟨qn13, cl13, Ar13, S13, H13⟩ := id Yf10
      obtain ⟨T14, h14, X14, e14, W14, st14⟩ := stC X10 hx hZ e10 Ar13 (j := (Int32.ofNat 1)) (own_in qn13 S13 (show 1 < 10 by omega)) (g := (mkF m 33 #[vi p0, vi (p0 &&& (3 : Int32)), vi ((p0.toUInt32 >>> ((2 : Int32) &&& 31).toUInt32).toInt32), vu] [(.int (11 : Int32)), (.int (1 : Int32)), (.ref b6), (.ref b6)])) rfl rfl (b d1_33)
      have Y14 : Ay Z h14 b6 .char 10 (fun x => if x = 1 then (nar .char (11 : Int32)) else ff10 x) := Ay.put qn13 Ar13 S13 H13 (show 1 < 10 by omega) W14 (fits_nar_char _)
      have f15_2 := f11_2.wr W14
      obtain ⟨ff14, Yf14⟩ : ∃ z, Ay Z h14 b6 .char 10 z := ⟨_, Y14⟩
      have N14 := Fr.snoc X14 N10 g_b6
      have Z14 : n0 ≤ h14.size := Nat.le_trans Z10 (Keep.of_wr W14).1
      have K14 := K10.wr W14 (Or.inr sz_b6)
      obtain ⟨qn17, cl17, Ar17, S17, H17⟩ := id Yf14
      obtain ⟨T18, h18, X18, e18, W18, st18⟩ := stC X14 hx hZ e14 Ar17 (j := (Int32.ofNat 2)) (own_in qn17 S17 (show 2 < 10 by omega)) (g := (mkF m 38 #[vi p0, vi (p0 &&& (3 : Int32)), vi ((p0.toUInt32 >>> ((2 : Int32) &&& 31).toUInt32).toInt32), vu] [(.int (12 : Int32)), (.int (2 : Int32)), (.ref b6), (.ref b6)])) rfl rfl (b d1_38)
      have Y18 : Ay Z h18 b6 .char 10 (fun x => if x = 2 then (nar .char (12 : Int32)) else ff14 x) := Ay.put qn17 Ar17 S17 H17 (show 2 < 10 by omega) W18 (fits_nar_char _)
      have f19_2 := f15_2.wr W18
      obtain ⟨ff18, Yf18⟩ : ∃ z, Ay Z h18 b6 .char 10 z := ⟨_, Y18⟩
      have N18 := Fr.snoc X18 N14 g_b6
      have Z18 : n0 ≤ h18.size := Nat.le_trans Z14 (Keep.of_wr W18).1
      have K18 := K14.wr W18 (Or.inr sz_b6)
      obtain ⟨qn21, cl21, Ar21, S21, H21⟩ := id Yf18
      obtain ⟨T22, h22, X22, e22, W22, st22⟩ := stC X18 hx hZ e18 Ar21 (j := (Int32.ofNat 3)) (own_in qn21 S21 (show 3 < 10 by omega)) (g := (mkF m 43 #[vi p0, vi (p0 &&& (3 : Int32)), vi ((p0.toUInt32 >>> ((2 : Int32) &&& 31).toUInt32).toInt32), vu] [(.int (13 : Int32)), (.int (3 : Int32)), (.ref b6), (.ref b6)])) rfl rfl (b d1_43)
      have Y22 : Ay Z h22 b6 .char 10 (fun x => if x = 3 then (nar .char (13 : Int32)) else ff18 x) := Ay.put qn21 Ar21 S21 H21 (show 3 < 10 by omega) W22 (fits_nar_char _)
      have f23_2 := f19_2.wr W22
      obtain ⟨ff22, Yf22⟩ : ∃ z, Ay Z h22 b6 .char 10 z := ⟨_, Y22⟩
      have N22 := Fr.snoc X22 N18 g_b6
      have Z22 : n0 ≤ h22.size := Nat.le_trans Z18 (Keep.of_wr W22).1
      have K22 := K18.wr W22 (Or.inr sz_b6)
      obtain ⟨qn25, cl25, Ar25, S25, H25⟩ := id Yf22
      obtain ⟨T26, h26, X26, e26, W26, st26⟩ := stC X22 hx hZ e22 Ar25 (j := (Int32.ofNat 4)) (own_in qn25 S25 (show 4 < 10 by omega)) (g := (mkF m 48 #[vi p0, vi (p0 &&& (3 : Int32)), vi ((p0.toUInt32 >>> ((2 : Int32) &&& 31).toUInt32).toInt32), vu] [(.int (28 : Int32)), (.int (4 : Int32)), (.ref b6), (.ref b6)])) rfl rfl (b d1_48)
      have Y26 : Ay Z h26 b6 .char 10 (fun x => if x = 4 then (nar .char (28 : Int32)) else ff22 x) := Ay.put qn25 Ar25 S25 H25 (show 4 < 10 by omega) W26 (fits_nar_char _)
      have f27_2 := f23_2.wr W26
      obtain ⟨ff26, Yf26⟩ : ∃ z, Ay Z h26 b6 .char 10 z := ⟨_, Y26⟩
      have N26 := Fr.snoc X26 N22 g_b6
      have Z26 : n0 ≤ h26.size := Nat.le_trans Z22 (Keep.of_wr W26).1
      have K26 := K22.wr W26 (Or.inr sz_b6)
      obtain ⟨qn29, cl29, Ar29, S29, H29⟩ := id Yf26
      obtain ⟨T30, h30, X30, e30, W30, st30⟩ := stC X26 hx hZ e26 Ar29 (j := (Int32.ofNat 5)) (own_in qn29 S29 (show 5 < 10 by omega)) (g := (mkF m 53 #[vi p0, vi (p0 &&& (3 : Int32)), vi ((p0.toUInt32 >>> ((2 : Int32) &&& 31).toUInt32).toInt32), vu] [(.int (29 : Int32)), (.int (5 : Int32)), (.ref b6), (.ref b6)])) rfl rfl (b d1_53)
      have Y30 : Ay Z h30 b6 .char 10 (fun x => if x = 5 then (nar .char (29 : Int32)) else ff26 x) := Ay.put qn29 Ar29 S29 H29 (show 5 < 10 by omega) W30 (fits_nar_char _)
      have f31_2 := f27_2.wr W30
      obtain ⟨ff30, Yf30⟩ : ∃ z, Ay Z h30 b6 .char 10 z := ⟨_, Y30⟩
      have N30 := Fr.snoc X30 N26 g_b6
      have Z30 : n0 ≤ h30.size := Nat.le_trans Z26 (Keep.of_wr W30).1
      have K30 := K26.wr W30 (Or.inr sz_b6)
      obtain ⟨qn33, cl33, Ar33, S33, H33⟩ := id Yf30
      obtain ⟨T34, h34, X34, e34, W34, st34⟩ := stC X30 hx hZ e30 Ar33 (j := (Int32.ofNat 6)) (own_in qn33 S33 (show 6 < 10 by omega)) (g := (mkF m 59 #[vi p0, vi (p0 &&& (3 : Int32)), vi ((p0.toUInt32 >>> ((2 : Int32) &&& 31).toUInt32).toInt32), vu] [(.int (30 : Int32)), (.int (6 : Int32)), (.ref b6), (.ref b6)])) rfl rfl (b d1_59)
      have Y34 : Ay Z h34 b6 .char 10 (fun x => if x = 6 then (nar .char (30 : Int32)) else ff30 x) := Ay.put qn33 Ar33 S33 H33 (show 6 < 10 by omega) W34 (fits_nar_char _)
      have f35_2 := f31_2.wr W34
      obtain ⟨ff34, Yf34⟩ : ∃ z, Ay Z h34 b6 .char 10 z := ⟨_, Y34⟩
      have N34 := Fr.snoc X34 N30 g_b6
      have Z34 : n0 ≤ h34.size := Nat.le_trans Z30 (Keep.of_wr W34).1
      have K34 := K30.wr W34 (Or.inr sz_b6)
      obtain ⟨qn37, cl37, Ar37, S37, H37⟩ := id Yf34
      obtain ⟨T38, h38, X38, e38, W38, st38⟩ := stC X34 hx hZ e34 Ar37 (j := (Int32.ofNat 7)) (own_in qn37 S37 (show 7 < 10 by omega)) (g := (mkF m 66 #[vi p0, vi (p0 &&& (3 : Int32)), vi ((p0.toUInt32 >>> ((2 : Int32) &&& 31).toUInt32).toInt32), vu] [(.int (133 : Int32)), (.int (7 : Int32)), (.ref b6), (.ref b6)])) rfl rfl (b d1_66)
      have Y38 : Ay Z h38 b6 .char 10 (fun x => if x = 7 then (nar .char (133 : Int32)) else ff34 x) := Ay.put qn37 Ar37 S37 H37 (show 7 < 10 by omega) W38 (fits_nar_char _)
      have f39_2 := f35_2.wr W38
      obtain ⟨ff38, Yf38⟩ : ∃ z, Ay Z h38 b6 .char 10 z := ⟨_, Y38⟩
      have N38 := Fr.snoc X38 N34 g_b6
      have Z38 : n0 ≤ h38.size := Nat.le_trans Z34 (Keep.of_wr W38).1
      have K38 := K34.wr W38 (Or.inr sz_b6)
      obtain ⟨qn41, cl41, Ar41, S41, H41⟩ := id Yf38
      obtain ⟨T42, h42, X42, e42, W42, st42⟩ := stC X38 hx hZ e38 Ar41 (j := (Int32.ofNat 8)) (own_in qn41 S41 (show 8 < 10 by omega)) (g := (mkF m 73 #[vi p0, vi (p0 &&& (3 : Int32)), vi ((p0.toUInt32 >>> ((2 : Int32) &&& 31).toUInt32).toInt32), vu] [(.int (8232 : Int32)), (.int (8 : Int32)), (.ref b6), (.ref b6)])) rfl rfl (b d1_73)
      have Y42 : Ay Z h42 b6 .char 10 (fun x => if x = 8 then (nar .char (8232 : Int32)) else ff38 x) := Ay.put qn41 Ar41 S41 H41 (show 8 < 10 by omega) W42 (fits_nar_char _)
      have f43_2 := f39_2.wr W42
      obtain ⟨ff42, Yf42⟩ : ∃ z, Ay Z h42 b6 .char 10 z := ⟨_, Y42⟩
      have N42 := Fr.snoc X42 N38 g_b6
      have Z42 : n0 ≤ h42.size := Nat.le_trans Z38 (Keep.of_wr W42).1
      have K42 := K38.wr W42 (Or.inr sz_b6)
      obtain ⟨qn45, cl45, Ar45, S45, H45⟩ := id Yf42
      obtain ⟨T46, h46, X46, e46, W46, st46⟩ := stC X42 hx hZ e42 Ar45 (j := (Int32.ofNat 9)) (own_in qn45 S45 (show 9 < 10 by omega)) (g := (mkF m 80 #[vi p0, vi (p0 &&& (3 : Int32)), vi ((p0.toUInt32 >>> ((2 : Int32) &&& 31).toUInt32).toInt32), vu] [(.int (8233 : Int32)), (.int (9 : Int32)), (.ref b6), (.ref b6)])) rfl rfl (b d1_80)
      have Y46 : Ay Z h46 b6 .char 10 (fun x => if x = 9 then (nar .char (8233 : Int32)) else ff42 x) := Ay.put qn45 Ar45 S45 H45 (show 9 < 10 by omega) W46 (fits_nar_char _)
      have f47_2 := f43_2.wr W46
      obtain ⟨ff46, Yf46⟩ : ∃ z, Ay Z h46 b6 .char 10 z := ⟨_, Y46⟩
      have N46 := Fr.snoc X46 N42 g_b6
      have Z46 : n0 ≤ h46.size := Nat.le_trans Z42 (Keep.of_wr W46).1
      have K46 := K42.wr W46 (Or.inr sz_b6)
      obtain ⟨jj, hjj, ejj⟩ := own_ch p0
      have pre49 : Pr p e below s₁ E0 T46 (mkF m 87 #[vi p0, vi (p0 &&& (3 : Int32)), vi ((p0.toUInt32 >>> ((2 : Int32) &&& 31).toUInt32).toInt32), vr b6] [(.int (((p0.toUInt32 >>> ((2 : Int32) &&& 31).toUInt32).toInt32) % (10 : Int32))), (.ref b6)]) := fun t k => pre5 t (by
        refine XS.icmpNo X0.here hx rfl (b d1_17) rfl (teq hc4).2 ?_
        refine XS.bipush X0.here hx rfl (b d1_20) ?_
        refine st6 _ ?_
        show Sp p e below T6 (mkF m 24 #[vi p0, vi (p0 &&& (3 : Int32)), vi ((p0.toUInt32 >>> ((2 : Int32) &&& 31).toUInt32).toInt32), vu] [(.ref b6)]) t
        refine XS.dup X6.here hx rfl (b d1_24) rfl rfl ?_
        refine XS.iconst X6.here hx rfl (b d1_25) ?_
        refine XS.bipush X6.here hx rfl (b d1_26) ?_
        refine st10 _ ?_
        show Sp p e below T10 (mkF m 29 #[vi p0, vi (p0 &&& (3 : Int32)), vi ((p0.toUInt32 >>> ((2 : Int32) &&& 31).toUInt32).toInt32), vu] [(.ref b6)]) t
        refine XS.dup X10.here hx rfl (b d1_29) rfl rfl ?_
        refine XS.iconst X10.here hx rfl (b d1_30) ?_
        refine XS.bipush X10.here hx rfl (b d1_31) ?_
        refine st14 _ ?_
        show Sp p e below T14 (mkF m 34 #[vi p0, vi (p0 &&& (3 : Int32)), vi ((p0.toUInt32 >>> ((2 : Int32) &&& 31).toUInt32).toInt32), vu] [(.ref b6)]) t
        refine XS.dup X14.here hx rfl (b d1_34) rfl rfl ?_
        refine XS.iconst X14.here hx rfl (b d1_35) ?_
        refine XS.bipush X14.here hx rfl (b d1_36) ?_
        refine st18 _ ?_
        show Sp p e below T18 (mkF m 39 #[vi p0, vi (p0 &&& (3 : Int32)), vi ((p0.toUInt32 >>> ((2 : Int32) &&& 31).toUInt32).toInt32), vu] [(.ref b6)]) t
        refine XS.dup X18.here hx rfl (b d1_39) rfl rfl ?_
        refine XS.iconst X18.here hx rfl (b d1_40) ?_
        refine XS.bipush X18.here hx rfl (b d1_41) ?_
        refine st22 _ ?_
        show Sp p e below T22 (mkF m 44 #[vi p0, vi (p0 &&& (3 : Int32)), vi ((p0.toUInt32 >>> ((2 : Int32) &&& 31).toUInt32).toInt32), vu] [(.ref b6)]) t
        refine XS.dup X22.here hx rfl (b d1_44) rfl rfl ?_
        refine XS.iconst X22.here hx rfl (b d1_45) ?_
        refine XS.bipush X22.here hx rfl (b d1_46) ?_
        refine st26 _ ?_
        show Sp p e below T26 (mkF m 49 #[vi p0, vi (p0 &&& (3 : Int32)), vi ((p0.toUInt32 >>> ((2 : Int32) &&& 31).toUInt32).toInt32), vu] [(.ref b6)]) t
        refine XS.dup X26.here hx rfl (b d1_49) rfl rfl ?_
        refine XS.iconst X26.here hx rfl (b d1_50) ?_
        refine XS.bipush X26.here hx rfl (b d1_51) ?_
        refine st30 _ ?_
        show Sp p e below T30 (mkF m 54 #[vi p0, vi (p0 &&& (3 : Int32)), vi ((p0.toUInt32 >>> ((2 : Int32) &&& 31).toUInt32).toInt32), vu] [(.ref b6)]) t
        refine XS.dup X30.here hx rfl (b d1_54) rfl rfl ?_
        refine XS.bipush X30.here hx rfl (b d1_55) ?_
        refine XS.bipush X30.here hx rfl (b d1_57) ?_
        refine st34 _ ?_
        show Sp p e below T34 (mkF m 60 #[vi p0, vi (p0 &&& (3 : Int32)), vi ((p0.toUInt32 >>> ((2 : Int32) &&& 31).toUInt32).toInt32), vu] [(.ref b6)]) t
        refine XS.dup X34.here hx rfl (b d1_60) rfl rfl ?_
        refine XS.bipush X34.here hx rfl (b d1_61) ?_
        refine XS.sipush X34.here hx rfl (b d1_63) ?_
        refine st38 _ ?_
        show Sp p e below T38 (mkF m 67 #[vi p0, vi (p0 &&& (3 : Int32)), vi ((p0.toUInt32 >>> ((2 : Int32) &&& 31).toUInt32).toInt32), vu] [(.ref b6)]) t
        refine XS.dup X38.here hx rfl (b d1_67) rfl rfl ?_
        refine XS.bipush X38.here hx rfl (b d1_68) ?_
        refine XS.sipush X38.here hx rfl (b d1_70) ?_
        refine st42 _ ?_
        show Sp p e below T42 (mkF m 74 #[vi p0, vi (p0 &&& (3 : Int32)), vi ((p0.toUInt32 >>> ((2 : Int32) &&& 31).toUInt32).toInt32), vu] [(.ref b6)]) t
        refine XS.dup X42.here hx rfl (b d1_74) rfl rfl ?_
        refine XS.bipush X42.here hx rfl (b d1_75) ?_
        refine XS.sipush X42.here hx rfl (b d1_77) ?_
        refine st46 _ ?_
        show Sp p e below T46 (mkF m 81 #[vi p0, vi (p0 &&& (3 : Int32)), vi ((p0.toUInt32 >>> ((2 : Int32) &&& 31).toUInt32).toInt32), vu] [(.ref b6)]) t
        refine XS.astoreN X46.here hx rfl (b d1_81) rfl rfl (l' := #[vi p0, vi (p0 &&& (3 : Int32)), vi ((p0.toUInt32 >>> ((2 : Int32) &&& 31).toUInt32).toInt32), vr b6]) rfl ?_
        refine XS.aloadN X46.here hx rfl (b d1_82) rfl rfl ?_
        refine XS.iloadN X46.here hx rfl (b d1_83) rfl ?_
        refine XS.bipush X46.here hx rfl (b d1_84) ?_
        refine iremM X46 hx rfl (b d1_86) rfl (by decide) ?_
        exact k)
      rw [ejj] at pre49
      obtain ⟨qn50, cl50, Ar50, S50, H50⟩ := id Yf46
      have pre52 : Pr p e below s₁ E0 T46 (mkF m 88 #[vi p0, vi (p0 &&& (3 : Int32)), vi ((p0.toUInt32 >>> ((2 : Int32) &&& 31).toUInt32).toInt32), vr b6] [(.int (ff46 jj))]) := fun t k => pre49 t (by
        refine X46.caload hx (j := (Int32.ofNat jj)) (v := (.int (ff46 jj))) (by rw [e46]; exact Ar50.1) (State.isArrayOf_alike hZ.alike Ar50.2.1) Ar50.2.2 (own_in qn50 S50 (show jj < 10 by omega)) (own_at qn50 H50 (show jj < 10 by omega)) (g := (mkF m 87 #[vi p0, vi (p0 &&& (3 : Int32)), vi ((p0.toUInt32 >>> ((2 : Int32) &&& 31).toUInt32).toInt32), vr b6] [(.int (Int32.ofNat jj)), (.ref b6)])) rfl rfl (b d1_87) _ ?_
        exact k)
      exact own_end X46 hlk (v := some (.int (nar .char (ff46 jj)))) (own_hv hret) pre52 (fun fs hr => retN X46 hx (t := .char) hret (by simp) (b d1_88) hr) (by rw [e46]; exact ⟨_, rfl, N46, K46, own_chr _⟩)
    · have pre54 : Pr p e below s₁ E0 s₁ (mkF m 91 #[vi p0, vi (p0 &&& (3 : Int32)), vi ((p0.toUInt32 >>> ((2 : Int32) &&& 31).toUInt32).toInt32), vu] [(.int (2 : Int32)), (.int (p0 &&& (3 : Int32)))]) := fun t k => pre5 t (by
        refine XS.icmpYes X0.here hx rfl (pc0 := 17) (pc' := 89) rfl (b d1_17) rfl (feq hc4).2 (by decide) (by decide) ?_
        refine XS.iloadN X0.here hx rfl (b d1_89) rfl ?_
        refine XS.iconst X0.here hx rfl (b d1_90) ?_
        exact k)
      by_cases hc53 : (p0 &&& (3 : Int32)) = (2 : Int32)
      · have pre55 : Pr p e below s₁ E0 s₁ (mkF m 96 #[vi p0, vi (p0 &&& (3 : Int32)), vi ((p0.toUInt32 >>> ((2 : Int32) &&& 31).toUInt32).toInt32), vu] [(.int (((p0.toUInt32 >>> ((2 : Int32) &&& 31).toUInt32).toInt32).toUInt32.toUInt16.toUInt32.toInt32))]) := fun t k => pre54 t (by
          refine XS.icmpNo X0.here hx rfl (b d1_91) rfl (teq hc53).2 ?_
          refine XS.iloadN X0.here hx rfl (b d1_94) rfl ?_
          refine XS.i2c X0.here hx rfl (b d1_95) rfl ?_
          exact k)
        exact own_end X0 hlk (v := some (.int (nar .char (((p0.toUInt32 >>> ((2 : Int32) &&& 31).toUInt32).toInt32).toUInt32.toUInt16.toUInt32.toInt32)))) (own_hv hret) pre55 (fun fs hr => retN X0 hx (t := .char) hret (by simp) (b d1_96) hr) (by rw [e0]; exact ⟨_, rfl, N0, K0, own_chr _⟩)
      · have pre56 : Pr p e below s₁ E0 s₁ (mkF m 103 #[vi p0, vi (p0 &&& (3 : Int32)), vi ((p0.toUInt32 >>> ((2 : Int32) &&& 31).toUInt32).toInt32), vu] [(.int ((((p0.toUInt32 >>> ((2 : Int32) &&& 31).toUInt32).toInt32) &&& (255 : Int32)).toUInt32.toUInt16.toUInt32.toInt32))]) := fun t k => pre54 t (by
          refine XS.icmpYes X0.here hx rfl (pc0 := 91) (pc' := 97) rfl (b d1_91) rfl (feq hc53).2 (by decide) (by decide) ?_
          refine XS.iloadN X0.here hx rfl (b d1_97) rfl ?_
          refine XS.sipush X0.here hx rfl (b d1_98) ?_
          refine XS.iand X0.here hx rfl (b d1_101) rfl ?_
          refine XS.i2c X0.here hx rfl (b d1_102) rfl ?_
          exact k)
        exact own_end X0 hlk (v := some (.int (nar .char ((((p0.toUInt32 >>> ((2 : Int32) &&& 31).toUInt32).toInt32) &&& (255 : Int32)).toUInt32.toUInt16.toUInt32.toInt32)))) (own_hv hret) pre56 (fun fs hr => retN X0 hx (t := .char) hret (by simp) (b d1_103) hr) (by rw [e0]; exact ⟨_, rfl, N0, K0, own_chr _⟩)
theorem own_putc {f : Nat → Int32} {ou : List Int32} {c d : Int32} (hf : ∀ j, j < ou.length → f j = ou.getD j 0) (hc : nar .char d = c) : ∀ j, j < (ou ++ [c]).length → (fun x => if x = ou.length then (nar .char d) else f x) j = (ou ++ [c]).getD j 0 := fun j hj => by
  dsimp only
  by_cases q : j < ou.length
  · rw [own_ga q, if_neg (by omega)]; exact hf j q
  · have e := own_gl hj q
    subst e; rw [own_gb, if_pos rfl, hc]
theorem own_pl (ou : List Int32) (bi bp : Bool) (c : Int32) : (own_put (32 : Int32) ou bi bp c).length ≤ ou.length + 1 := by
  cases bi <;> cases bp <;> simp [own_put]
abbrev C19 := method_6_code
theorem d19_0 : dk C19 0 (.iload_n 2) 1 := by decide +kernel
theorem d19_1 : dk C19 1 (.ifCond .ne 12) 3 := by decide +kernel
theorem d19_4 : dk C19 4 (.aload_n 0) 1 := by decide +kernel
theorem d19_5 : dk C19 5 (.iload_n 1) 1 := by decide +kernel
theorem d19_6 : dk C19 6 (.iload 4) 2 := by decide +kernel
theorem d19_8 : dk C19 8 .castore 1 := by decide +kernel
theorem d19_9 : dk C19 9 (.iload_n 1) 1 := by decide +kernel
theorem d19_10 : dk C19 10 (.iconst 1) 1 := by decide +kernel
theorem d19_11 : dk C19 11 .iadd 1 := by decide +kernel
theorem d19_12 : dk C19 12 .ireturn 1 := by decide +kernel
theorem d19_13 : dk C19 13 (.iload_n 3) 1 := by decide +kernel
theorem d19_14 : dk C19 14 (.ifCond .ne 12) 3 := by decide +kernel
theorem d19_17 : dk C19 17 (.aload_n 0) 1 := by decide +kernel
theorem d19_18 : dk C19 18 (.iload_n 1) 1 := by decide +kernel
theorem d19_19 : dk C19 19 (.bipush 32) 2 := by decide +kernel
theorem d19_21 : dk C19 21 .castore 1 := by decide +kernel
theorem d19_22 : dk C19 22 (.iload_n 1) 1 := by decide +kernel
theorem d19_23 : dk C19 23 (.iconst 1) 1 := by decide +kernel
theorem d19_24 : dk C19 24 .iadd 1 := by decide +kernel
theorem d19_25 : dk C19 25 .ireturn 1 := by decide +kernel
theorem d19_26 : dk C19 26 (.iload_n 1) 1 := by decide +kernel
theorem d19_27 : dk C19 27 .ireturn 1 := by decide +kernel
def Q_put (Z : State) (r0 : Addr) (p4 : Int32) (ou : List Int32) (bi : Bool) (bp : Bool) (f : Nat → Int32) (h0 : Heap) (n0 : Nat) (v : Option Value) (h : Heap) (L : List Loc) : Prop := ∃ o g, o = own_put (32 : Int32) ou bi bp p4 ∧ v = some (.int (Int32.ofNat o.length)) ∧ Fr n0 L ∧ Keep h0 h [r0] ∧ Ay Z h r0 .char 5 g ∧ o.length ≤ ou.length + 1 ∧ ∀ j, j < o.length → g j = o.getD j 0
theorem rm_put (l : Launch) (Z : State) (a0 : Array Value) (hw : Hw a0 Z) (r0 : Addr) (p4 : Int32) (ou : List Int32) (bi : Bool) (bp : Bool) (f : Nat → Int32) (h0 : Heap) (n0 : Nat) (Z0 : n0 ≤ h0.size) (Y_r0 : Ay Z h0 r0 .char 5 f) (g_r0 : n0 ≤ r0) (hl : ou.length < 5) (hf : ∀ j, j < ou.length → f j = ou.getD j 0) (hc : Chr p4) : Mt l (⟨"org/interpunct/marc/OneLineOfPinLaw", "put", "([CIZZC)I"⟩ : MethodName) C19 5 (some .int) ({ frames := 0, cells := 0, slots := 0, locals := 0 } : Room) #[(.ref r0), (.int (Int32.ofNat ou.length)), (.int (own_B bi)), (.int (own_B bp)), (.int p4)] Z h0 (Q_put Z r0 p4 ou bi bp f h0 n0) := by
  have w := own_w hw
  refine own_go (L0 := #[vr r0, vi (Int32.ofNat ou.length), vB bi, vB bp, vi p4]) n0 (plainFor_of_name own_pn40) (fun m => rfl) fun p e s m below meth c s₁ E0 hx b hml hown hnm hret hlk hZ X0 e0 N0 pre0 => ?_
  have K0 : Keep h0 h0 [r0] := Keep.refl h0 _
  have pre2 : Pr p e below s₁ E0 s₁ (mkF m 1 #[vr r0, vi (Int32.ofNat ou.length), vB bi, vB bp, vi p4] [(.int (own_B bi))]) := fun t k => pre0 t (by
    refine XS.iloadN X0.here hx rfl (b d19_0) rfl ?_
    exact k)
  by_cases hc1 : (own_B bi) = (0 : Int32)
  · obtain ⟨qn3, cl3, Ar3, S3, H3⟩ := id Y_r0
    obtain ⟨T4, h4, X4, e4, W4, st4⟩ := stC X0 hx hZ e0 Ar3 (j := (Int32.ofNat ou.length)) (own_in qn3 S3 (show ou.length < 5 by omega)) (g := (mkF m 8 #[vr r0, vi (Int32.ofNat ou.length), vB bi, vB bp, vi p4] [(.int p4), (.int (Int32.ofNat ou.length)), (.ref r0)])) rfl rfl (b d19_8)
    have Y4 : Ay Z h4 r0 .char 5 (fun x => if x = ou.length then (nar .char p4) else f x) := Ay.put qn3 Ar3 S3 H3 (show ou.length < 5 by omega) W4 (fits_nar_char _)
    have N4 := Fr.snoc X4 N0 g_r0
    have Z4 : n0 ≤ h4.size := Nat.le_trans Z0 (Keep.of_wr W4).1
    have K4 := K0.wr W4 (Or.inl (by simp))
    have pre7 : Pr p e below s₁ E0 T4 (mkF m 12 #[vr r0, vi (Int32.ofNat ou.length), vB bi, vB bp, vi p4] [(.int (Int32.ofNat (ou.length + 1)))]) := fun t k => pre2 t (by
      refine XS.ifNo X0.here hx rfl (b d19_1) rfl ((if0 _ _).trans (teq hc1).2) ?_
      refine XS.aloadN X0.here hx rfl (b d19_4) rfl rfl ?_
      refine XS.iloadN X0.here hx rfl (b d19_5) rfl ?_
      refine XS.iload X0.here hx rfl (b d19_6) rfl ?_
      refine st4 _ ?_
      show Sp p e below T4 (mkF m 9 #[vr r0, vi (Int32.ofNat ou.length), vB bi, vB bp, vi p4] []) t
      refine XS.iloadN X4.here hx rfl (b d19_9) rfl ?_
      refine XS.iconst X4.here hx rfl (b d19_10) ?_
      refine XS.iadd X4.here hx rfl (b d19_11) rfl ?_
      show Sp p e below T4 (mkF m 12 #[vr r0, vi (Int32.ofNat ou.length), vB bi, vB bp, vi p4] [(.int ((Int32.ofNat ou.length) + (1 : Int32)))]) t
      rw [own_a1 ou.length]
      exact k)
    exact own_end X4 hlk (v := some (.int (Int32.ofNat (ou.length + 1)))) (own_hv hret) pre7 (fun fs hr => retI X4 hx hret (b d19_12) hr) (by rw [e4]; exact ⟨_, (fun x => if x = ou.length then (nar .char p4) else f x), rfl, by rw [own_putF (own_Bf hc1)]; simp, N4, K4, Y4, own_pl _ _ _ _, by rw [own_putF (own_Bf hc1)]; exact own_putc hf (own_narc hc)⟩)
  · have pre9 : Pr p e below s₁ E0 s₁ (mkF m 14 #[vr r0, vi (Int32.ofNat ou.length), vB bi, vB bp, vi p4] [(.int (own_B bp))]) := fun t k => pre2 t (by
      refine XS.ifYes X0.here hx rfl (pc0 := 1) (pc' := 13) rfl (b d19_1) rfl ((if0 _ _).trans (feq hc1).2) (by decide) (by decide) ?_
      refine XS.iloadN X0.here hx rfl (b d19_13) rfl ?_
      exact k)
    by_cases hc8 : (own_B bp) = (0 : Int32)
    · obtain ⟨qn10, cl10, Ar10, S10, H10⟩ := id Y_r0
      obtain ⟨T11, h11, X11, e11, W11, st11⟩ := stC X0 hx hZ e0 Ar10 (j := (Int32.ofNat ou.length)) (own_in qn10 S10 (show ou.length < 5 by omega)) (g := (mkF m 21 #[vr r0, vi (Int32.ofNat ou.length), vB bi, vB bp, vi p4] [(.int (32 : Int32)), (.int (Int32.ofNat ou.length)), (.ref r0)])) rfl rfl (b d19_21)
      have Y11 : Ay Z h11 r0 .char 5 (fun x => if x = ou.length then (nar .char (32 : Int32)) else f x) := Ay.put qn10 Ar10 S10 H10 (show ou.length < 5 by omega) W11 (fits_nar_char _)
      have N11 := Fr.snoc X11 N0 g_r0
      have Z11 : n0 ≤ h11.size := Nat.le_trans Z0 (Keep.of_wr W11).1
      have K11 := K0.wr W11 (Or.inl (by simp))
      have pre14 : Pr p e below s₁ E0 T11 (mkF m 25 #[vr r0, vi (Int32.ofNat ou.length), vB bi, vB bp, vi p4] [(.int (Int32.ofNat (ou.length + 1)))]) := fun t k => pre9 t (by
        refine XS.ifNo X0.here hx rfl (b d19_14) rfl ((if0 _ _).trans (teq hc8).2) ?_
        refine XS.aloadN X0.here hx rfl (b d19_17) rfl rfl ?_
        refine XS.iloadN X0.here hx rfl (b d19_18) rfl ?_
        refine XS.bipush X0.here hx rfl (b d19_19) ?_
        refine st11 _ ?_
        show Sp p e below T11 (mkF m 22 #[vr r0, vi (Int32.ofNat ou.length), vB bi, vB bp, vi p4] []) t
        refine XS.iloadN X11.here hx rfl (b d19_22) rfl ?_
        refine XS.iconst X11.here hx rfl (b d19_23) ?_
        refine XS.iadd X11.here hx rfl (b d19_24) rfl ?_
        show Sp p e below T11 (mkF m 25 #[vr r0, vi (Int32.ofNat ou.length), vB bi, vB bp, vi p4] [(.int ((Int32.ofNat ou.length) + (1 : Int32)))]) t
        rw [own_a1 ou.length]
        exact k)
      exact own_end X11 hlk (v := some (.int (Int32.ofNat (ou.length + 1)))) (own_hv hret) pre14 (fun fs hr => retI X11 hx hret (b d19_25) hr) (by rw [e11]; exact ⟨_, (fun x => if x = ou.length then (nar .char (32 : Int32)) else f x), rfl, by rw [own_putS (own_Bt hc1) (own_Bf hc8)]; simp, N11, K11, Y11, own_pl _ _ _ _, by rw [own_putS (own_Bt hc1) (own_Bf hc8)]; exact own_putc hf (own_narc own_c32)⟩)
    · have pre15 : Pr p e below s₁ E0 s₁ (mkF m 27 #[vr r0, vi (Int32.ofNat ou.length), vB bi, vB bp, vi p4] [(.int (Int32.ofNat ou.length))]) := fun t k => pre9 t (by
        refine XS.ifYes X0.here hx rfl (pc0 := 14) (pc' := 26) rfl (b d19_14) rfl ((if0 _ _).trans (feq hc8).2) (by decide) (by decide) ?_
        refine XS.iloadN X0.here hx rfl (b d19_26) rfl ?_
        exact k)
      exact own_end X0 hlk (v := some (.int (Int32.ofNat ou.length))) (own_hv hret) pre15 (fun fs hr => retI X0 hx hret (b d19_27) hr) (by rw [e0]; exact ⟨_, f, rfl, by rw [own_putN (own_Bt hc1) (own_Bt hc8)], N0, K0, Y_r0, own_pl _ _ _ _, by rw [own_putN (own_Bt hc1) (own_Bt hc8)]; exact hf⟩)
abbrev C20 := method_7_code
theorem d20_0 : dk C20 0 (.aload_n 0) 1 := by decide +kernel
theorem d20_1 : dk C20 1 (.invokevirtual 41) 3 := by decide +kernel
theorem d20_4 : dk C20 4 (.iload_n 2) 1 := by decide +kernel
theorem d20_5 : dk C20 5 (.if_icmp .eq 5) 3 := by decide +kernel
theorem d20_10 : dk C20 10 (.iload_n 2) 1 := by decide +kernel
theorem d20_11 : dk C20 11 (.ifCond .le 16) 3 := by decide +kernel
theorem d20_14 : dk C20 14 (.aload_n 0) 1 := by decide +kernel
theorem d20_15 : dk C20 15 (.iconst 0) 1 := by decide +kernel
theorem d20_16 : dk C20 16 (.invokevirtual 45) 3 := by decide +kernel
theorem d20_19 : dk C20 19 (.aload_n 1) 1 := by decide +kernel
theorem d20_20 : dk C20 20 (.iconst 0) 1 := by decide +kernel
theorem d20_21 : dk C20 21 .caload 1 := by decide +kernel
theorem d20_22 : dk C20 22 (.if_icmp .eq 5) 3 := by decide +kernel
theorem d20_27 : dk C20 27 (.iload_n 2) 1 := by decide +kernel
theorem d20_28 : dk C20 28 (.iconst 1) 1 := by decide +kernel
theorem d20_29 : dk C20 29 (.if_icmp .le 16) 3 := by decide +kernel
theorem d20_32 : dk C20 32 (.aload_n 0) 1 := by decide +kernel
theorem d20_33 : dk C20 33 (.iconst 1) 1 := by decide +kernel
theorem d20_34 : dk C20 34 (.invokevirtual 45) 3 := by decide +kernel
theorem d20_37 : dk C20 37 (.aload_n 1) 1 := by decide +kernel
theorem d20_38 : dk C20 38 (.iconst 1) 1 := by decide +kernel
theorem d20_39 : dk C20 39 .caload 1 := by decide +kernel
theorem d20_40 : dk C20 40 (.if_icmp .eq 5) 3 := by decide +kernel
theorem d20_45 : dk C20 45 (.iload_n 2) 1 := by decide +kernel
theorem d20_46 : dk C20 46 (.iconst 2) 1 := by decide +kernel
theorem d20_47 : dk C20 47 (.if_icmp .le 16) 3 := by decide +kernel
theorem d20_50 : dk C20 50 (.aload_n 0) 1 := by decide +kernel
theorem d20_51 : dk C20 51 (.iconst 2) 1 := by decide +kernel
theorem d20_52 : dk C20 52 (.invokevirtual 45) 3 := by decide +kernel
theorem d20_55 : dk C20 55 (.aload_n 1) 1 := by decide +kernel
theorem d20_56 : dk C20 56 (.iconst 2) 1 := by decide +kernel
theorem d20_57 : dk C20 57 .caload 1 := by decide +kernel
theorem d20_58 : dk C20 58 (.if_icmp .eq 5) 3 := by decide +kernel
theorem d20_63 : dk C20 63 (.iload_n 2) 1 := by decide +kernel
theorem d20_64 : dk C20 64 (.iconst 3) 1 := by decide +kernel
theorem d20_65 : dk C20 65 (.if_icmp .le 16) 3 := by decide +kernel
theorem d20_68 : dk C20 68 (.aload_n 0) 1 := by decide +kernel
theorem d20_69 : dk C20 69 (.iconst 3) 1 := by decide +kernel
theorem d20_70 : dk C20 70 (.invokevirtual 45) 3 := by decide +kernel
theorem d20_73 : dk C20 73 (.aload_n 1) 1 := by decide +kernel
theorem d20_74 : dk C20 74 (.iconst 3) 1 := by decide +kernel
theorem d20_75 : dk C20 75 .caload 1 := by decide +kernel
theorem d20_76 : dk C20 76 (.if_icmp .eq 5) 3 := by decide +kernel
theorem d20_81 : dk C20 81 (.iload_n 2) 1 := by decide +kernel
theorem d20_82 : dk C20 82 (.iconst 4) 1 := by decide +kernel
theorem d20_83 : dk C20 83 (.if_icmp .le 16) 3 := by decide +kernel
theorem d20_86 : dk C20 86 (.aload_n 0) 1 := by decide +kernel
theorem d20_87 : dk C20 87 (.iconst 4) 1 := by decide +kernel
theorem d20_88 : dk C20 88 (.invokevirtual 45) 3 := by decide +kernel
theorem d20_91 : dk C20 91 (.aload_n 1) 1 := by decide +kernel
theorem d20_92 : dk C20 92 (.iconst 4) 1 := by decide +kernel
theorem d20_93 : dk C20 93 .caload 1 := by decide +kernel
theorem d20_94 : dk C20 94 (.if_icmp .eq 5) 3 := by decide +kernel
theorem d20_99 : dk C20 99 (.iconst 1) 1 := by decide +kernel
theorem d20_100 : dk C20 100 .ireturn 1 := by decide +kernel
def Q_same (Z : State) (r0 : Addr) (r1 : Addr) (ou : List Int32) (ta : Addr) (f : Nat → Int32) (h0 : Heap) (n0 : Nat) (v : Option Value) (h : Heap) (L : List Loc) : Prop := v = some (.int (1 : Int32)) ∧ Fr n0 L ∧ h = h0
theorem rm_same (l : Launch) (Z : State) (a0 : Array Value) (hw : Hw a0 Z) (r0 : Addr) (r1 : Addr) (ou : List Int32) (ta : Addr) (f : Nat → Int32) (h0 : Heap) (n0 : Nat) (Z0 : n0 ≤ h0.size) (hst : own_St Z) (X00 : Old Z n0 h0) (U_r0 : Us Z h0 r0 ta ou) (Y_r1 : Ay Z h0 r1 .char 5 f) (hf : ∀ j, j < ou.length → f j = ou.getD j 0) (hl : ou.length ≤ 5) : Mt l (⟨"org/interpunct/marc/OneLineOfPinLaw", "same", "(Ljava/lang/String;[CI)Z"⟩ : MethodName) C20 3 (some .boolean) ({ frames := 5, cells := 0, slots := 0, locals := 66 } : Room) #[(.ref r0), (.ref r1), (.int (Int32.ofNat ou.length))] Z h0 (Q_same Z r0 r1 ou ta f h0 n0) := by
  have w := own_w hw
  refine own_go (L0 := #[vr r0, vr r1, vi (Int32.ofNat ou.length)]) n0 (plainFor_of_name own_pn40) (fun m => rfl) fun p e s m below meth c s₁ E0 hx b hml hown hnm hret hlk hZ X0 e0 N0 pre0 => ?_
  obtain ⟨_, T1, L1, X1, hQ1, st1⟩ := own_cV X0 hx hml hZ hown (rm_sle l Z a0 hw r0 ta ou h0 n0 Z0 hst X00 U_r0) (w 86 rfl) (w 44 rfl) (w 11 rfl) (w 46 rfl) (w 43 rfl) (w 45 rfl) (own_nfS hZ (w 45 rfl)) (U_r0.exa) e0 (g := (mkF m 1 #[vr r0, vr r1, vi (Int32.ofNat ou.length)] [(.ref r0)])) (argsL := []) (rest := []) (W := 0) (lenOf own_pd26 rfl) (b d20_1)
  obtain ⟨rfl, Nq1, e1⟩ := hQ1
  have N1 := Fr.app N0 Nq1
  have pre2 : Pr p e below s₁ E0 T1 (mkF m 11 #[vr r0, vr r1, vi (Int32.ofNat ou.length)] [(.int (Int32.ofNat ou.length))]) := fun t k => pre0 t (by
    refine XS.aloadN X0.here hx rfl (b d20_0) rfl rfl ?_
    refine st1 _ ?_
    show Sp p e below T1 (mkF m 4 #[vr r0, vr r1, vi (Int32.ofNat ou.length)] [(.int (Int32.ofNat ou.length))]) t
    refine XS.iloadN X1.here hx rfl (b d20_4) rfl ?_
    show Sp p e below T1 (mkF m 5 #[vr r0, vr r1, vi (Int32.ofNat ou.length)] [(.int (Int32.ofNat ou.length)), (.int (Int32.ofNat ou.length))]) t
    refine XS.icmpYes X1.here hx rfl (pc0 := 5) (pc' := 10) rfl (b d20_5) rfl (teq (rfl : (Int32.ofNat ou.length) = (Int32.ofNat ou.length))).1 (by decide) (by decide) ?_
    refine XS.iloadN X1.here hx rfl (b d20_10) rfl ?_
    exact k)
  obtain ⟨T3, LL3, X3, N3, e3, pre3⟩ : ∃ (T : State) (LL : List Loc), Stand p l e ({ frames := 5, cells := 0, slots := 0, locals := 66 } : Room) s m #[(.ref r0), (.ref r1), (.int (Int32.ofNat ou.length))] below meth c T LL (0) (0) ∧ Fr n0 LL ∧ T.heap = h0 ∧ Pr p e below s₁ E0 T (mkF m 27 #[vr r0, vr r1, vi (Int32.ofNat ou.length)] []) := by
    by_cases hc4 : 0 < ou.length
    · obtain ⟨_, T5, L5, X5, hQ5, st5⟩ := own_cV X1 hx hml hZ hown (rm_sca l Z a0 hw r0 0 ta ou h0 n0 Z0 hst X00 U_r0 (by omega)) (w 87 rfl) (w 54 rfl) (w 11 rfl) (w 56 rfl) (w 53 rfl) (w 55 rfl) (own_nfS hZ (w 55 rfl)) (U_r0.exa) e1 (g := (mkF m 16 #[vr r0, vr r1, vi (Int32.ofNat ou.length)] [(.int (0 : Int32)), (.ref r0)])) (argsL := [(.int (0 : Int32))]) (rest := []) (W := 0) (lenOf own_pd29 rfl) (b d20_16)
      obtain ⟨rfl, Nq5, e5⟩ := hQ5
      have N5 := Fr.app N1 Nq5
      obtain ⟨qn6, cl6, Ar6, S6, H6⟩ := id Y_r1
      skip
      exact ⟨T5, _, X5, N5, e5, fun t k => pre2 t (by
        refine XS.ifNo X1.here hx rfl (b d20_11) rfl ((if0 _ _).trans (tlt (own_ltT (a := 0) (b := ou.length) hc4 (by omega))).2.2.2) ?_
        refine XS.aloadN X1.here hx rfl (b d20_14) rfl rfl ?_
        refine XS.iconst X1.here hx rfl (b d20_15) ?_
        refine st5 _ ?_
        show Sp p e below T5 (mkF m 19 #[vr r0, vr r1, vi (Int32.ofNat ou.length)] [(.int (ou.getD 0 0))]) t
        refine XS.aloadN X5.here hx rfl (b d20_19) rfl rfl ?_
        refine XS.iconst X5.here hx rfl (b d20_20) ?_
        refine X5.caload hx (j := (Int32.ofNat 0)) (v := (.int (f 0))) (by rw [e5]; exact Ar6.1) (State.isArrayOf_alike hZ.alike Ar6.2.1) Ar6.2.2 (own_in qn6 S6 (show 0 < 5 by omega)) (own_at qn6 H6 (show 0 < 5 by omega)) (g := (mkF m 21 #[vr r0, vr r1, vi (Int32.ofNat ou.length)] [(.int (0 : Int32)), (.ref r1), (.int (ou.getD 0 0))])) rfl rfl (b d20_21) _ ?_
        show Sp p e below T5 (mkF m 22 #[vr r0, vr r1, vi (Int32.ofNat ou.length)] [(.int (f 0)), (.int (ou.getD 0 0))]) t
        refine XS.icmpYes X5.here hx rfl (pc0 := 22) (pc' := 27) rfl (b d20_22) rfl (teq (hf 0 (by omega)).symm).1 (by decide) (by decide) ?_
        exact k)⟩
    · skip
      exact ⟨T1, _, X1, N1, e1, fun t k => pre2 t (by
        refine XS.ifYes X1.here hx rfl (pc0 := 11) (pc' := 27) rfl (b d20_11) rfl ((if0 _ _).trans (flt (own_ltF (a := 0) (b := ou.length) hc4 (by omega))).2.2.2) (by decide) (by decide) ?_
        exact k)⟩
  have pre8 : Pr p e below s₁ E0 T3 (mkF m 29 #[vr r0, vr r1, vi (Int32.ofNat ou.length)] [(.int (1 : Int32)), (.int (Int32.ofNat ou.length))]) := fun t k => pre3 t (by
    refine XS.iloadN X3.here hx rfl (b d20_27) rfl ?_
    refine XS.iconst X3.here hx rfl (b d20_28) ?_
    exact k)
  obtain ⟨T9, LL9, X9, N9, e9, pre9⟩ : ∃ (T : State) (LL : List Loc), Stand p l e ({ frames := 5, cells := 0, slots := 0, locals := 66 } : Room) s m #[(.ref r0), (.ref r1), (.int (Int32.ofNat ou.length))] below meth c T LL (0) (0) ∧ Fr n0 LL ∧ T.heap = h0 ∧ Pr p e below s₁ E0 T (mkF m 45 #[vr r0, vr r1, vi (Int32.ofNat ou.length)] []) := by
    by_cases hc10 : 1 < ou.length
    · obtain ⟨_, T11, L11, X11, hQ11, st11⟩ := own_cV X3 hx hml hZ hown (rm_sca l Z a0 hw r0 1 ta ou h0 n0 Z0 hst X00 U_r0 (by omega)) (w 87 rfl) (w 54 rfl) (w 11 rfl) (w 56 rfl) (w 53 rfl) (w 55 rfl) (own_nfS hZ (w 55 rfl)) (U_r0.exa) e3 (g := (mkF m 34 #[vr r0, vr r1, vi (Int32.ofNat ou.length)] [(.int (1 : Int32)), (.ref r0)])) (argsL := [(.int (1 : Int32))]) (rest := []) (W := 0) (lenOf own_pd29 rfl) (b d20_34)
      obtain ⟨rfl, Nq11, e11⟩ := hQ11
      have N11 := Fr.app N3 Nq11
      obtain ⟨qn12, cl12, Ar12, S12, H12⟩ := id Y_r1
      skip
      exact ⟨T11, _, X11, N11, e11, fun t k => pre8 t (by
        refine XS.icmpNo X3.here hx rfl (b d20_29) rfl (tlt (own_ltT (a := 1) (b := ou.length) hc10 (by omega))).2.2.2 ?_
        refine XS.aloadN X3.here hx rfl (b d20_32) rfl rfl ?_
        refine XS.iconst X3.here hx rfl (b d20_33) ?_
        refine st11 _ ?_
        show Sp p e below T11 (mkF m 37 #[vr r0, vr r1, vi (Int32.ofNat ou.length)] [(.int (ou.getD 1 0))]) t
        refine XS.aloadN X11.here hx rfl (b d20_37) rfl rfl ?_
        refine XS.iconst X11.here hx rfl (b d20_38) ?_
        refine X11.caload hx (j := (Int32.ofNat 1)) (v := (.int (f 1))) (by rw [e11]; exact Ar12.1) (State.isArrayOf_alike hZ.alike Ar12.2.1) Ar12.2.2 (own_in qn12 S12 (show 1 < 5 by omega)) (own_at qn12 H12 (show 1 < 5 by omega)) (g := (mkF m 39 #[vr r0, vr r1, vi (Int32.ofNat ou.length)] [(.int (1 : Int32)), (.ref r1), (.int (ou.getD 1 0))])) rfl rfl (b d20_39) _ ?_
        show Sp p e below T11 (mkF m 40 #[vr r0, vr r1, vi (Int32.ofNat ou.length)] [(.int (f 1)), (.int (ou.getD 1 0))]) t
        refine XS.icmpYes X11.here hx rfl (pc0 := 40) (pc' := 45) rfl (b d20_40) rfl (teq (hf 1 (by omega)).symm).1 (by decide) (by decide) ?_
        exact k)⟩
    · skip
      exact ⟨T3, _, X3, N3, e3, fun t k => pre8 t (by
        refine XS.icmpYes X3.here hx rfl (pc0 := 29) (pc' := 45) rfl (b d20_29) rfl (flt (own_ltF (a := 1) (b := ou.length) hc10 (by omega))).2.2.2 (by decide) (by decide) ?_
        exact k)⟩
  have pre14 : Pr p e below s₁ E0 T9 (mkF m 47 #[vr r0, vr r1, vi (Int32.ofNat ou.length)] [(.int (2 : Int32)), (.int (Int32.ofNat ou.length))]) := fun t k => pre9 t (by
    refine XS.iloadN X9.here hx rfl (b d20_45) rfl ?_
    refine XS.iconst X9.here hx rfl (b d20_46) ?_
    exact k)
  obtain ⟨T15, LL15, X15, N15, e15, pre15⟩ : ∃ (T : State) (LL : List Loc), Stand p l e ({ frames := 5, cells := 0, slots := 0, locals := 66 } : Room) s m #[(.ref r0), (.ref r1), (.int (Int32.ofNat ou.length))] below meth c T LL (0) (0) ∧ Fr n0 LL ∧ T.heap = h0 ∧ Pr p e below s₁ E0 T (mkF m 63 #[vr r0, vr r1, vi (Int32.ofNat ou.length)] []) := by
    by_cases hc16 : 2 < ou.length
    · obtain ⟨_, T17, L17, X17, hQ17, st17⟩ := own_cV X9 hx hml hZ hown (rm_sca l Z a0 hw r0 2 ta ou h0 n0 Z0 hst X00 U_r0 (by omega)) (w 87 rfl) (w 54 rfl) (w 11 rfl) (w 56 rfl) (w 53 rfl) (w 55 rfl) (own_nfS hZ (w 55 rfl)) (U_r0.exa) e9 (g := (mkF m 52 #[vr r0, vr r1, vi (Int32.ofNat ou.length)] [(.int (2 : Int32)), (.ref r0)])) (argsL := [(.int (2 : Int32))]) (rest := []) (W := 0) (lenOf own_pd29 rfl) (b d20_52)
      obtain ⟨rfl, Nq17, e17⟩ := hQ17
      have N17 := Fr.app N9 Nq17
      obtain ⟨qn18, cl18, Ar18, S18, H18⟩ := id Y_r1
      skip
      exact ⟨T17, _, X17, N17, e17, fun t k => pre14 t (by
        refine XS.icmpNo X9.here hx rfl (b d20_47) rfl (tlt (own_ltT (a := 2) (b := ou.length) hc16 (by omega))).2.2.2 ?_
        refine XS.aloadN X9.here hx rfl (b d20_50) rfl rfl ?_
        refine XS.iconst X9.here hx rfl (b d20_51) ?_
        refine st17 _ ?_
        show Sp p e below T17 (mkF m 55 #[vr r0, vr r1, vi (Int32.ofNat ou.length)] [(.int (ou.getD 2 0))]) t
        refine XS.aloadN X17.here hx rfl (b d20_55) rfl rfl ?_
        refine XS.iconst X17.here hx rfl (b d20_56) ?_
        refine X17.caload hx (j := (Int32.ofNat 2)) (v := (.int (f 2))) (by rw [e17]; exact Ar18.1) (State.isArrayOf_alike hZ.alike Ar18.2.1) Ar18.2.2 (own_in qn18 S18 (show 2 < 5 by omega)) (own_at qn18 H18 (show 2 < 5 by omega)) (g := (mkF m 57 #[vr r0, vr r1, vi (Int32.ofNat ou.length)] [(.int (2 : Int32)), (.ref r1), (.int (ou.getD 2 0))])) rfl rfl (b d20_57) _ ?_
        show Sp p e below T17 (mkF m 58 #[vr r0, vr r1, vi (Int32.ofNat ou.length)] [(.int (f 2)), (.int (ou.getD 2 0))]) t
        refine XS.icmpYes X17.here hx rfl (pc0 := 58) (pc' := 63) rfl (b d20_58) rfl (teq (hf 2 (by omega)).symm).1 (by decide) (by decide) ?_
        exact k)⟩
    · skip
      exact ⟨T9, _, X9, N9, e9, fun t k => pre14 t (by
        refine XS.icmpYes X9.here hx rfl (pc0 := 47) (pc' := 63) rfl (b d20_47) rfl (flt (own_ltF (a := 2) (b := ou.length) hc16 (by omega))).2.2.2 (by decide) (by decide) ?_
        exact k)⟩
  have pre20 : Pr p e below s₁ E0 T15 (mkF m 65 #[vr r0, vr r1, vi (Int32.ofNat ou.length)] [(.int (3 : Int32)), (.int (Int32.ofNat ou.length))]) := fun t k => pre15 t (by
    refine XS.iloadN X15.here hx rfl (b d20_63) rfl ?_
    refine XS.iconst X15.here hx rfl (b d20_64) ?_
    exact k)
  obtain ⟨T21, LL21, X21, N21, e21, pre21⟩ : ∃ (T : State) (LL : List Loc), Stand p l e ({ frames := 5, cells := 0, slots := 0, locals := 66 } : Room) s m #[(.ref r0), (.ref r1), (.int (Int32.ofNat ou.length))] below meth c T LL (0) (0) ∧ Fr n0 LL ∧ T.heap = h0 ∧ Pr p e below s₁ E0 T (mkF m 81 #[vr r0, vr r1, vi (Int32.ofNat ou.length)] []) := by
    by_cases hc22 : 3 < ou.length
    · obtain ⟨_, T23, L23, X23, hQ23, st23⟩ := own_cV X15 hx hml hZ hown (rm_sca l Z a0 hw r0 3 ta ou h0 n0 Z0 hst X00 U_r0 (by omega)) (w 87 rfl) (w 54 rfl) (w 11 rfl) (w 56 rfl) (w 53 rfl) (w 55 rfl) (own_nfS hZ (w 55 rfl)) (U_r0.exa) e15 (g := (mkF m 70 #[vr r0, vr r1, vi (Int32.ofNat ou.length)] [(.int (3 : Int32)), (.ref r0)])) (argsL := [(.int (3 : Int32))]) (rest := []) (W := 0) (lenOf own_pd29 rfl) (b d20_70)
      obtain ⟨rfl, Nq23, e23⟩ := hQ23
      have N23 := Fr.app N15 Nq23
      obtain ⟨qn24, cl24, Ar24, S24, H24⟩ := id Y_r1
      skip
      exact ⟨T23, _, X23, N23, e23, fun t k => pre20 t (by
        refine XS.icmpNo X15.here hx rfl (b d20_65) rfl (tlt (own_ltT (a := 3) (b := ou.length) hc22 (by omega))).2.2.2 ?_
        refine XS.aloadN X15.here hx rfl (b d20_68) rfl rfl ?_
        refine XS.iconst X15.here hx rfl (b d20_69) ?_
        refine st23 _ ?_
        show Sp p e below T23 (mkF m 73 #[vr r0, vr r1, vi (Int32.ofNat ou.length)] [(.int (ou.getD 3 0))]) t
        refine XS.aloadN X23.here hx rfl (b d20_73) rfl rfl ?_
        refine XS.iconst X23.here hx rfl (b d20_74) ?_
        refine X23.caload hx (j := (Int32.ofNat 3)) (v := (.int (f 3))) (by rw [e23]; exact Ar24.1) (State.isArrayOf_alike hZ.alike Ar24.2.1) Ar24.2.2 (own_in qn24 S24 (show 3 < 5 by omega)) (own_at qn24 H24 (show 3 < 5 by omega)) (g := (mkF m 75 #[vr r0, vr r1, vi (Int32.ofNat ou.length)] [(.int (3 : Int32)), (.ref r1), (.int (ou.getD 3 0))])) rfl rfl (b d20_75) _ ?_
        show Sp p e below T23 (mkF m 76 #[vr r0, vr r1, vi (Int32.ofNat ou.length)] [(.int (f 3)), (.int (ou.getD 3 0))]) t
        refine XS.icmpYes X23.here hx rfl (pc0 := 76) (pc' := 81) rfl (b d20_76) rfl (teq (hf 3 (by omega)).symm).1 (by decide) (by decide) ?_
        exact k)⟩
    · skip
      exact ⟨T15, _, X15, N15, e15, fun t k => pre20 t (by
        refine XS.icmpYes X15.here hx rfl (pc0 := 65) (pc' := 81) rfl (b d20_65) rfl (flt (own_ltF (a := 3) (b := ou.length) hc22 (by omega))).2.2.2 (by decide) (by decide) ?_
        exact k)⟩
  have pre26 : Pr p e below s₁ E0 T21 (mkF m 83 #[vr r0, vr r1, vi (Int32.ofNat ou.length)] [(.int (4 : Int32)), (.int (Int32.ofNat ou.length))]) := fun t k => pre21 t (by
    refine XS.iloadN X21.here hx rfl (b d20_81) rfl ?_
    refine XS.iconst X21.here hx rfl (b d20_82) ?_
    exact k)
  obtain ⟨T27, LL27, X27, N27, e27, pre27⟩ : ∃ (T : State) (LL : List Loc), Stand p l e ({ frames := 5, cells := 0, slots := 0, locals := 66 } : Room) s m #[(.ref r0), (.ref r1), (.int (Int32.ofNat ou.length))] below meth c T LL (0) (0) ∧ Fr n0 LL ∧ T.heap = h0 ∧ Pr p e below s₁ E0 T (mkF m 99 #[vr r0, vr r1, vi (Int32.ofNat ou.length)] []) := by
    by_cases hc28 : 4 < ou.length
    · obtain ⟨_, T29, L29, X29, hQ29, st29⟩ := own_cV X21 hx hml hZ hown (rm_sca l Z a0 hw r0 4 ta ou h0 n0 Z0 hst X00 U_r0 (by omega)) (w 87 rfl) (w 54 rfl) (w 11 rfl) (w 56 rfl) (w 53 rfl) (w 55 rfl) (own_nfS hZ (w 55 rfl)) (U_r0.exa) e21 (g := (mkF m 88 #[vr r0, vr r1, vi (Int32.ofNat ou.length)] [(.int (4 : Int32)), (.ref r0)])) (argsL := [(.int (4 : Int32))]) (rest := []) (W := 0) (lenOf own_pd29 rfl) (b d20_88)
      obtain ⟨rfl, Nq29, e29⟩ := hQ29
      have N29 := Fr.app N21 Nq29
      obtain ⟨qn30, cl30, Ar30, S30, H30⟩ := id Y_r1
      skip
      exact ⟨T29, _, X29, N29, e29, fun t k => pre26 t (by
        refine XS.icmpNo X21.here hx rfl (b d20_83) rfl (tlt (own_ltT (a := 4) (b := ou.length) hc28 (by omega))).2.2.2 ?_
        refine XS.aloadN X21.here hx rfl (b d20_86) rfl rfl ?_
        refine XS.iconst X21.here hx rfl (b d20_87) ?_
        refine st29 _ ?_
        show Sp p e below T29 (mkF m 91 #[vr r0, vr r1, vi (Int32.ofNat ou.length)] [(.int (ou.getD 4 0))]) t
        refine XS.aloadN X29.here hx rfl (b d20_91) rfl rfl ?_
        refine XS.iconst X29.here hx rfl (b d20_92) ?_
        refine X29.caload hx (j := (Int32.ofNat 4)) (v := (.int (f 4))) (by rw [e29]; exact Ar30.1) (State.isArrayOf_alike hZ.alike Ar30.2.1) Ar30.2.2 (own_in qn30 S30 (show 4 < 5 by omega)) (own_at qn30 H30 (show 4 < 5 by omega)) (g := (mkF m 93 #[vr r0, vr r1, vi (Int32.ofNat ou.length)] [(.int (4 : Int32)), (.ref r1), (.int (ou.getD 4 0))])) rfl rfl (b d20_93) _ ?_
        show Sp p e below T29 (mkF m 94 #[vr r0, vr r1, vi (Int32.ofNat ou.length)] [(.int (f 4)), (.int (ou.getD 4 0))]) t
        refine XS.icmpYes X29.here hx rfl (pc0 := 94) (pc' := 99) rfl (b d20_94) rfl (teq (hf 4 (by omega)).symm).1 (by decide) (by decide) ?_
        exact k)⟩
    · skip
      exact ⟨T21, _, X21, N21, e21, fun t k => pre26 t (by
        refine XS.icmpYes X21.here hx rfl (pc0 := 83) (pc' := 99) rfl (b d20_83) rfl (flt (own_ltF (a := 4) (b := ou.length) hc28 (by omega))).2.2.2 (by decide) (by decide) ?_
        exact k)⟩
  have pre32 : Pr p e below s₁ E0 T27 (mkF m 100 #[vr r0, vr r1, vi (Int32.ofNat ou.length)] [(.int (1 : Int32))]) := fun t k => pre27 t (by
    refine XS.iconst X27.here hx rfl (b d20_99) ?_
    exact k)
  exact own_end X27 hlk (v := some (.int (1 : Int32))) (own_hv hret) pre32 (fun fs hr => retN X27 hx (t := .boolean) hret (by simp) (b d20_100) hr) (by rw [e27]; exact ⟨rfl, N27, rfl⟩)
abbrev C9 := prog_5_method_2_code
theorem d9_0 : dk C9 0 (.iconst 0) 1 := by decide +kernel
theorem d9_1 : dk C9 1 (.istore_n 1) 1 := by decide +kernel
theorem d9_2 : dk C9 2 (.iload_n 1) 1 := by decide +kernel
theorem d9_3 : dk C9 3 (.aload_n 0) 1 := by decide +kernel
theorem d9_4 : dk C9 4 (.invokevirtual 7) 3 := by decide +kernel
theorem d9_7 : dk C9 7 (.if_icmp .ge 20) 3 := by decide +kernel
theorem d9_10 : dk C9 10 (.aload_n 0) 1 := by decide +kernel
theorem d9_11 : dk C9 11 (.iload_n 1) 1 := by decide +kernel
theorem d9_12 : dk C9 12 (.invokevirtual 13) 3 := by decide +kernel
theorem d9_15 : dk C9 15 (.invokestatic 17) 3 := by decide +kernel
theorem d9_18 : dk C9 18 (.ifCond .ne 9) 3 := by decide +kernel
theorem d9_21 : dk C9 21 (.iinc 1 1) 3 := by decide +kernel
theorem d9_24 : dk C9 24 (.goto (-22)) 3 := by decide +kernel
theorem d9_27 : dk C9 27 (.iload_n 1) 1 := by decide +kernel
theorem d9_28 : dk C9 28 (.aload_n 0) 1 := by decide +kernel
theorem d9_29 : dk C9 29 (.invokevirtual 7) 3 := by decide +kernel
theorem d9_32 : dk C9 32 (.if_icmp .ne 5) 3 := by decide +kernel
theorem d9_37 : dk C9 37 (.new 23) 3 := by decide +kernel
theorem d9_40 : dk C9 40 .dup 1 := by decide +kernel
theorem d9_41 : dk C9 41 (.aload_n 0) 1 := by decide +kernel
theorem d9_42 : dk C9 42 (.invokevirtual 7) 3 := by decide +kernel
theorem d9_45 : dk C9 45 (.invokespecial 25) 3 := by decide +kernel
theorem d9_48 : dk C9 48 (.aload_n 0) 1 := by decide +kernel
theorem d9_49 : dk C9 49 (.iconst 0) 1 := by decide +kernel
theorem d9_50 : dk C9 50 (.iload_n 1) 1 := by decide +kernel
theorem d9_51 : dk C9 51 (.invokevirtual 28) 3 := by decide +kernel
theorem own_pd41 : parseMethodDescriptor "(Ljava/lang/CharSequence;II)Ljava/lang/StringBuilder;" = some ⟨[(.object "java/lang/CharSequence"), .int, .int], some (.object "java/lang/StringBuilder")⟩ := by decide +kernel
theorem d9_54 : dk C9 54 (.astore_n 2) 1 := by decide +kernel
theorem d9_55 : dk C9 55 (.iload_n 1) 1 := by decide +kernel
theorem d9_56 : dk C9 56 (.aload_n 0) 1 := by decide +kernel
theorem d9_57 : dk C9 57 (.invokevirtual 7) 3 := by decide +kernel
theorem d9_60 : dk C9 60 (.if_icmp .ge 110) 3 := by decide +kernel
theorem d9_63 : dk C9 63 (.aload_n 0) 1 := by decide +kernel
theorem d9_64 : dk C9 64 (.iload_n 1) 1 := by decide +kernel
theorem d9_65 : dk C9 65 (.invokevirtual 13) 3 := by decide +kernel
theorem d9_68 : dk C9 68 (.invokestatic 17) 3 := by decide +kernel
theorem d9_71 : dk C9 71 (.ifCond .eq 83) 3 := by decide +kernel
theorem d9_154 : dk C9 154 (.aload_n 2) 1 := by decide +kernel
theorem d9_155 : dk C9 155 (.aload_n 0) 1 := by decide +kernel
theorem d9_156 : dk C9 156 (.iload_n 1) 1 := by decide +kernel
theorem d9_157 : dk C9 157 (.invokevirtual 13) 3 := by decide +kernel
theorem d9_160 : dk C9 160 (.invokevirtual 37) 3 := by decide +kernel
theorem own_pd42 : parseMethodDescriptor "(C)Ljava/lang/StringBuilder;" = some ⟨[.char], some (.object "java/lang/StringBuilder")⟩ := by decide +kernel
theorem d9_163 : dk C9 163 .pop 1 := by decide +kernel
theorem d9_164 : dk C9 164 (.iinc 1 1) 3 := by decide +kernel
theorem d9_167 : dk C9 167 (.goto (-112)) 3 := by decide +kernel
theorem d9_74 : dk C9 74 (.aload_n 2) 1 := by decide +kernel
theorem d9_75 : dk C9 75 (.invokevirtual 32) 3 := by decide +kernel
theorem d9_78 : dk C9 78 (.ifCond .le 31) 3 := by decide +kernel
theorem d9_81 : dk C9 81 (.aload_n 2) 1 := by decide +kernel
theorem d9_82 : dk C9 82 (.aload_n 2) 1 := by decide +kernel
theorem d9_83 : dk C9 83 (.invokevirtual 32) 3 := by decide +kernel
theorem d9_86 : dk C9 86 (.iconst 1) 1 := by decide +kernel
theorem d9_87 : dk C9 87 .isub 1 := by decide +kernel
theorem d9_88 : dk C9 88 (.invokevirtual 33) 3 := by decide +kernel
theorem d9_91 : dk C9 91 (.bipush 32) 2 := by decide +kernel
theorem d9_93 : dk C9 93 (.if_icmp .ne 16) 3 := by decide +kernel
theorem d9_96 : dk C9 96 (.aload_n 2) 1 := by decide +kernel
theorem d9_97 : dk C9 97 (.aload_n 2) 1 := by decide +kernel
theorem d9_98 : dk C9 98 (.invokevirtual 32) 3 := by decide +kernel
theorem d9_101 : dk C9 101 (.iconst 1) 1 := by decide +kernel
theorem d9_102 : dk C9 102 .isub 1 := by decide +kernel
theorem d9_103 : dk C9 103 (.invokevirtual 34) 3 := by decide +kernel
theorem d9_106 : dk C9 106 (.goto (-32)) 3 := by decide +kernel
theorem d9_109 : dk C9 109 (.iload_n 1) 1 := by decide +kernel
theorem d9_110 : dk C9 110 (.aload_n 0) 1 := by decide +kernel
theorem d9_111 : dk C9 111 (.invokevirtual 7) 3 := by decide +kernel
theorem d9_114 : dk C9 114 (.if_icmp .ge 30) 3 := by decide +kernel
theorem d9_117 : dk C9 117 (.aload_n 0) 1 := by decide +kernel
theorem d9_118 : dk C9 118 (.iload_n 1) 1 := by decide +kernel
theorem d9_119 : dk C9 119 (.invokevirtual 13) 3 := by decide +kernel
theorem d9_122 : dk C9 122 (.bipush 32) 2 := by decide +kernel
theorem d9_124 : dk C9 124 (.if_icmp .eq 14) 3 := by decide +kernel
theorem d9_138 : dk C9 138 (.iinc 1 1) 3 := by decide +kernel
theorem d9_141 : dk C9 141 (.goto (-32)) 3 := by decide +kernel
theorem d9_127 : dk C9 127 (.aload_n 0) 1 := by decide +kernel
theorem d9_128 : dk C9 128 (.iload_n 1) 1 := by decide +kernel
theorem d9_129 : dk C9 129 (.invokevirtual 13) 3 := by decide +kernel
theorem d9_132 : dk C9 132 (.invokestatic 17) 3 := by decide +kernel
theorem d9_135 : dk C9 135 (.ifCond .eq 9) 3 := by decide +kernel
theorem d9_144 : dk C9 144 (.aload_n 2) 1 := by decide +kernel
theorem d9_145 : dk C9 145 (.bipush 32) 2 := by decide +kernel
theorem d9_147 : dk C9 147 (.invokevirtual 37) 3 := by decide +kernel
theorem d9_150 : dk C9 150 .pop 1 := by decide +kernel
theorem d9_151 : dk C9 151 (.goto (-96)) 3 := by decide +kernel
theorem d9_170 : dk C9 170 (.aload_n 2) 1 := by decide +kernel
theorem d9_171 : dk C9 171 (.invokevirtual 40) 3 := by decide +kernel
theorem own_pd43 : parseMethodDescriptor "()Ljava/lang/String;" = some ⟨[], some (.object "java/lang/String")⟩ := by decide +kernel
theorem d9_174 : dk C9 174 .areturn 1 := by decide +kernel
theorem d9_35 : dk C9 35 (.aload_n 0) 1 := by decide +kernel
theorem d9_36 : dk C9 36 .areturn 1 := by decide +kernel
def Q_of (Z : State) (r0 : Addr) (ta : Addr) (li : List Int32) (h0 : Heap) (n0 : Nat) (v : Option Value) (h : Heap) (L : List Loc) : Prop := ∃ a t, v = some (.ref a) ∧ Fr n0 L ∧ Keep h0 h [] ∧ Us Z h a t (own_of li)
theorem rm_of (l : Launch) (Z : State) (a0 : Array Value) (hw : Hw a0 Z) (r0 : Addr) (ta : Addr) (li : List Int32) (h0 : Heap) (n0 : Nat) (Z0 : n0 ≤ h0.size) (hst : own_St Z) (X00 : Old Z n0 h0) (U_r0 : Us Z h0 r0 ta li) : Mt l (⟨"org/interpunct/marc/OneLine", "of", "(Ljava/lang/String;)Ljava/lang/String;"⟩ : MethodName) C9 3 (some (.object "java/lang/String")) ({ frames := 9, cells := 11, slots := 88, locals := 139 } : Room) #[(.ref r0)] Z h0 (Q_of Z r0 ta li h0 n0) := by
  have w := own_w hw
  refine own_go (L0 := #[vr r0, vu, vu]) n0 (plainFor_of_name own_pn39) (fun m => rfl) fun p e s m below meth c s₁ E0 hx b hml hown hnm hret hlk hZ X0 e0 N0 pre0 => ?_
  have K0 : Keep h0 h0 [] := Keep.refl h0 _
  have h5 := U_r0.five
  have pre1 : Pr p e below s₁ E0 s₁ (mkF m 2 #[vr r0, vi (0 : Int32), vu] []) := fun t k => pre0 t (by
    refine XS.iconst X0.here hx rfl (b d9_0) ?_
    refine XS.istoreN X0.here hx rfl (b d9_1) rfl (l' := #[vr r0, vi (0 : Int32), vu]) rfl ?_
    exact k)
  refine own_loop (fun k => ∃ (ia : Nat) (T2 : State) (LL2 : List Loc) (H2 : Heap), li.length - ia = k ∧ (ia ≤ li.length) ∧ (own_run own_br own_sp (32 : Int32) (li.length - ia) (li.drop ia) (li.take ia) = own_of li) ∧ Stand p l e ({ frames := 9, cells := 11, slots := 88, locals := 139 } : Room) s m #[(.ref r0)] below meth c T2 LL2 (0) (0) ∧ Fr n0 LL2 ∧ T2.heap = H2 ∧ n0 ≤ H2.size ∧ Keep h0 H2 [] ∧ (Us Z H2 r0 ta li) ∧ (Old Z n0 H2) ∧ Pr p e below s₁ E0 T2 (mkF m 2 #[vr r0, vi (Int32.ofNat ia), vu] [])) ?_ _ ⟨0, s₁, _, h0, rfl, (by omega), rfl, X0, N0, e0, Z0, K0, U_r0, X00, pre1⟩
  rintro k2 ⟨ia, T2, LL2, H2, hm2, hia, hRA, X2, N2, e2, Z2, K2, lf2_0, lf2_1, pre2⟩ ih2
  obtain ⟨_, T3, L3, X3, hQ3, st3⟩ := own_cV X2 hx hml hZ hown (rm_sle l Z a0 hw r0 ta li H2 n0 Z2 hst lf2_1 lf2_0) (w 42 rfl) (w 44 rfl) (w 11 rfl) (w 46 rfl) (w 43 rfl) (w 45 rfl) (own_nfS hZ (w 45 rfl)) (lf2_0.exa) e2 (g := (mkF m 4 #[vr r0, vi (Int32.ofNat ia), vu] [(.ref r0), (.int (Int32.ofNat ia))])) (argsL := []) (rest := [(.int (Int32.ofNat ia))]) (W := 1) (lenOf own_pd26 rfl) (b d9_4)
  obtain ⟨rfl, Nq3, e3⟩ := hQ3
  have N3 := Fr.app N2 Nq3
  have pre5 : Pr p e below s₁ E0 T3 (mkF m 7 #[vr r0, vi (Int32.ofNat ia), vu] [(.int (Int32.ofNat li.length)), (.int (Int32.ofNat ia))]) := fun t k => pre2 t (by
    refine XS.iloadN X2.here hx rfl (b d9_2) rfl ?_
    refine XS.aloadN X2.here hx rfl (b d9_3) rfl rfl ?_
    refine st3 _ ?_
    exact k)
  by_cases hc4 : ia < li.length
  · obtain ⟨_, T6, L6, X6, hQ6, st6⟩ := own_cV X3 hx hml hZ hown (rm_sca l Z a0 hw r0 ia ta li H2 n0 Z2 hst lf2_1 lf2_0 (by omega)) (w 52 rfl) (w 54 rfl) (w 11 rfl) (w 56 rfl) (w 53 rfl) (w 55 rfl) (own_nfS hZ (w 55 rfl)) (lf2_0.exa) e3 (g := (mkF m 12 #[vr r0, vi (Int32.ofNat ia), vu] [(.int (Int32.ofNat ia)), (.ref r0)])) (argsL := [(.int (Int32.ofNat ia))]) (rest := []) (W := 0) (lenOf own_pd29 rfl) (b d9_12)
    obtain ⟨rfl, Nq6, e6⟩ := hQ6
    have N6 := Fr.app N3 Nq6
    obtain ⟨_, T7, L7, X7, hQ7, st7⟩ := own_cS X6 hx hml hZ hown (rm_lb l Z a0 hw (li.getD ia 0) H2 n0 Z2) (w 74 rfl) (w 75 rfl) (w 40 rfl) (w 76 rfl) e6 (g := (mkF m 15 #[vr r0, vi (Int32.ofNat ia), vu] [(.int (li.getD ia 0))])) (argsL := [(.int (li.getD ia 0))]) (rest := []) (W := 0) (lenOf own_pd30 rfl) (b d9_15)
    obtain ⟨rfl, Nq7, e7⟩ := hQ7
    have N7 := Fr.app N6 Nq7
    have pre9 : Pr p e below s₁ E0 T7 (mkF m 18 #[vr r0, vi (Int32.ofNat ia), vu] [(.int (fn_lb (li.getD ia 0)))]) := fun t k => pre5 t (by
      refine XS.icmpNo X3.here hx rfl (b d9_7) rfl (tlt (own_ltT (a := ia) (b := li.length) hc4 (by omega))).2.1 ?_
      refine XS.aloadN X3.here hx rfl (b d9_10) rfl rfl ?_
      refine XS.iloadN X3.here hx rfl (b d9_11) rfl ?_
      refine st6 _ ?_
      show Sp p e below T6 (mkF m 15 #[vr r0, vi (Int32.ofNat ia), vu] [(.int (li.getD ia 0))]) t
      refine st7 _ ?_
      exact k)
    by_cases hc8 : (fn_lb (li.getD ia 0)) = (0 : Int32)
    · have pre10 : Pr p e below s₁ E0 T7 (mkF m 2 #[vr r0, vi (Int32.ofNat (ia + 1)), vu] []) := fun t k => pre9 t (by
        refine XS.ifNo X7.here hx rfl (b d9_18) rfl ((if0 _ _).trans (teq hc8).2) ?_
        refine XS.iinc X7.here hx rfl (b d9_21) rfl (l' := #[vr r0, vi ((Int32.ofNat ia) + (1 : Int32)), vu]) rfl ?_
        show Sp p e below T7 (mkF m 24 #[vr r0, vi ((Int32.ofNat ia) + (1 : Int32)), vu] []) t
        rw [own_a1 ia]
        show Sp p e below T7 (mkF m 24 #[vr r0, vi (Int32.ofNat (ia + 1)), vu] []) t
        refine XS.goto X7.here hx rfl (pc0 := 24) (pc' := 2) rfl (b d9_24) (by decide) (by decide) ?_
        exact k)
      exact ih2 (li.length - (ia + 1)) (by omega) ⟨(ia + 1), T7, _, H2, rfl, (by omega), (own_rA (by omega) hc8 hRA), X7, N7, e7, Z2, K2, lf2_0, lf2_1, pre10⟩
    · obtain ⟨_, T11, L11, X11, hQ11, st11⟩ := own_cV X7 hx hml hZ hown (rm_sle l Z a0 hw r0 ta li H2 n0 Z2 hst lf2_1 lf2_0) (w 42 rfl) (w 44 rfl) (w 11 rfl) (w 46 rfl) (w 43 rfl) (w 45 rfl) (own_nfS hZ (w 45 rfl)) (lf2_0.exa) e7 (g := (mkF m 29 #[vr r0, vi (Int32.ofNat ia), vu] [(.ref r0), (.int (Int32.ofNat ia))])) (argsL := []) (rest := [(.int (Int32.ofNat ia))]) (W := 1) (lenOf own_pd26 rfl) (b d9_29)
      obtain ⟨rfl, Nq11, e11⟩ := hQ11
      have N11 := Fr.app N7 Nq11
      obtain ⟨T12, h12, X12, e12, E12, A12, D12, -, st12⟩ := newO X11 hx hZ hown (w 88 rfl) (w 89 rfl) (w 90 rfl) e11 (g := (mkF m 37 #[vr r0, vi (Int32.ofNat ia), vu] [])) rfl (b d9_37) (by decide) (by decide)
      obtain ⟨b12, g12⟩ : ∃ z, z = H2.size := ⟨_, rfl⟩
      rw [← g12] at A12 D12 st12
      have ne_r0_b12 : r0 ≠ b12 := Nat.ne_of_lt (Nat.lt_of_lt_of_le lf2_0.lt (Nat.le_of_eq g12.symm))
      have ne_ta_b12 : ta ≠ b12 := Nat.ne_of_lt (Nat.lt_of_lt_of_le lf2_0.ltt (Nat.le_of_eq g12.symm))
      have g_b12 : n0 ≤ b12 := Nat.le_trans Z2 (Nat.le_of_eq g12.symm)
      have sz_b12 : h0.size ≤ b12 := Nat.le_trans K2.1 (Nat.le_of_eq g12.symm)
      have od13 := lf2_1.ext E12
      have u14_1 := lf2_0.ext E12
      have Z12 : n0 ≤ h12.size := Nat.le_trans Z2 E12.1
      have K12 := K2.ext E12
      have F_value_b12 : Fld Z h12 b12 "java/lang/AbstractStringBuilder" "value" "[B" .null := D12 (Or.inl (w 103 rfl)) (ty := (.array .byte)) (by decide)
      have F_coder_b12 : Fld Z h12 b12 "java/lang/AbstractStringBuilder" "coder" "B" (.int (0 : Int32)) := D12 (Or.inl (w 105 rfl)) (ty := .byte) (by decide)
      have F_count_b12 : Fld Z h12 b12 "java/lang/AbstractStringBuilder" "count" "I" (.int (0 : Int32)) := D12 (Or.inl (w 129 rfl)) (ty := .int) (by decide)
      have F_maybeLatin1_b12 : Fld Z h12 b12 "java/lang/AbstractStringBuilder" "maybeLatin1" "Z" (.int (0 : Int32)) := D12 (Or.inl (w 283 rfl)) (ty := .boolean) (by decide)
      obtain ⟨_, T15, L15, X15, hQ15, st15⟩ := own_cV X12 hx hml hZ hown (rm_sle l Z a0 hw r0 ta li h12 n0 Z12 hst od13 u14_1) (w 42 rfl) (w 44 rfl) (w 11 rfl) (w 46 rfl) (w 43 rfl) (w 45 rfl) (own_nfS hZ (w 45 rfl)) (u14_1.exa) e12 (g := (mkF m 42 #[vr r0, vi (Int32.ofNat ia), vu] [(.ref r0), (.ref b12), (.ref b12)])) (argsL := []) (rest := [(.ref b12), (.ref b12)]) (W := 2) (lenOf own_pd26 rfl) (b d9_42)
      obtain ⟨rfl, Nq15, e15⟩ := hQ15
      have N15 := Fr.app N11 Nq15
      obtain ⟨_, T16, L16, X16, hQ16, st16⟩ := own_cN X15 hx hml hZ hown (rm_sbi l Z a0 hw b12 li.length h12 n0 Z12 hst od13 A12 g_b12 F_value_b12 F_coder_b12 F_count_b12 F_maybeLatin1_b12 (by omega)) (w 91 rfl) (w 92 rfl) (w 90 rfl) (w 93 rfl) rfl e15 (g := (mkF m 45 #[vr r0, vi (Int32.ofNat ia), vu] [(.int (Int32.ofNat li.length)), (.ref b12), (.ref b12)])) (argsL := [(.int (Int32.ofNat li.length))]) (rest := [(.ref b12)]) (W := 1) (lenOf own_pd28 rfl) (b d9_45)
      obtain ⟨rfl, Nq16, Kq16, t16, szq16, Eq16, Fq16c, Fq16v, Fq16k, Fq16m, Yq16, Exq16⟩ := hQ16
      have N16 := Fr.app N15 Nq16
      have od17 := od13.keep Kq16 (allS g_b12 all0)
      have f17_1 := A12.keep Kq16
      have u18_1 := u14_1.keep Kq16 (ninS ne_r0_b12 nin0) (ninS ne_ta_b12 nin0)
      have Z16 : n0 ≤ T16.heap.size := Nat.le_trans Z12 Kq16.1
      have K16 := K12.trans Kq16 (allS (Or.inr sz_b12) all0)
      have ne_r0_t16 : r0 ≠ t16 := Nat.ne_of_lt (Nat.lt_of_lt_of_le u14_1.lt szq16)
      have ne_ta_t16 : ta ≠ t16 := Nat.ne_of_lt (Nat.lt_of_lt_of_le u14_1.ltt szq16)
      have ne_b12_t16 : b12 ≠ t16 := Nat.ne_of_lt (Nat.lt_of_lt_of_le A12.lt szq16)
      have sz_t16 : h0.size ≤ t16 := Nat.le_trans K12.1 szq16
      have g_t16 : n0 ≤ t16 := Nat.le_trans Z12 szq16
      obtain ⟨_, T19, L19, X19, hQ19, st19⟩ := own_cV X16 hx hml hZ hown (rm_sas l Z a0 hw b12 r0 t16 ta li.length li ia T16.heap n0 Z16 hst od17 Eq16 Fq16c Fq16v Fq16k Fq16m Yq16 Exq16 g_b12 g_t16 u18_1 ne_ta_t16 (by omega) (by omega) (by omega) (u18_1.five)) (w 106 rfl) (w 108 rfl) (w 90 rfl) (w 110 rfl) (w 107 rfl) (w 109 rfl) (own_nfS hZ (w 109 rfl)) Eq16 rfl (g := (mkF m 51 #[vr r0, vi (Int32.ofNat ia), vu] [(.int (Int32.ofNat ia)), (.int (0 : Int32)), (.ref r0), (.ref b12)])) (argsL := [(.ref r0), (.int (0 : Int32)), (.int (Int32.ofNat ia))]) (rest := []) (W := 0) (lenOf own_pd41 rfl) (b d9_51)
      obtain ⟨rfl, Nq19, Kq19, t19, hor19, Bq19⟩ := hQ19
      have N19 := Fr.app N16 Nq19
      have od20 := od17.keep Kq19 (allS g_b12 (allS g_t16 all0))
      have f20_1 := Eq16.keep Kq19
      have f20_7 := Exq16.keep Kq19
      have u21_1 := u18_1.keep Kq19 (ninS ne_r0_b12 (ninS ne_r0_t16 nin0)) (ninS ne_ta_b12 (ninS ne_ta_t16 nin0))
      have Z19 : n0 ≤ T19.heap.size := Nat.le_trans Z16 Kq19.1
      have K19 := K16.trans Kq19 (allS (Or.inr sz_b12) (allS (Or.inr sz_t16) all0))
      have ne_b12_t19 : b12 ≠ t19 := own_nor hor19 ne_b12_t16 Eq16.lt
      have ne_r0_t19 : r0 ≠ t19 := own_nor hor19 ne_r0_t16 u18_1.lt
      have ne_ta_t19 : ta ≠ t19 := own_nor hor19 ne_ta_t16 u18_1.ltt
      have sz_t19 : h0.size ≤ t19 := own_or hor19 sz_t16 K16.1
      have g_t19 : n0 ≤ t19 := own_or hor19 g_t16 Z16
      have pre22 : Pr p e below s₁ E0 T19 (mkF m 55 #[vr r0, vi (Int32.ofNat ia), vr b12] []) := fun t k => pre9 t (by
        refine XS.ifYes X7.here hx rfl (pc0 := 18) (pc' := 27) rfl (b d9_18) rfl ((if0 _ _).trans (feq hc8).2) (by decide) (by decide) ?_
        refine XS.iloadN X7.here hx rfl (b d9_27) rfl ?_
        refine XS.aloadN X7.here hx rfl (b d9_28) rfl rfl ?_
        refine st11 _ ?_
        show Sp p e below T11 (mkF m 32 #[vr r0, vi (Int32.ofNat ia), vu] [(.int (Int32.ofNat li.length)), (.int (Int32.ofNat ia))]) t
        refine XS.icmpYes X11.here hx rfl (pc0 := 32) (pc' := 37) rfl (b d9_32) rfl (feq (own_eqF (a := ia) (b := li.length) (show ¬ ia = li.length by omega) (by omega) (by omega))).2 (by decide) (by decide) ?_
        refine st12 _ ?_
        show Sp p e below T12 (mkF m 40 #[vr r0, vi (Int32.ofNat ia), vu] [(.ref b12)]) t
        refine XS.dup X12.here hx rfl (b d9_40) rfl rfl ?_
        refine XS.aloadN X12.here hx rfl (b d9_41) rfl rfl ?_
        refine st15 _ ?_
        show Sp p e below T15 (mkF m 45 #[vr r0, vi (Int32.ofNat ia), vu] [(.int (Int32.ofNat li.length)), (.ref b12), (.ref b12)]) t
        refine st16 _ ?_
        show Sp p e below T16 (mkF m 48 #[vr r0, vi (Int32.ofNat ia), vu] [(.ref b12)]) t
        refine XS.aloadN X16.here hx rfl (b d9_48) rfl rfl ?_
        refine XS.iconst X16.here hx rfl (b d9_49) ?_
        refine XS.iloadN X16.here hx rfl (b d9_50) rfl ?_
        refine st19 _ ?_
        show Sp p e below T19 (mkF m 54 #[vr r0, vi (Int32.ofNat ia), vu] [(.ref b12)]) t
        refine XS.astoreN X19.here hx rfl (b d9_54) rfl rfl (l' := #[vr r0, vi (Int32.ofNat ia), vr b12]) rfl ?_
        exact k)
      refine own_loop (fun k => ∃ (i : Nat) (fu : Nat) (ob : List Int32) (tb : Addr) (T23 : State) (LL23 : List Loc) (H23 : Heap), li.length - i = k ∧ (i ≤ li.length) ∧ (li.length - i ≤ fu) ∧ (ob.length ≤ i) ∧ (own_run own_br own_sp (32 : Int32) fu (li.drop i) ob = own_of li) ∧ (n0 ≤ tb) ∧ (h0.size ≤ tb) ∧ (ta ≠ tb) ∧ Stand p l e ({ frames := 9, cells := 11, slots := 88, locals := 139 } : Room) s m #[(.ref r0)] below meth c T23 LL23 ((3 + i)) ((19 + 10 * i)) ∧ Fr n0 LL23 ∧ T23.heap = H23 ∧ n0 ≤ H23.size ∧ Keep h0 H23 [] ∧ (Old Z n0 H23) ∧ (Us Z H23 r0 ta li) ∧ (Sb Z H23 b12 tb li.length ob) ∧ Pr p e below s₁ E0 T23 (mkF m 55 #[vr r0, vi (Int32.ofNat i), vr b12] [])) ?_ _ ⟨ia, (li.length - ia), (li.take ia), t19, T19, _, T19.heap, rfl, (by omega), (by omega), (by rw [List.length_take]; omega), hRA, g_t19, sz_t19, ne_ta_t19, X19.more (by show 3 ≤ (3 + ia); omega) (by show 19 ≤ (19 + 10 * ia); omega), N19, rfl, Z19, K19, od20, u21_1, Bq19, pre22⟩
      rintro k23 ⟨i, fu, ob, tb, T23, LL23, H23, hm23, hi, hfu, hob, hR, g_tb, sz_tb, hnt, X23, N23, e23, Z23, K23, lf23_0, lf23_1, lf23_2, pre23⟩ ih23
      obtain ⟨_, T24, L24, X24, hQ24, st24⟩ := own_cV X23 hx hml hZ hown (rm_sle l Z a0 hw r0 ta li H23 n0 Z23 hst lf23_0 lf23_1) (w 42 rfl) (w 44 rfl) (w 11 rfl) (w 46 rfl) (w 43 rfl) (w 45 rfl) (own_nfS hZ (w 45 rfl)) (lf23_1.exa) e23 (g := (mkF m 57 #[vr r0, vi (Int32.ofNat i), vr b12] [(.ref r0), (.int (Int32.ofNat i))])) (argsL := []) (rest := [(.int (Int32.ofNat i))]) (W := 1) (lenOf own_pd26 rfl) (b d9_57) (hc := by show (3 + i) + 0 ≤ 11; omega) (hs := by show (19 + 10 * i) + 0 ≤ 88; omega)
      obtain ⟨rfl, Nq24, e24⟩ := hQ24
      have N24 := Fr.app N23 Nq24
      have pre26 : Pr p e below s₁ E0 T24 (mkF m 60 #[vr r0, vi (Int32.ofNat i), vr b12] [(.int (Int32.ofNat li.length)), (.int (Int32.ofNat i))]) := fun t k => pre23 t (by
        refine XS.iloadN X23.here hx rfl (b d9_55) rfl ?_
        refine XS.aloadN X23.here hx rfl (b d9_56) rfl rfl ?_
        refine st24 _ ?_
        exact k)
      by_cases hc25 : i < li.length
      · obtain ⟨_, T27, L27, X27, hQ27, st27⟩ := own_cV X24 hx hml hZ hown (rm_sca l Z a0 hw r0 i ta li H23 n0 Z23 hst lf23_0 lf23_1 (by omega)) (w 52 rfl) (w 54 rfl) (w 11 rfl) (w 56 rfl) (w 53 rfl) (w 55 rfl) (own_nfS hZ (w 55 rfl)) (lf23_1.exa) e24 (g := (mkF m 65 #[vr r0, vi (Int32.ofNat i), vr b12] [(.int (Int32.ofNat i)), (.ref r0)])) (argsL := [(.int (Int32.ofNat i))]) (rest := []) (W := 0) (lenOf own_pd29 rfl) (b d9_65) (hc := by show (3 + i) + 0 ≤ 11; omega) (hs := by show (19 + 10 * i) + 0 ≤ 88; omega)
        obtain ⟨rfl, Nq27, e27⟩ := hQ27
        have N27 := Fr.app N24 Nq27
        obtain ⟨_, T28, L28, X28, hQ28, st28⟩ := own_cS X27 hx hml hZ hown (rm_lb l Z a0 hw (li.getD i 0) H23 n0 Z23) (w 74 rfl) (w 75 rfl) (w 40 rfl) (w 76 rfl) e27 (g := (mkF m 68 #[vr r0, vi (Int32.ofNat i), vr b12] [(.int (li.getD i 0))])) (argsL := [(.int (li.getD i 0))]) (rest := []) (W := 0) (lenOf own_pd30 rfl) (b d9_68) (hc := by show (3 + i) + 0 ≤ 11; omega) (hs := by show (19 + 10 * i) + 0 ≤ 88; omega)
        obtain ⟨rfl, Nq28, e28⟩ := hQ28
        have N28 := Fr.app N27 Nq28
        have pre30 : Pr p e below s₁ E0 T28 (mkF m 71 #[vr r0, vi (Int32.ofNat i), vr b12] [(.int (fn_lb (li.getD i 0)))]) := fun t k => pre26 t (by
          refine XS.icmpNo X24.here hx rfl (b d9_60) rfl (tlt (own_ltT (a := i) (b := li.length) hc25 (by omega))).2.1 ?_
          refine XS.aloadN X24.here hx rfl (b d9_63) rfl rfl ?_
          refine XS.iloadN X24.here hx rfl (b d9_64) rfl ?_
          refine st27 _ ?_
          show Sp p e below T27 (mkF m 68 #[vr r0, vi (Int32.ofNat i), vr b12] [(.int (li.getD i 0))]) t
          refine st28 _ ?_
          exact k)
        by_cases hc29 : (fn_lb (li.getD i 0)) = (0 : Int32)
        · obtain ⟨_, T31, L31, X31, hQ31, st31⟩ := own_cV X28 hx hml hZ hown (rm_sca l Z a0 hw r0 i ta li H23 n0 Z23 hst lf23_0 lf23_1 (by omega)) (w 52 rfl) (w 54 rfl) (w 11 rfl) (w 56 rfl) (w 53 rfl) (w 55 rfl) (own_nfS hZ (w 55 rfl)) (lf23_1.exa) e28 (g := (mkF m 157 #[vr r0, vi (Int32.ofNat i), vr b12] [(.int (Int32.ofNat i)), (.ref r0), (.ref b12)])) (argsL := [(.int (Int32.ofNat i))]) (rest := [(.ref b12)]) (W := 1) (lenOf own_pd29 rfl) (b d9_157) (hc := by show (3 + i) + 0 ≤ 11; omega) (hs := by show (19 + 10 * i) + 0 ≤ 88; omega)
          obtain ⟨rfl, Nq31, e31⟩ := hQ31
          have N31 := Fr.app N28 Nq31
          obtain ⟨_, T32, L32, X32, hQ32, st32⟩ := own_cV X31 hx hml hZ hown (rm_sac l Z a0 hw b12 (li.getD i 0) tb li.length ob H23 n0 Z23 hst lf23_0 lf23_2 g_b12 g_tb (by omega) (lf23_1.chs i (by omega))) (w 165 rfl) (w 167 rfl) (w 90 rfl) (w 169 rfl) (w 166 rfl) (w 168 rfl) (own_nfS hZ (w 168 rfl)) (lf23_2.exa) e31 (g := (mkF m 160 #[vr r0, vi (Int32.ofNat i), vr b12] [(.int (li.getD i 0)), (.ref b12)])) (argsL := [(.int (li.getD i 0))]) (rest := []) (W := 0) (lenOf own_pd42 rfl) (b d9_160) (hc := by show (3 + i) + 1 ≤ 11; omega) (hs := by show (19 + 10 * i) + 10 ≤ 88; omega)
          obtain ⟨rfl, Nq32, Kq32, t32, hor32, Bq32⟩ := hQ32
          have N32 := Fr.app N31 Nq32
          have od33 := lf23_0.keep Kq32 (allS g_b12 (allS g_tb all0))
          have u34_1 := lf23_1.keep Kq32 (ninS ne_r0_b12 (ninS (lf23_2.neT (lf23_1.exa) (w 10 rfl)) nin0)) (ninS ne_ta_b12 (ninS hnt nin0))
          have Z32 : n0 ≤ T32.heap.size := Nat.le_trans Z23 Kq32.1
          have K32 := K23.trans Kq32 (allS (Or.inr sz_b12) (allS (Or.inr sz_tb) all0))
          have ne_ta_t32 : ta ≠ t32 := own_nor hor32 hnt lf23_1.ltt
          have sz_t32 : h0.size ≤ t32 := own_or hor32 sz_tb K23.1
          have g_t32 : n0 ≤ t32 := own_or hor32 g_tb Z23
          have pre35 : Pr p e below s₁ E0 T32 (mkF m 55 #[vr r0, vi (Int32.ofNat (i + 1)), vr b12] []) := fun t k => pre30 t (by
            refine XS.ifYes X28.here hx rfl (pc0 := 71) (pc' := 154) rfl (b d9_71) rfl ((if0 _ _).trans (teq hc29).1) (by decide) (by decide) ?_
            refine XS.aloadN X28.here hx rfl (b d9_154) rfl rfl ?_
            refine XS.aloadN X28.here hx rfl (b d9_155) rfl rfl ?_
            refine XS.iloadN X28.here hx rfl (b d9_156) rfl ?_
            refine st31 _ ?_
            show Sp p e below T31 (mkF m 160 #[vr r0, vi (Int32.ofNat i), vr b12] [(.int (li.getD i 0)), (.ref b12)]) t
            refine st32 _ ?_
            show Sp p e below T32 (mkF m 163 #[vr r0, vi (Int32.ofNat i), vr b12] [(.ref b12)]) t
            refine XS.pop X32.here hx rfl (b d9_163) rfl rfl ?_
            refine XS.iinc X32.here hx rfl (b d9_164) rfl (l' := #[vr r0, vi ((Int32.ofNat i) + (1 : Int32)), vr b12]) rfl ?_
            show Sp p e below T32 (mkF m 167 #[vr r0, vi ((Int32.ofNat i) + (1 : Int32)), vr b12] []) t
            rw [own_a1 i]
            show Sp p e below T32 (mkF m 167 #[vr r0, vi (Int32.ofNat (i + 1)), vr b12] []) t
            refine XS.goto X32.here hx rfl (pc0 := 167) (pc' := 55) rfl (b d9_167) (by decide) (by decide) ?_
            exact k)
          exact ih23 (li.length - (i + 1)) (by omega) ⟨(i + 1), (fu - 1), (ob ++ [(li.getD i 0)]), t32, T32, _, T32.heap, rfl, (by omega), (by omega), (by rw [List.length_append]; show _ + 1 ≤ _; omega), (own_rN (by omega) (by omega) hc29 hR), g_t32, sz_t32, ne_ta_t32, X32.more (by show ((3 + i) + 1) ≤ (3 + (i + 1)); omega) (by show ((19 + 10 * i) + 10) ≤ (19 + 10 * (i + 1)); omega), N32, rfl, Z32, K32, od33, u34_1, Bq32, pre35⟩
        · have pre36 : Pr p e below s₁ E0 T28 (mkF m 74 #[vr r0, vi (Int32.ofNat i), vr b12] []) := fun t k => pre30 t (by
            refine XS.ifNo X28.here hx rfl (b d9_71) rfl ((if0 _ _).trans (feq hc29).1) ?_
            exact k)
          refine own_loop (fun k => ∃ (ob2 : List Int32) (T37 : State) (LL37 : List Loc) (H37 : Heap), ob2.length = k ∧ (ob2.length ≤ i) ∧ (own_strip own_sp ob2 = own_strip own_sp ob) ∧ Stand p l e ({ frames := 9, cells := 11, slots := 88, locals := 139 } : Room) s m #[(.ref r0)] below meth c T37 LL37 ((3 + i)) ((19 + 10 * i)) ∧ Fr n0 LL37 ∧ T37.heap = H37 ∧ n0 ≤ H37.size ∧ Keep h0 H37 [] ∧ (Old Z n0 H37) ∧ (Us Z H37 r0 ta li) ∧ (Sb Z H37 b12 tb li.length ob2) ∧ Pr p e below s₁ E0 T37 (mkF m 74 #[vr r0, vi (Int32.ofNat i), vr b12] [])) ?_ _ ⟨ob, T28, _, H23, rfl, hob, rfl, X28, N28, e28, Z23, K23, lf23_0, lf23_1, lf23_2, pre36⟩
          rintro k37 ⟨ob2, T37, LL37, H37, hm37, hob2, hst2, X37, N37, e37, Z37, K37, lf37_0, lf37_1, lf37_2, pre37⟩ ih37
          obtain ⟨_, T38, L38, X38, hQ38, st38⟩ := own_cV X37 hx hml hZ hown (rm_sbl l Z a0 hw b12 ob2.length H37 n0 Z37 (lf37_2.exa) (lf37_2.cnt)) (w 156 rfl) (w 158 rfl) (w 90 rfl) (w 160 rfl) (w 157 rfl) (w 159 rfl) (own_nfS hZ (w 159 rfl)) (lf37_2.exa) e37 (g := (mkF m 75 #[vr r0, vi (Int32.ofNat i), vr b12] [(.ref b12)])) (argsL := []) (rest := []) (W := 0) (lenOf own_pd26 rfl) (b d9_75) (hc := by show (3 + i) + 0 ≤ 11; omega) (hs := by show (19 + 10 * i) + 0 ≤ 88; omega)
          obtain ⟨rfl, Nq38, e38⟩ := hQ38
          have N38 := Fr.app N37 Nq38
          have pre40 : Pr p e below s₁ E0 T38 (mkF m 78 #[vr r0, vi (Int32.ofNat i), vr b12] [(.int (Int32.ofNat ob2.length))]) := fun t k => pre37 t (by
            refine XS.aloadN X37.here hx rfl (b d9_74) rfl rfl ?_
            refine st38 _ ?_
            exact k)
          by_cases hc39 : 0 < ob2.length
          · obtain ⟨_, T41, L41, X41, hQ41, st41⟩ := own_cV X38 hx hml hZ hown (rm_sbl l Z a0 hw b12 ob2.length H37 n0 Z37 (lf37_2.exa) (lf37_2.cnt)) (w 156 rfl) (w 158 rfl) (w 90 rfl) (w 160 rfl) (w 157 rfl) (w 159 rfl) (own_nfS hZ (w 159 rfl)) (lf37_2.exa) e38 (g := (mkF m 83 #[vr r0, vi (Int32.ofNat i), vr b12] [(.ref b12), (.ref b12)])) (argsL := []) (rest := [(.ref b12)]) (W := 1) (lenOf own_pd26 rfl) (b d9_83) (hc := by show (3 + i) + 0 ≤ 11; omega) (hs := by show (19 + 10 * i) + 0 ≤ 88; omega)
            obtain ⟨rfl, Nq41, e41⟩ := hQ41
            have N41 := Fr.app N38 Nq41
            obtain ⟨_, T42, L42, X42, hQ42, st42⟩ := own_cV X41 hx hml hZ hown (rm_sbc l Z a0 hw b12 (ob2.length - 1) tb li.length ob2 H37 n0 Z37 hst lf37_0 lf37_2 (by omega) (lf37_2.chs)) (w 177 rfl) (w 179 rfl) (w 90 rfl) (w 181 rfl) (w 178 rfl) (w 180 rfl) (own_nfS hZ (w 180 rfl)) (lf37_2.exa) e41 (g := (mkF m 88 #[vr r0, vi (Int32.ofNat i), vr b12] [(.int (Int32.ofNat (ob2.length - 1))), (.ref b12)])) (argsL := [(.int (Int32.ofNat (ob2.length - 1)))]) (rest := []) (W := 0) (lenOf own_pd29 rfl) (b d9_88) (hc := by show (3 + i) + 0 ≤ 11; omega) (hs := by show (19 + 10 * i) + 0 ≤ 88; omega)
            obtain ⟨rfl, Nq42, e42⟩ := hQ42
            have N42 := Fr.app N41 Nq42
            have pre44 : Pr p e below s₁ E0 T42 (mkF m 93 #[vr r0, vi (Int32.ofNat i), vr b12] [(.int (32 : Int32)), (.int (ob2.getD (ob2.length - 1) 0))]) := fun t k => pre40 t (by
              refine XS.ifNo X38.here hx rfl (b d9_78) rfl ((if0 _ _).trans (tlt (own_ltT (a := 0) (b := ob2.length) hc39 (by omega))).2.2.2) ?_
              refine XS.aloadN X38.here hx rfl (b d9_81) rfl rfl ?_
              refine XS.aloadN X38.here hx rfl (b d9_82) rfl rfl ?_
              refine st41 _ ?_
              show Sp p e below T41 (mkF m 86 #[vr r0, vi (Int32.ofNat i), vr b12] [(.int (Int32.ofNat ob2.length)), (.ref b12)]) t
              refine XS.iconst X41.here hx rfl (b d9_86) ?_
              refine XS.isub X41.here hx rfl (b d9_87) rfl ?_
              show Sp p e below T41 (mkF m 88 #[vr r0, vi (Int32.ofNat i), vr b12] [(.int ((Int32.ofNat ob2.length) - (1 : Int32))), (.ref b12)]) t
              rw [own_s1 (a := ob2.length) (by omega) (by omega)]
              show Sp p e below T41 (mkF m 88 #[vr r0, vi (Int32.ofNat i), vr b12] [(.int (Int32.ofNat (ob2.length - 1))), (.ref b12)]) t
              refine st42 _ ?_
              show Sp p e below T42 (mkF m 91 #[vr r0, vi (Int32.ofNat i), vr b12] [(.int (ob2.getD (ob2.length - 1) 0))]) t
              refine XS.bipush X42.here hx rfl (b d9_91) ?_
              exact k)
            by_cases hc43 : (ob2.getD (ob2.length - 1) 0) = (32 : Int32)
            · obtain ⟨_, T45, L45, X45, hQ45, st45⟩ := own_cV X42 hx hml hZ hown (rm_sbl l Z a0 hw b12 ob2.length H37 n0 Z37 (lf37_2.exa) (lf37_2.cnt)) (w 156 rfl) (w 158 rfl) (w 90 rfl) (w 160 rfl) (w 157 rfl) (w 159 rfl) (own_nfS hZ (w 159 rfl)) (lf37_2.exa) e42 (g := (mkF m 98 #[vr r0, vi (Int32.ofNat i), vr b12] [(.ref b12), (.ref b12)])) (argsL := []) (rest := [(.ref b12)]) (W := 1) (lenOf own_pd26 rfl) (b d9_98) (hc := by show (3 + i) + 0 ≤ 11; omega) (hs := by show (19 + 10 * i) + 0 ≤ 88; omega)
              obtain ⟨rfl, Nq45, e45⟩ := hQ45
              have N45 := Fr.app N42 Nq45
              obtain ⟨_, T46, L46, X46, hQ46, st46⟩ := own_cV X45 hx hml hZ hown (rm_ssl l Z a0 hw b12 (ob2.length - 1) tb li.length ob2 H37 n0 Z37 hst lf37_0 lf37_2 g_b12 (by omega)) (w 284 rfl) (w 286 rfl) (w 90 rfl) (w 288 rfl) (w 285 rfl) (w 287 rfl) (own_nfS hZ (w 287 rfl)) (lf37_2.exa) e45 (g := (mkF m 103 #[vr r0, vi (Int32.ofNat i), vr b12] [(.int (Int32.ofNat (ob2.length - 1))), (.ref b12)])) (argsL := [(.int (Int32.ofNat (ob2.length - 1)))]) (rest := []) (W := 0) (lenOf own_pd28 rfl) (b d9_103) (hc := by show (3 + i) + 0 ≤ 11; omega) (hs := by show (19 + 10 * i) + 0 ≤ 88; omega)
              obtain ⟨rfl, Nq46, Kq46, Bq46⟩ := hQ46
              have N46 := Fr.app N45 Nq46
              have od47 := lf37_0.keep Kq46 (allS g_b12 all0)
              have u48_1 := lf37_1.keep Kq46 (ninS ne_r0_b12 nin0) (ninS ne_ta_b12 nin0)
              have Z46 : n0 ≤ T46.heap.size := Nat.le_trans Z37 Kq46.1
              have K46 := K37.trans Kq46 (allS (Or.inr sz_b12) all0)
              have pre49 : Pr p e below s₁ E0 T46 (mkF m 74 #[vr r0, vi (Int32.ofNat i), vr b12] []) := fun t k => pre44 t (by
                refine XS.icmpNo X42.here hx rfl (b d9_93) rfl (teq hc43).2 ?_
                refine XS.aloadN X42.here hx rfl (b d9_96) rfl rfl ?_
                refine XS.aloadN X42.here hx rfl (b d9_97) rfl rfl ?_
                refine st45 _ ?_
                show Sp p e below T45 (mkF m 101 #[vr r0, vi (Int32.ofNat i), vr b12] [(.int (Int32.ofNat ob2.length)), (.ref b12)]) t
                refine XS.iconst X45.here hx rfl (b d9_101) ?_
                refine XS.isub X45.here hx rfl (b d9_102) rfl ?_
                show Sp p e below T45 (mkF m 103 #[vr r0, vi (Int32.ofNat i), vr b12] [(.int ((Int32.ofNat ob2.length) - (1 : Int32))), (.ref b12)]) t
                rw [own_s1 (a := ob2.length) (by omega) (by omega)]
                show Sp p e below T45 (mkF m 103 #[vr r0, vi (Int32.ofNat i), vr b12] [(.int (Int32.ofNat (ob2.length - 1))), (.ref b12)]) t
                refine st46 _ ?_
                show Sp p e below T46 (mkF m 106 #[vr r0, vi (Int32.ofNat i), vr b12] []) t
                refine XS.goto X46.here hx rfl (pc0 := 106) (pc' := 74) rfl (b d9_106) (by decide) (by decide) ?_
                exact k)
              exact ih37 ((ob2.take (ob2.length - 1)).length) (by rw [List.length_take]; omega) ⟨(ob2.take (ob2.length - 1)), T46, _, T46.heap, rfl, (by rw [List.length_take]; omega), ((own_sT (by omega) hc43).trans hst2), X46, N46, rfl, Z46, K46, od47, u48_1, Bq46, pre49⟩
            · have pre50 : Pr p e below s₁ E0 T42 (mkF m 109 #[vr r0, vi (Int32.ofNat i), vr b12] []) := fun t k => pre44 t (by
                refine XS.icmpYes X42.here hx rfl (pc0 := 93) (pc' := 109) rfl (b d9_93) rfl (feq hc43).2 (by decide) (by decide) ?_
                exact k)
              refine own_loop (fun k => ∃ (i2 : Nat) (T51 : State) (LL51 : List Loc) (H51 : Heap), li.length - i2 = k ∧ (i2 ≤ li.length) ∧ (i ≤ i2) ∧ ((li.drop i2).dropWhile own_ws = (li.drop i).dropWhile own_ws) ∧ Stand p l e ({ frames := 9, cells := 11, slots := 88, locals := 139 } : Room) s m #[(.ref r0)] below meth c T51 LL51 ((3 + i)) ((19 + 10 * i)) ∧ Fr n0 LL51 ∧ T51.heap = H51 ∧ n0 ≤ H51.size ∧ Keep h0 H51 [] ∧ (Old Z n0 H51) ∧ (Us Z H51 r0 ta li) ∧ (Sb Z H51 b12 tb li.length ob2) ∧ Pr p e below s₁ E0 T51 (mkF m 109 #[vr r0, vi (Int32.ofNat i2), vr b12] [])) ?_ _ ⟨i, T42, _, H37, rfl, (by omega), (by omega), rfl, X42, N42, e42, Z37, K37, lf37_0, lf37_1, lf37_2, pre50⟩
              rintro k51 ⟨i2, T51, LL51, H51, hm51, hi2, hii, hdw, X51, N51, e51, Z51, K51, lf51_0, lf51_1, lf51_2, pre51⟩ ih51
              obtain ⟨_, T52, L52, X52, hQ52, st52⟩ := own_cV X51 hx hml hZ hown (rm_sle l Z a0 hw r0 ta li H51 n0 Z51 hst lf51_0 lf51_1) (w 42 rfl) (w 44 rfl) (w 11 rfl) (w 46 rfl) (w 43 rfl) (w 45 rfl) (own_nfS hZ (w 45 rfl)) (lf51_1.exa) e51 (g := (mkF m 111 #[vr r0, vi (Int32.ofNat i2), vr b12] [(.ref r0), (.int (Int32.ofNat i2))])) (argsL := []) (rest := [(.int (Int32.ofNat i2))]) (W := 1) (lenOf own_pd26 rfl) (b d9_111) (hc := by show (3 + i) + 0 ≤ 11; omega) (hs := by show (19 + 10 * i) + 0 ≤ 88; omega)
              obtain ⟨rfl, Nq52, e52⟩ := hQ52
              have N52 := Fr.app N51 Nq52
              have pre54 : Pr p e below s₁ E0 T52 (mkF m 114 #[vr r0, vi (Int32.ofNat i2), vr b12] [(.int (Int32.ofNat li.length)), (.int (Int32.ofNat i2))]) := fun t k => pre51 t (by
                refine XS.iloadN X51.here hx rfl (b d9_109) rfl ?_
                refine XS.aloadN X51.here hx rfl (b d9_110) rfl rfl ?_
                refine st52 _ ?_
                exact k)
              by_cases hc53 : i2 < li.length
              · obtain ⟨_, T55, L55, X55, hQ55, st55⟩ := own_cV X52 hx hml hZ hown (rm_sca l Z a0 hw r0 i2 ta li H51 n0 Z51 hst lf51_0 lf51_1 (by omega)) (w 52 rfl) (w 54 rfl) (w 11 rfl) (w 56 rfl) (w 53 rfl) (w 55 rfl) (own_nfS hZ (w 55 rfl)) (lf51_1.exa) e52 (g := (mkF m 119 #[vr r0, vi (Int32.ofNat i2), vr b12] [(.int (Int32.ofNat i2)), (.ref r0)])) (argsL := [(.int (Int32.ofNat i2))]) (rest := []) (W := 0) (lenOf own_pd29 rfl) (b d9_119) (hc := by show (3 + i) + 0 ≤ 11; omega) (hs := by show (19 + 10 * i) + 0 ≤ 88; omega)
                obtain ⟨rfl, Nq55, e55⟩ := hQ55
                have N55 := Fr.app N52 Nq55
                have pre57 : Pr p e below s₁ E0 T55 (mkF m 124 #[vr r0, vi (Int32.ofNat i2), vr b12] [(.int (32 : Int32)), (.int (li.getD i2 0))]) := fun t k => pre54 t (by
                  refine XS.icmpNo X52.here hx rfl (b d9_114) rfl (tlt (own_ltT (a := i2) (b := li.length) hc53 (by omega))).2.1 ?_
                  refine XS.aloadN X52.here hx rfl (b d9_117) rfl rfl ?_
                  refine XS.iloadN X52.here hx rfl (b d9_118) rfl ?_
                  refine st55 _ ?_
                  show Sp p e below T55 (mkF m 122 #[vr r0, vi (Int32.ofNat i2), vr b12] [(.int (li.getD i2 0))]) t
                  refine XS.bipush X55.here hx rfl (b d9_122) ?_
                  exact k)
                by_cases hc56 : (li.getD i2 0) = (32 : Int32)
                · have pre58 : Pr p e below s₁ E0 T55 (mkF m 109 #[vr r0, vi (Int32.ofNat (i2 + 1)), vr b12] []) := fun t k => pre57 t (by
                    refine XS.icmpYes X55.here hx rfl (pc0 := 124) (pc' := 138) rfl (b d9_124) rfl (teq hc56).1 (by decide) (by decide) ?_
                    refine XS.iinc X55.here hx rfl (b d9_138) rfl (l' := #[vr r0, vi ((Int32.ofNat i2) + (1 : Int32)), vr b12]) rfl ?_
                    show Sp p e below T55 (mkF m 141 #[vr r0, vi ((Int32.ofNat i2) + (1 : Int32)), vr b12] []) t
                    rw [own_a1 i2]
                    show Sp p e below T55 (mkF m 141 #[vr r0, vi (Int32.ofNat (i2 + 1)), vr b12] []) t
                    refine XS.goto X55.here hx rfl (pc0 := 141) (pc' := 109) rfl (b d9_141) (by decide) (by decide) ?_
                    exact k)
                  exact ih51 (li.length - (i2 + 1)) (by omega) ⟨(i2 + 1), T55, _, H51, rfl, (by omega), (by omega), ((own_dwT (by omega) (own_w1 hc56)).trans hdw), X55, N55, e55, Z51, K51, lf51_0, lf51_1, lf51_2, pre58⟩
                · obtain ⟨_, T59, L59, X59, hQ59, st59⟩ := own_cV X55 hx hml hZ hown (rm_sca l Z a0 hw r0 i2 ta li H51 n0 Z51 hst lf51_0 lf51_1 (by omega)) (w 52 rfl) (w 54 rfl) (w 11 rfl) (w 56 rfl) (w 53 rfl) (w 55 rfl) (own_nfS hZ (w 55 rfl)) (lf51_1.exa) e55 (g := (mkF m 129 #[vr r0, vi (Int32.ofNat i2), vr b12] [(.int (Int32.ofNat i2)), (.ref r0)])) (argsL := [(.int (Int32.ofNat i2))]) (rest := []) (W := 0) (lenOf own_pd29 rfl) (b d9_129) (hc := by show (3 + i) + 0 ≤ 11; omega) (hs := by show (19 + 10 * i) + 0 ≤ 88; omega)
                  obtain ⟨rfl, Nq59, e59⟩ := hQ59
                  have N59 := Fr.app N55 Nq59
                  obtain ⟨_, T60, L60, X60, hQ60, st60⟩ := own_cS X59 hx hml hZ hown (rm_lb l Z a0 hw (li.getD i2 0) H51 n0 Z51) (w 74 rfl) (w 75 rfl) (w 40 rfl) (w 76 rfl) e59 (g := (mkF m 132 #[vr r0, vi (Int32.ofNat i2), vr b12] [(.int (li.getD i2 0))])) (argsL := [(.int (li.getD i2 0))]) (rest := []) (W := 0) (lenOf own_pd30 rfl) (b d9_132) (hc := by show (3 + i) + 0 ≤ 11; omega) (hs := by show (19 + 10 * i) + 0 ≤ 88; omega)
                  obtain ⟨rfl, Nq60, e60⟩ := hQ60
                  have N60 := Fr.app N59 Nq60
                  have pre62 : Pr p e below s₁ E0 T60 (mkF m 135 #[vr r0, vi (Int32.ofNat i2), vr b12] [(.int (fn_lb (li.getD i2 0)))]) := fun t k => pre57 t (by
                    refine XS.icmpNo X55.here hx rfl (b d9_124) rfl (feq hc56).1 ?_
                    refine XS.aloadN X55.here hx rfl (b d9_127) rfl rfl ?_
                    refine XS.iloadN X55.here hx rfl (b d9_128) rfl ?_
                    refine st59 _ ?_
                    show Sp p e below T59 (mkF m 132 #[vr r0, vi (Int32.ofNat i2), vr b12] [(.int (li.getD i2 0))]) t
                    refine st60 _ ?_
                    exact k)
                  by_cases hc61 : (fn_lb (li.getD i2 0)) = (0 : Int32)
                  · have hlt2 : i < i2 := by
                      rcases Nat.lt_or_ge i i2 with q | q
                      · exact q
                      · exact absurd hc61 (by rw [show i = i2 by omega] at hc29; exact hc29)
                    obtain ⟨_, T63, L63, X63, hQ63, st63⟩ := own_cV X60 hx hml hZ hown (rm_sac l Z a0 hw b12 (32 : Int32) tb li.length ob2 H51 n0 Z51 hst lf51_0 lf51_2 g_b12 g_tb (by omega) own_c32) (w 165 rfl) (w 167 rfl) (w 90 rfl) (w 169 rfl) (w 166 rfl) (w 168 rfl) (own_nfS hZ (w 168 rfl)) (lf51_2.exa) e60 (g := (mkF m 147 #[vr r0, vi (Int32.ofNat i2), vr b12] [(.int (32 : Int32)), (.ref b12)])) (argsL := [(.int (32 : Int32))]) (rest := []) (W := 0) (lenOf own_pd42 rfl) (b d9_147) (hc := by show (3 + i) + 1 ≤ 11; omega) (hs := by show (19 + 10 * i) + 10 ≤ 88; omega)
                    obtain ⟨rfl, Nq63, Kq63, t63, hor63, Bq63⟩ := hQ63
                    have N63 := Fr.app N60 Nq63
                    have od64 := lf51_0.keep Kq63 (allS g_b12 (allS g_tb all0))
                    have u65_1 := lf51_1.keep Kq63 (ninS ne_r0_b12 (ninS (lf51_2.neT (lf51_1.exa) (w 10 rfl)) nin0)) (ninS ne_ta_b12 (ninS hnt nin0))
                    have Z63 : n0 ≤ T63.heap.size := Nat.le_trans Z51 Kq63.1
                    have K63 := K51.trans Kq63 (allS (Or.inr sz_b12) (allS (Or.inr sz_tb) all0))
                    have ne_ta_t63 : ta ≠ t63 := own_nor hor63 hnt lf51_1.ltt
                    have sz_t63 : h0.size ≤ t63 := own_or hor63 sz_tb K51.1
                    have g_t63 : n0 ≤ t63 := own_or hor63 g_tb Z51
                    have pre66 : Pr p e below s₁ E0 T63 (mkF m 55 #[vr r0, vi (Int32.ofNat i2), vr b12] []) := fun t k => pre62 t (by
                      refine XS.ifYes X60.here hx rfl (pc0 := 135) (pc' := 144) rfl (b d9_135) rfl ((if0 _ _).trans (teq hc61).1) (by decide) (by decide) ?_
                      refine XS.aloadN X60.here hx rfl (b d9_144) rfl rfl ?_
                      refine XS.bipush X60.here hx rfl (b d9_145) ?_
                      refine st63 _ ?_
                      show Sp p e below T63 (mkF m 150 #[vr r0, vi (Int32.ofNat i2), vr b12] [(.ref b12)]) t
                      refine XS.pop X63.here hx rfl (b d9_150) rfl rfl ?_
                      refine XS.goto X63.here hx rfl (pc0 := 151) (pc' := 55) rfl (b d9_151) (by decide) (by decide) ?_
                      exact k)
                    exact ih23 (li.length - i2) (by omega) ⟨i2, (fu - 1), (ob2 ++ [(32 : Int32)]), t63, T63, _, T63.heap, rfl, (by omega), (by omega), (by rw [List.length_append]; show _ + 1 ≤ _; omega), (own_rB (by omega) (by omega) hc29 hR (hdw.symm.trans (own_dwN (by omega) (own_w3 hc56 hc61))) (hst2.symm.trans (own_sN (by omega) hc43))), g_t63, sz_t63, ne_ta_t63, X63.more (by show ((3 + i) + 1) ≤ (3 + i2); omega) (by show ((19 + 10 * i) + 10) ≤ (19 + 10 * i2); omega), N63, rfl, Z63, K63, od64, u65_1, Bq63, pre66⟩
                  · have pre67 : Pr p e below s₁ E0 T60 (mkF m 109 #[vr r0, vi (Int32.ofNat (i2 + 1)), vr b12] []) := fun t k => pre62 t (by
                      refine XS.ifNo X60.here hx rfl (b d9_135) rfl ((if0 _ _).trans (feq hc61).1) ?_
                      refine XS.iinc X60.here hx rfl (b d9_138) rfl (l' := #[vr r0, vi ((Int32.ofNat i2) + (1 : Int32)), vr b12]) rfl ?_
                      show Sp p e below T60 (mkF m 141 #[vr r0, vi ((Int32.ofNat i2) + (1 : Int32)), vr b12] []) t
                      rw [own_a1 i2]
                      show Sp p e below T60 (mkF m 141 #[vr r0, vi (Int32.ofNat (i2 + 1)), vr b12] []) t
                      refine XS.goto X60.here hx rfl (pc0 := 141) (pc' := 109) rfl (b d9_141) (by decide) (by decide) ?_
                      exact k)
                    exact ih51 (li.length - (i2 + 1)) (by omega) ⟨(i2 + 1), T60, _, H51, rfl, (by omega), (by omega), ((own_dwT (by omega) (own_w2 hc61)).trans hdw), X60, N60, e60, Z51, K51, lf51_0, lf51_1, lf51_2, pre67⟩
              · have hlt2 : i < i2 := by omega
                obtain ⟨_, T68, L68, X68, hQ68, st68⟩ := own_cV X52 hx hml hZ hown (rm_sac l Z a0 hw b12 (32 : Int32) tb li.length ob2 H51 n0 Z51 hst lf51_0 lf51_2 g_b12 g_tb (by omega) own_c32) (w 165 rfl) (w 167 rfl) (w 90 rfl) (w 169 rfl) (w 166 rfl) (w 168 rfl) (own_nfS hZ (w 168 rfl)) (lf51_2.exa) e52 (g := (mkF m 147 #[vr r0, vi (Int32.ofNat i2), vr b12] [(.int (32 : Int32)), (.ref b12)])) (argsL := [(.int (32 : Int32))]) (rest := []) (W := 0) (lenOf own_pd42 rfl) (b d9_147) (hc := by show (3 + i) + 1 ≤ 11; omega) (hs := by show (19 + 10 * i) + 10 ≤ 88; omega)
                obtain ⟨rfl, Nq68, Kq68, t68, hor68, Bq68⟩ := hQ68
                have N68 := Fr.app N52 Nq68
                have od69 := lf51_0.keep Kq68 (allS g_b12 (allS g_tb all0))
                have u70_1 := lf51_1.keep Kq68 (ninS ne_r0_b12 (ninS (lf51_2.neT (lf51_1.exa) (w 10 rfl)) nin0)) (ninS ne_ta_b12 (ninS hnt nin0))
                have Z68 : n0 ≤ T68.heap.size := Nat.le_trans Z51 Kq68.1
                have K68 := K51.trans Kq68 (allS (Or.inr sz_b12) (allS (Or.inr sz_tb) all0))
                have ne_ta_t68 : ta ≠ t68 := own_nor hor68 hnt lf51_1.ltt
                have sz_t68 : h0.size ≤ t68 := own_or hor68 sz_tb K51.1
                have g_t68 : n0 ≤ t68 := own_or hor68 g_tb Z51
                have pre71 : Pr p e below s₁ E0 T68 (mkF m 55 #[vr r0, vi (Int32.ofNat i2), vr b12] []) := fun t k => pre54 t (by
                  refine XS.icmpYes X52.here hx rfl (pc0 := 114) (pc' := 144) rfl (b d9_114) rfl (flt (own_ltF (a := i2) (b := li.length) hc53 (by omega))).2.1 (by decide) (by decide) ?_
                  refine XS.aloadN X52.here hx rfl (b d9_144) rfl rfl ?_
                  refine XS.bipush X52.here hx rfl (b d9_145) ?_
                  refine st68 _ ?_
                  show Sp p e below T68 (mkF m 150 #[vr r0, vi (Int32.ofNat i2), vr b12] [(.ref b12)]) t
                  refine XS.pop X68.here hx rfl (b d9_150) rfl rfl ?_
                  refine XS.goto X68.here hx rfl (pc0 := 151) (pc' := 55) rfl (b d9_151) (by decide) (by decide) ?_
                  exact k)
                exact ih23 (li.length - i2) (by omega) ⟨i2, (fu - 1), (ob2 ++ [(32 : Int32)]), t68, T68, _, T68.heap, rfl, (by omega), (by omega), (by rw [List.length_append]; show _ + 1 ≤ _; omega), (own_rB (by omega) (by omega) hc29 hR (hdw.symm.trans (own_dw0 (by omega))) (hst2.symm.trans (own_sN (by omega) hc43))), g_t68, sz_t68, ne_ta_t68, X68.more (by show ((3 + i) + 1) ≤ (3 + i2); omega) (by show ((19 + 10 * i) + 10) ≤ (19 + 10 * i2); omega), N68, rfl, Z68, K68, od69, u70_1, Bq68, pre71⟩
          · have pre72 : Pr p e below s₁ E0 T38 (mkF m 109 #[vr r0, vi (Int32.ofNat i), vr b12] []) := fun t k => pre40 t (by
              refine XS.ifYes X38.here hx rfl (pc0 := 78) (pc' := 109) rfl (b d9_78) rfl ((if0 _ _).trans (flt (own_ltF (a := 0) (b := ob2.length) hc39 (by omega))).2.2.2) (by decide) (by decide) ?_
              exact k)
            refine own_loop (fun k => ∃ (i2 : Nat) (T73 : State) (LL73 : List Loc) (H73 : Heap), li.length - i2 = k ∧ (i2 ≤ li.length) ∧ (i ≤ i2) ∧ ((li.drop i2).dropWhile own_ws = (li.drop i).dropWhile own_ws) ∧ Stand p l e ({ frames := 9, cells := 11, slots := 88, locals := 139 } : Room) s m #[(.ref r0)] below meth c T73 LL73 ((3 + i)) ((19 + 10 * i)) ∧ Fr n0 LL73 ∧ T73.heap = H73 ∧ n0 ≤ H73.size ∧ Keep h0 H73 [] ∧ (Old Z n0 H73) ∧ (Us Z H73 r0 ta li) ∧ (Sb Z H73 b12 tb li.length ob2) ∧ Pr p e below s₁ E0 T73 (mkF m 109 #[vr r0, vi (Int32.ofNat i2), vr b12] [])) ?_ _ ⟨i, T38, _, H37, rfl, (by omega), (by omega), rfl, X38, N38, e38, Z37, K37, lf37_0, lf37_1, lf37_2, pre72⟩
            rintro k73 ⟨i2, T73, LL73, H73, hm73, hi2, hii, hdw, X73, N73, e73, Z73, K73, lf73_0, lf73_1, lf73_2, pre73⟩ ih73
            obtain ⟨_, T74, L74, X74, hQ74, st74⟩ := own_cV X73 hx hml hZ hown (rm_sle l Z a0 hw r0 ta li H73 n0 Z73 hst lf73_0 lf73_1) (w 42 rfl) (w 44 rfl) (w 11 rfl) (w 46 rfl) (w 43 rfl) (w 45 rfl) (own_nfS hZ (w 45 rfl)) (lf73_1.exa) e73 (g := (mkF m 111 #[vr r0, vi (Int32.ofNat i2), vr b12] [(.ref r0), (.int (Int32.ofNat i2))])) (argsL := []) (rest := [(.int (Int32.ofNat i2))]) (W := 1) (lenOf own_pd26 rfl) (b d9_111) (hc := by show (3 + i) + 0 ≤ 11; omega) (hs := by show (19 + 10 * i) + 0 ≤ 88; omega)
            obtain ⟨rfl, Nq74, e74⟩ := hQ74
            have N74 := Fr.app N73 Nq74
            have pre76 : Pr p e below s₁ E0 T74 (mkF m 114 #[vr r0, vi (Int32.ofNat i2), vr b12] [(.int (Int32.ofNat li.length)), (.int (Int32.ofNat i2))]) := fun t k => pre73 t (by
              refine XS.iloadN X73.here hx rfl (b d9_109) rfl ?_
              refine XS.aloadN X73.here hx rfl (b d9_110) rfl rfl ?_
              refine st74 _ ?_
              exact k)
            by_cases hc75 : i2 < li.length
            · obtain ⟨_, T77, L77, X77, hQ77, st77⟩ := own_cV X74 hx hml hZ hown (rm_sca l Z a0 hw r0 i2 ta li H73 n0 Z73 hst lf73_0 lf73_1 (by omega)) (w 52 rfl) (w 54 rfl) (w 11 rfl) (w 56 rfl) (w 53 rfl) (w 55 rfl) (own_nfS hZ (w 55 rfl)) (lf73_1.exa) e74 (g := (mkF m 119 #[vr r0, vi (Int32.ofNat i2), vr b12] [(.int (Int32.ofNat i2)), (.ref r0)])) (argsL := [(.int (Int32.ofNat i2))]) (rest := []) (W := 0) (lenOf own_pd29 rfl) (b d9_119) (hc := by show (3 + i) + 0 ≤ 11; omega) (hs := by show (19 + 10 * i) + 0 ≤ 88; omega)
              obtain ⟨rfl, Nq77, e77⟩ := hQ77
              have N77 := Fr.app N74 Nq77
              have pre79 : Pr p e below s₁ E0 T77 (mkF m 124 #[vr r0, vi (Int32.ofNat i2), vr b12] [(.int (32 : Int32)), (.int (li.getD i2 0))]) := fun t k => pre76 t (by
                refine XS.icmpNo X74.here hx rfl (b d9_114) rfl (tlt (own_ltT (a := i2) (b := li.length) hc75 (by omega))).2.1 ?_
                refine XS.aloadN X74.here hx rfl (b d9_117) rfl rfl ?_
                refine XS.iloadN X74.here hx rfl (b d9_118) rfl ?_
                refine st77 _ ?_
                show Sp p e below T77 (mkF m 122 #[vr r0, vi (Int32.ofNat i2), vr b12] [(.int (li.getD i2 0))]) t
                refine XS.bipush X77.here hx rfl (b d9_122) ?_
                exact k)
              by_cases hc78 : (li.getD i2 0) = (32 : Int32)
              · have pre80 : Pr p e below s₁ E0 T77 (mkF m 109 #[vr r0, vi (Int32.ofNat (i2 + 1)), vr b12] []) := fun t k => pre79 t (by
                  refine XS.icmpYes X77.here hx rfl (pc0 := 124) (pc' := 138) rfl (b d9_124) rfl (teq hc78).1 (by decide) (by decide) ?_
                  refine XS.iinc X77.here hx rfl (b d9_138) rfl (l' := #[vr r0, vi ((Int32.ofNat i2) + (1 : Int32)), vr b12]) rfl ?_
                  show Sp p e below T77 (mkF m 141 #[vr r0, vi ((Int32.ofNat i2) + (1 : Int32)), vr b12] []) t
                  rw [own_a1 i2]
                  show Sp p e below T77 (mkF m 141 #[vr r0, vi (Int32.ofNat (i2 + 1)), vr b12] []) t
                  refine XS.goto X77.here hx rfl (pc0 := 141) (pc' := 109) rfl (b d9_141) (by decide) (by decide) ?_
                  exact k)
                exact ih73 (li.length - (i2 + 1)) (by omega) ⟨(i2 + 1), T77, _, H73, rfl, (by omega), (by omega), ((own_dwT (by omega) (own_w1 hc78)).trans hdw), X77, N77, e77, Z73, K73, lf73_0, lf73_1, lf73_2, pre80⟩
              · obtain ⟨_, T81, L81, X81, hQ81, st81⟩ := own_cV X77 hx hml hZ hown (rm_sca l Z a0 hw r0 i2 ta li H73 n0 Z73 hst lf73_0 lf73_1 (by omega)) (w 52 rfl) (w 54 rfl) (w 11 rfl) (w 56 rfl) (w 53 rfl) (w 55 rfl) (own_nfS hZ (w 55 rfl)) (lf73_1.exa) e77 (g := (mkF m 129 #[vr r0, vi (Int32.ofNat i2), vr b12] [(.int (Int32.ofNat i2)), (.ref r0)])) (argsL := [(.int (Int32.ofNat i2))]) (rest := []) (W := 0) (lenOf own_pd29 rfl) (b d9_129) (hc := by show (3 + i) + 0 ≤ 11; omega) (hs := by show (19 + 10 * i) + 0 ≤ 88; omega)
                obtain ⟨rfl, Nq81, e81⟩ := hQ81
                have N81 := Fr.app N77 Nq81
                obtain ⟨_, T82, L82, X82, hQ82, st82⟩ := own_cS X81 hx hml hZ hown (rm_lb l Z a0 hw (li.getD i2 0) H73 n0 Z73) (w 74 rfl) (w 75 rfl) (w 40 rfl) (w 76 rfl) e81 (g := (mkF m 132 #[vr r0, vi (Int32.ofNat i2), vr b12] [(.int (li.getD i2 0))])) (argsL := [(.int (li.getD i2 0))]) (rest := []) (W := 0) (lenOf own_pd30 rfl) (b d9_132) (hc := by show (3 + i) + 0 ≤ 11; omega) (hs := by show (19 + 10 * i) + 0 ≤ 88; omega)
                obtain ⟨rfl, Nq82, e82⟩ := hQ82
                have N82 := Fr.app N81 Nq82
                have pre84 : Pr p e below s₁ E0 T82 (mkF m 135 #[vr r0, vi (Int32.ofNat i2), vr b12] [(.int (fn_lb (li.getD i2 0)))]) := fun t k => pre79 t (by
                  refine XS.icmpNo X77.here hx rfl (b d9_124) rfl (feq hc78).1 ?_
                  refine XS.aloadN X77.here hx rfl (b d9_127) rfl rfl ?_
                  refine XS.iloadN X77.here hx rfl (b d9_128) rfl ?_
                  refine st81 _ ?_
                  show Sp p e below T81 (mkF m 132 #[vr r0, vi (Int32.ofNat i2), vr b12] [(.int (li.getD i2 0))]) t
                  refine st82 _ ?_
                  exact k)
                by_cases hc83 : (fn_lb (li.getD i2 0)) = (0 : Int32)
                · have hlt2 : i < i2 := by
                    rcases Nat.lt_or_ge i i2 with q | q
                    · exact q
                    · exact absurd hc83 (by rw [show i = i2 by omega] at hc29; exact hc29)
                  obtain ⟨_, T85, L85, X85, hQ85, st85⟩ := own_cV X82 hx hml hZ hown (rm_sac l Z a0 hw b12 (32 : Int32) tb li.length ob2 H73 n0 Z73 hst lf73_0 lf73_2 g_b12 g_tb (by omega) own_c32) (w 165 rfl) (w 167 rfl) (w 90 rfl) (w 169 rfl) (w 166 rfl) (w 168 rfl) (own_nfS hZ (w 168 rfl)) (lf73_2.exa) e82 (g := (mkF m 147 #[vr r0, vi (Int32.ofNat i2), vr b12] [(.int (32 : Int32)), (.ref b12)])) (argsL := [(.int (32 : Int32))]) (rest := []) (W := 0) (lenOf own_pd42 rfl) (b d9_147) (hc := by show (3 + i) + 1 ≤ 11; omega) (hs := by show (19 + 10 * i) + 10 ≤ 88; omega)
                  obtain ⟨rfl, Nq85, Kq85, t85, hor85, Bq85⟩ := hQ85
                  have N85 := Fr.app N82 Nq85
                  have od86 := lf73_0.keep Kq85 (allS g_b12 (allS g_tb all0))
                  have u87_1 := lf73_1.keep Kq85 (ninS ne_r0_b12 (ninS (lf73_2.neT (lf73_1.exa) (w 10 rfl)) nin0)) (ninS ne_ta_b12 (ninS hnt nin0))
                  have Z85 : n0 ≤ T85.heap.size := Nat.le_trans Z73 Kq85.1
                  have K85 := K73.trans Kq85 (allS (Or.inr sz_b12) (allS (Or.inr sz_tb) all0))
                  have ne_ta_t85 : ta ≠ t85 := own_nor hor85 hnt lf73_1.ltt
                  have sz_t85 : h0.size ≤ t85 := own_or hor85 sz_tb K73.1
                  have g_t85 : n0 ≤ t85 := own_or hor85 g_tb Z73
                  have pre88 : Pr p e below s₁ E0 T85 (mkF m 55 #[vr r0, vi (Int32.ofNat i2), vr b12] []) := fun t k => pre84 t (by
                    refine XS.ifYes X82.here hx rfl (pc0 := 135) (pc' := 144) rfl (b d9_135) rfl ((if0 _ _).trans (teq hc83).1) (by decide) (by decide) ?_
                    refine XS.aloadN X82.here hx rfl (b d9_144) rfl rfl ?_
                    refine XS.bipush X82.here hx rfl (b d9_145) ?_
                    refine st85 _ ?_
                    show Sp p e below T85 (mkF m 150 #[vr r0, vi (Int32.ofNat i2), vr b12] [(.ref b12)]) t
                    refine XS.pop X85.here hx rfl (b d9_150) rfl rfl ?_
                    refine XS.goto X85.here hx rfl (pc0 := 151) (pc' := 55) rfl (b d9_151) (by decide) (by decide) ?_
                    exact k)
                  exact ih23 (li.length - i2) (by omega) ⟨i2, (fu - 1), (ob2 ++ [(32 : Int32)]), t85, T85, _, T85.heap, rfl, (by omega), (by omega), (by rw [List.length_append]; show _ + 1 ≤ _; omega), (own_rB (by omega) (by omega) hc29 hR (hdw.symm.trans (own_dwN (by omega) (own_w3 hc78 hc83))) (hst2.symm.trans (own_sE (by omega)))), g_t85, sz_t85, ne_ta_t85, X85.more (by show ((3 + i) + 1) ≤ (3 + i2); omega) (by show ((19 + 10 * i) + 10) ≤ (19 + 10 * i2); omega), N85, rfl, Z85, K85, od86, u87_1, Bq85, pre88⟩
                · have pre89 : Pr p e below s₁ E0 T82 (mkF m 109 #[vr r0, vi (Int32.ofNat (i2 + 1)), vr b12] []) := fun t k => pre84 t (by
                    refine XS.ifNo X82.here hx rfl (b d9_135) rfl ((if0 _ _).trans (feq hc83).1) ?_
                    refine XS.iinc X82.here hx rfl (b d9_138) rfl (l' := #[vr r0, vi ((Int32.ofNat i2) + (1 : Int32)), vr b12]) rfl ?_
                    show Sp p e below T82 (mkF m 141 #[vr r0, vi ((Int32.ofNat i2) + (1 : Int32)), vr b12] []) t
                    rw [own_a1 i2]
                    show Sp p e below T82 (mkF m 141 #[vr r0, vi (Int32.ofNat (i2 + 1)), vr b12] []) t
                    refine XS.goto X82.here hx rfl (pc0 := 141) (pc' := 109) rfl (b d9_141) (by decide) (by decide) ?_
                    exact k)
                  exact ih73 (li.length - (i2 + 1)) (by omega) ⟨(i2 + 1), T82, _, H73, rfl, (by omega), (by omega), ((own_dwT (by omega) (own_w2 hc83)).trans hdw), X82, N82, e82, Z73, K73, lf73_0, lf73_1, lf73_2, pre89⟩
            · have hlt2 : i < i2 := by omega
              obtain ⟨_, T90, L90, X90, hQ90, st90⟩ := own_cV X74 hx hml hZ hown (rm_sac l Z a0 hw b12 (32 : Int32) tb li.length ob2 H73 n0 Z73 hst lf73_0 lf73_2 g_b12 g_tb (by omega) own_c32) (w 165 rfl) (w 167 rfl) (w 90 rfl) (w 169 rfl) (w 166 rfl) (w 168 rfl) (own_nfS hZ (w 168 rfl)) (lf73_2.exa) e74 (g := (mkF m 147 #[vr r0, vi (Int32.ofNat i2), vr b12] [(.int (32 : Int32)), (.ref b12)])) (argsL := [(.int (32 : Int32))]) (rest := []) (W := 0) (lenOf own_pd42 rfl) (b d9_147) (hc := by show (3 + i) + 1 ≤ 11; omega) (hs := by show (19 + 10 * i) + 10 ≤ 88; omega)
              obtain ⟨rfl, Nq90, Kq90, t90, hor90, Bq90⟩ := hQ90
              have N90 := Fr.app N74 Nq90
              have od91 := lf73_0.keep Kq90 (allS g_b12 (allS g_tb all0))
              have u92_1 := lf73_1.keep Kq90 (ninS ne_r0_b12 (ninS (lf73_2.neT (lf73_1.exa) (w 10 rfl)) nin0)) (ninS ne_ta_b12 (ninS hnt nin0))
              have Z90 : n0 ≤ T90.heap.size := Nat.le_trans Z73 Kq90.1
              have K90 := K73.trans Kq90 (allS (Or.inr sz_b12) (allS (Or.inr sz_tb) all0))
              have ne_ta_t90 : ta ≠ t90 := own_nor hor90 hnt lf73_1.ltt
              have sz_t90 : h0.size ≤ t90 := own_or hor90 sz_tb K73.1
              have g_t90 : n0 ≤ t90 := own_or hor90 g_tb Z73
              have pre93 : Pr p e below s₁ E0 T90 (mkF m 55 #[vr r0, vi (Int32.ofNat i2), vr b12] []) := fun t k => pre76 t (by
                refine XS.icmpYes X74.here hx rfl (pc0 := 114) (pc' := 144) rfl (b d9_114) rfl (flt (own_ltF (a := i2) (b := li.length) hc75 (by omega))).2.1 (by decide) (by decide) ?_
                refine XS.aloadN X74.here hx rfl (b d9_144) rfl rfl ?_
                refine XS.bipush X74.here hx rfl (b d9_145) ?_
                refine st90 _ ?_
                show Sp p e below T90 (mkF m 150 #[vr r0, vi (Int32.ofNat i2), vr b12] [(.ref b12)]) t
                refine XS.pop X90.here hx rfl (b d9_150) rfl rfl ?_
                refine XS.goto X90.here hx rfl (pc0 := 151) (pc' := 55) rfl (b d9_151) (by decide) (by decide) ?_
                exact k)
              exact ih23 (li.length - i2) (by omega) ⟨i2, (fu - 1), (ob2 ++ [(32 : Int32)]), t90, T90, _, T90.heap, rfl, (by omega), (by omega), (by rw [List.length_append]; show _ + 1 ≤ _; omega), (own_rB (by omega) (by omega) hc29 hR (hdw.symm.trans (own_dw0 (by omega))) (hst2.symm.trans (own_sE (by omega)))), g_t90, sz_t90, ne_ta_t90, X90.more (by show ((3 + i) + 1) ≤ (3 + i2); omega) (by show ((19 + 10 * i) + 10) ≤ (19 + 10 * i2); omega), N90, rfl, Z90, K90, od91, u92_1, Bq90, pre93⟩
      · have pre95 : Pr p e below s₁ E0 T24 (mkF m 170 #[vr r0, vi (Int32.ofNat i), vr b12] []) := fun t k => pre26 t (by
          refine XS.icmpYes X24.here hx rfl (pc0 := 60) (pc' := 170) rfl (b d9_60) rfl (flt (own_ltF (a := i) (b := li.length) hc25 (by omega))).2.1 (by decide) (by decide) ?_
          exact k)
        have X94 := X24.more (cells' := 8) (slots' := 69) (by show (3 + i) ≤ 8; omega) (by show (19 + 10 * i) ≤ 69; omega)
        obtain ⟨_, T96, L96, X96, hQ96, st96⟩ := own_cV X94 hx hml hZ hown (rm_sts l Z a0 hw b12 tb li.length ob H23 n0 Z23 hst lf23_0 lf23_2) (w 191 rfl) (w 193 rfl) (w 90 rfl) (w 195 rfl) (w 192 rfl) (w 194 rfl) (own_nfS hZ (w 194 rfl)) (lf23_2.exa) e24 (g := (mkF m 171 #[vr r0, vi (Int32.ofNat i), vr b12] [(.ref b12)])) (argsL := []) (rest := []) (W := 0) (lenOf own_pd43 rfl) (b d9_171)
        obtain ⟨u96, t96, rfl, Nq96, Kq96, Uq96⟩ := hQ96
        have N96 := Fr.app N24 Nq96
        have od97 := lf23_0.keep Kq96 all0
        have u98_1 := lf23_1.keep Kq96 nin0 nin0
        have u98_2 := lf23_2.keep Kq96 nin0 nin0
        have Z96 : n0 ≤ T96.heap.size := Nat.le_trans Z23 Kq96.1
        have K96 := K23.trans Kq96 all0
        have pre99 : Pr p e below s₁ E0 T96 (mkF m 174 #[vr r0, vi (Int32.ofNat i), vr b12] [(.ref u96)]) := fun t k => pre95 t (by
          refine XS.aloadN X94.here hx rfl (b d9_170) rfl rfl ?_
          refine st96 _ ?_
          exact k)
        exact own_end X96 hlk (v := some (.ref u96)) (own_hv hret) pre99 (fun fs hr => own_ra X96 hx hret rfl (b d9_174) hr) ⟨u96, t96, rfl, N96, K96, by rw [← own_rE (by omega) hR]; exact Uq96⟩
  · obtain ⟨_, T100, L100, X100, hQ100, st100⟩ := own_cV X3 hx hml hZ hown (rm_sle l Z a0 hw r0 ta li H2 n0 Z2 hst lf2_1 lf2_0) (w 42 rfl) (w 44 rfl) (w 11 rfl) (w 46 rfl) (w 43 rfl) (w 45 rfl) (own_nfS hZ (w 45 rfl)) (lf2_0.exa) e3 (g := (mkF m 29 #[vr r0, vi (Int32.ofNat ia), vu] [(.ref r0), (.int (Int32.ofNat ia))])) (argsL := []) (rest := [(.int (Int32.ofNat ia))]) (W := 1) (lenOf own_pd26 rfl) (b d9_29)
    obtain ⟨rfl, Nq100, e100⟩ := hQ100
    have N100 := Fr.app N3 Nq100
    have pre101 : Pr p e below s₁ E0 T100 (mkF m 36 #[vr r0, vi (Int32.ofNat ia), vu] [(.ref r0)]) := fun t k => pre5 t (by
      refine XS.icmpYes X3.here hx rfl (pc0 := 7) (pc' := 27) rfl (b d9_7) rfl (flt (own_ltF (a := ia) (b := li.length) hc4 (by omega))).2.1 (by decide) (by decide) ?_
      refine XS.iloadN X3.here hx rfl (b d9_27) rfl ?_
      refine XS.aloadN X3.here hx rfl (b d9_28) rfl rfl ?_
      refine st100 _ ?_
      show Sp p e below T100 (mkF m 32 #[vr r0, vi (Int32.ofNat ia), vu] [(.int (Int32.ofNat li.length)), (.int (Int32.ofNat ia))]) t
      refine XS.icmpNo X100.here hx rfl (b d9_32) rfl (teq (own_eqT (a := ia) (b := li.length) (show ia = li.length by omega))).2 ?_
      refine XS.aloadN X100.here hx rfl (b d9_35) rfl rfl ?_
      exact k)
    exact own_end X100 hlk (v := some (.ref r0)) (own_hv hret) pre101 (fun fs hr => own_ra X100 hx hret rfl (b d9_36) hr) (by rw [e100]; exact ⟨r0, ta, rfl, N100, K2, by rw [← own_rF (by omega) hRA]; exact lf2_0⟩)
theorem own_sub : ∀ a ∈ Bundle.stringAtoms, a ∈ tables_1 := by decide +kernel
theorem own_wS {Z : State} {a0 : Array Value} (hw : Hw a0 Z) : ∀ a ∈ Bundle.stringAtoms, a.before a0 Z = true := fun a ha => hw a (own_sub a ha)
theorem own_EW {Z : State} {a0 : Array Value} (hw : Hw a0 Z) : EW Z a0 consts_1 := EW.cons (own_w hw 224 rfl) (by decide) EW.nil
theorem own_blank {Z : State} {EL : List (String × Nat)} {vm : Vm} {h : Heap} {x : Addr} (hal : Z.vm.Alike vm) (E : Exa Z h x "java/lang/String") (V : Fld Z h x "java/lang/String" "value" "[B" .null) : Safe Z EL vm h x := fun Bx => by
  obtain ⟨p, -, u, a, -, q, -, F, rfl | rfl⟩ := Bx
  · have hq := F.ha
    obtain ⟨cS, ⟨⟨s1, s2, s3, ⟨cv, kv, iv, s4, s4'⟩, ⟨cc, kc, ic, s5, s5'⟩, s6, s7, s8, s9, s10, s11, s12, s13, s14, s15, s16⟩, hfS, hcS⟩, ⟨kS, k1, k2, k3⟩, hB, hbyt⟩ := F
    obtain ⟨cell, cf, k, i, f, h1, h2, h3, h4, h5, h6, h7⟩ := V
    obtain ⟨kv', z4⟩ := ff_back (U := Wst Z vm h) hal s4
    cases h1.symm.trans (show h[q.sa]? = some q.sC from hq)
    have e4 := h2.symm.trans z4
    simp only [Option.some.injEq, Prod.mk.injEq] at e4
    rw [e4.2.2.2] at h7
    cases h7.symm.trans s8
  · have hd := F.hd
    obtain ⟨cS, -, -, hB, -⟩ := F
    obtain ⟨cell, k, e1, e2, e3, -, -⟩ := E
    cases e1.symm.trans (show h[q.sd]? = some q.SA from hd)
    have hB' : vm.findClass "[B" = some q.SA.cls := hB
    rw [hal.findClass] at hB'
    obtain ⟨k1, q1, q2⟩ := Vm.findClass_spec hB'
    obtain ⟨k2, q3, q4⟩ := Vm.findClass_spec e2
    cases q1.symm.trans q3
    exact absurd (q2.symm.trans q4) (by decide)
theorem d4_8 : dk C4 8 (.aload_n 0) 1 := by decide +kernel
theorem d4_9 : dk C4 9 (.ldc 7) 2 := by decide +kernel
theorem d4_11 : dk C4 11 (.getfield 9) 3 := by decide +kernel
theorem d4_14 : dk C4 14 (.putfield 9) 3 := by decide +kernel
theorem d4_17 : dk C4 17 (.aload_n 0) 1 := by decide +kernel
theorem d4_18 : dk C4 18 (.ldc 7) 2 := by decide +kernel
theorem d4_20 : dk C4 20 (.getfield 15) 3 := by decide +kernel
theorem d4_23 : dk C4 23 (.putfield 15) 3 := by decide +kernel
theorem d4_26 : dk C4 26 .return_ 1 := by decide +kernel
theorem ef_e4 (m : MethodId) (r0 : Addr) (r1 : Addr) : entryFrame m #[(.ref r0), (.ref r1), (.int (0 : Int32)), (.int (0 : Int32)), .null] 6 = mkF m 0 #[vr r0, vr r1, vi (0 : Int32), vi (0 : Int32), .val .null, vu] [] := by first | (simp [entryFrame, mkF, argsToLocals, Value.category, vr, vi, vu]; done) | rfl
def Q_e4 (Z : State) (r0 : Addr) (r1 : Addr) (h0 : Heap) (n0 : Nat) (v : Option Value) (h : Heap) (L : List Loc) : Prop := v = none ∧ Fr n0 L ∧ Keep h0 h [r0] ∧ ∃ t, Us Z h r0 t []
set_option maxRecDepth 65536 in
set_option maxHeartbeats 40000000 in
theorem rm_e4 (l : Launch) (Z : State) (a0 : Array Value) (hw : ∀ d ∈ tables_1, d.before a0 Z = true) (ws : List Jvm.Cond) (r0 : Addr) (r1 : Addr) (h0 : Heap) (n0 : Nat) (Z0 : n0 ≤ h0.size) (E_r0 : Exa Z h0 r0 "java/lang/String") (g_r0 : n0 ≤ r0) (F_value : Fld Z h0 r0 "java/lang/String" "value" "[B" .null) (F_coder : Fld Z h0 r0 "java/lang/String" "coder" "B" (.int (0 : Int32))) :
    MetFree l (⟨"java/lang/String", "<init>", "([CIILjava/lang/Void;)V"⟩ : MethodName) (head1 (Jvm.Cond.code (⟨"java/lang/String", "<init>", "([CIILjava/lang/Void;)V"⟩ : MethodName) jdk_42_method_149_code 6 none :: ws) ({ frames := 1, cells := 4, slots := 8, locals := 12 } : Room)) (fun a U => a = #[(.ref r0), (.ref r1), (.int (0 : Int32)), (.int (0 : Int32)), .null] ∧ Z.Warmed39 U.vm ∧ U.heap = h0 ∧ CHv Z consts_1 U.vm h0) (fun _ _ _ _ _ => True) (fun _ U o U' => ∃ v L, o = .returned v ∧ Q_e4 Z r0 r1 h0 n0 v U'.heap L ∧ CHr Z consts_1 U.vm U.heap U'.vm U'.heap ∧ ReturnedEndW U o U' L ({ frames := 1, cells := 4, slots := 8, locals := 12 } : Room).cells ({ frames := 1, cells := 4, slots := 8, locals := 12 } : Room).slots) := by
  refine MetFree.of_bodySF (plainFor_of_name own_pn2) hisR ?_
  intro p e s m args below meth c s₁ Bd hml0 hP hK
  obtain ⟨rfl, hZ, hh, hC0⟩ := hP
  have hx := Bd.exec
  have hby := Bd.bytes
  have hret := Bd.returns
  have w := own_w hw
  have b : ∀ {pc : Nat} {i : Instr} {n : Nat}, dk C4 pc i n → decode c.code pc = .ok (i, n) := fun d => hb hby d
  have hml : c.maxLocals = 6 := hml0
  have hown : s.vm.findClass "java/lang/String" = some m.cls := findClass_of_methodNamed Bd.named
  have hnm := (name_of_methodNamed Bd.named Bd.method).1
  have X0 : Stand p l e ({ frames := 1, cells := 4, slots := 8, locals := 12 } : Room) (s.setVm s.vm) m #[(.ref r0), (.ref r1), (.int (0 : Int32)), (.int (0 : Int32)), .null] below meth c s₁ [] 0 0 := Stand.of_body Bd
  have e0 : s₁.heap = h0 := by rw [← hh, Bd.state]; rfl
  have N0 := Fr.nil n0
  have pre0 : ∀ t, Steps p.tables e below (s₁.setTop (mkF m 0 #[vr r0, vr r1, vi (0 : Int32), vi (0 : Int32), .val .null, vu] [])) t → Steps p.tables e below (s₁.setTop (entryFrame m #[(.ref r0), (.ref r1), (.int (0 : Int32)), (.int (0 : Int32)), .null] 6)) t := fun t k => castTop (ef_e4 m r0 r1) k
  generalize hE0 : entryFrame m #[(.ref r0), (.ref r1), (.int (0 : Int32)), (.int (0 : Int32)), .null] 6 = E0 at pre0 ⊢
  have hEL := own_EW hw
  have wS := own_wS hw
  have hS0 : s.Since s.vm s.heap.size := (State.WarmedH.refl s).since _
  have hk0 : s.heap.size ≤ h0.size := by rw [hh]; exact Nat.le_refl _
  have hA0 : CHr Z consts_1 s.vm h0 s.vm h0 := CHr.refl hC0
  have K0 : Keep h0 h0 [r0] := Keep.refl h0 _
  have sb_r0 : Safe Z consts_1 s.vm h0 r0 := own_blank hZ.alike E_r0 F_value
  have pre1 : Pr p e below s₁ E0 s₁ (mkF m 1 #[vr r0, vr r1, vi (0 : Int32), vi (0 : Int32), .val .null, vu] [(.ref r0)]) := fun t k => pre0 t (by
    refine XS.aloadN X0.here hx rfl (b d4_0) rfl rfl ?_
    exact k)
  obtain ⟨T2, X2, e2, st2⟩ := initO X0 hx hZ hown (w 19 rfl) (w 20 rfl) (w 21 rfl) e0 (g := (mkF m 1 #[vr r0, vr r1, vi (0 : Int32), vi (0 : Int32), .val .null, vu] [(.ref r0)])) rfl (by rw [hml]; rfl) rfl (b d4_1) (by decide) (W := 0) (by show 2 * 0 + _ ≤ _; exact Nat.le_of_eq rfl) (by decide)
  have pre3 : Pr p e below s₁ E0 T2 (mkF m 9 #[vr r0, vr r1, vi (0 : Int32), vi (0 : Int32), .val .null, vu] [(.ref r0)]) := fun t k => pre1 t (by
    refine st2 _ ?_
    show Sp p e below T2 (mkF m 4 #[vr r0, vr r1, vi (0 : Int32), vi (0 : Int32), .val .null, vu] []) t
    refine XS.iloadN X2.here hx rfl (b d4_4) rfl ?_
    show Sp p e below T2 (mkF m 5 #[vr r0, vr r1, vi (0 : Int32), vi (0 : Int32), .val .null, vu] [(.int (0 : Int32))]) t
    refine XS.ifNo X2.here hx rfl (b d4_5) rfl ((if0 _ _).trans (teq (by decide : (0 : Int32) = (0 : Int32))).2) ?_
    refine XS.aloadN X2.here hx rfl (b d4_8) rfl rfl ?_
    exact k)
  obtain ⟨a4, T4, h4, k14, b4, kk4, X4, e4, E4, hS4, hkk4, hZ, hown, Ex4, Fc4, Fv4, Av4, lta4, ltb4, hR4, -, hsf4, st4⟩ := ldcCH X2 hx hZ hown (w 224 rfl) wS e2 hS0 hk0 hEL (by simp [consts_1]) hC0 (vs := []) (z := (0 : Int32)) ⟨by decide, by decide⟩ (by decide) (by decide) (g := (mkF m 9 #[vr r0, vr r1, vi (0 : Int32), vi (0 : Int32), .val .null, vu] [(.ref r0)])) rfl (b d4_9) (n := 0) (by decide) (by decide) (by decide) (by decide)
  have sg4_r0 := hR4.safe E_r0.lt sb_r0
  have f5_1 := E_r0.ext E4
  have f5_2 := F_value.ext E4
  have f5_3 := F_coder.ext E4
  have hA4 := hA0.trans hR4
  have hC4 := hR4.1
  have Z4 : n0 ≤ h4.size := Nat.le_trans Z0 E4.1
  have K4 := K0.ext E4
  obtain ⟨T7, X7, e7, st7⟩ := getF X4 hx hZ hown (host := "") (Or.inl (w 36 rfl)) Via.refl e4 Fv4 (g := (mkF m 11 #[vr r0, vr r1, vi (0 : Int32), vi (0 : Int32), .val .null, vu] [(.ref a4), (.ref r0)])) rfl rfl (b d4_11)
  obtain ⟨T8, h8, X8, e8, W8, st8⟩ := putF X7 hx hZ hown (host := "") (Or.inl (w 36 rfl)) Via.refl e7 f5_2 f5_1 (Or.inr ⟨(w 37 rfl), rfl, hnm⟩) (w 10 rfl) (ty := (.array .byte)) (by decide) rfl rfl (g := (mkF m 14 #[vr r0, vr r1, vi (0 : Int32), vi (0 : Int32), .val .null, vu] [(.ref b4), (.ref r0)])) rfl rfl (b d4_14)
  have Fw8 := f5_2.same W8
  have sf9_r0 := Safe.wr W8 sg4_r0 hC4 sg4_r0
  have hr9 := CHr.wr W8 sg4_r0 hC4
  have hA9 := hA4.trans hr9
  have hC9 := hr9.1
  have hk9 := Nat.le_trans hkk4 hr9.2.1
  have f9_1 := f5_1.wr W8
  have f9_3 := f5_3.other W8 (Or.inr (slot_ne (Or.inr (w 35 rfl)) (Or.inr (w 37 rfl)) (by decide) (t := .byte) (t' := (.array .byte)) (by decide) (by decide)))
  have f9_4 := Ex4.wr W8
  have f9_5 := Fc4.other W8 (Or.inl (Ne.symm (hsf4 _ sg4_r0).1))
  have f9_6 := Fv4.other W8 (Or.inl (Ne.symm (hsf4 _ sg4_r0).1))
  have f9_7 := Av4.other W8 (Ne.symm (hsf4 _ sg4_r0).2)
  have N8 := Fr.snoc X8 N0 g_r0
  have Z8 : n0 ≤ h8.size := Nat.le_trans Z4 (Keep.of_wr W8).1
  have K8 := K4.wr W8 (Or.inl (by simp))
  have pre11 : Pr p e below s₁ E0 T8 (mkF m 18 #[vr r0, vr r1, vi (0 : Int32), vi (0 : Int32), .val .null, vu] [(.ref r0)]) := fun t k => pre3 t (by
    refine st4 _ ?_
    show Sp p e below T4 (mkF m 11 #[vr r0, vr r1, vi (0 : Int32), vi (0 : Int32), .val .null, vu] [(.ref a4), (.ref r0)]) t
    refine st7 _ ?_
    show Sp p e below T7 (mkF m 14 #[vr r0, vr r1, vi (0 : Int32), vi (0 : Int32), .val .null, vu] [(.ref b4), (.ref r0)]) t
    refine st8 _ ?_
    show Sp p e below T8 (mkF m 17 #[vr r0, vr r1, vi (0 : Int32), vi (0 : Int32), .val .null, vu] []) t
    refine XS.aloadN X8.here hx rfl (b d4_17) rfl rfl ?_
    exact k)
  obtain ⟨a12, T12, h12, k112, b12, kk12, X12, e12, E12, hS12, hkk12, hZ, hown, Ex12, Fc12, Fv12, Av12, lta12, ltb12, hR12, -, hsf12, st12⟩ := ldcCH X8 hx hZ hown (w 224 rfl) wS e8 hS4 hk9 hEL (by simp [consts_1]) hC9 (vs := []) (z := (0 : Int32)) ⟨by decide, by decide⟩ (by decide) (by decide) (g := (mkF m 18 #[vr r0, vr r1, vi (0 : Int32), vi (0 : Int32), .val .null, vu] [(.ref r0)])) rfl (b d4_18) (n := 0) (by decide) (by decide) (by decide) (by decide)
  have sg12_r0 := hR12.safe f9_1.lt sf9_r0
  have f13_1 := f9_1.ext E12
  have f13_2 := Fw8.ext E12
  have f13_3 := f9_3.ext E12
  have f13_4 := f9_4.ext E12
  have f13_5 := f9_5.ext E12
  have f13_6 := f9_6.ext E12
  have f13_7 := f9_7.ext E12
  have hA12 := hA9.trans hR12
  have hC12 := hR12.1
  have Z12 : n0 ≤ h12.size := Nat.le_trans Z8 E12.1
  have K12 := K8.ext E12
  obtain ⟨T15, X15, e15, st15⟩ := getF X12 hx hZ hown (host := "") (Or.inl (w 34 rfl)) Via.refl e12 Fc12 (g := (mkF m 20 #[vr r0, vr r1, vi (0 : Int32), vi (0 : Int32), .val .null, vu] [(.ref a12), (.ref r0)])) rfl rfl (b d4_20)
  obtain ⟨T16, h16, X16, e16, W16, st16⟩ := putFN X15 hx hZ hown (w 34 rfl) Via.refl e15 f13_3 f13_1 (Or.inr ⟨(w 35 rfl), rfl, hnm⟩) (w 10 rfl) (ty := .byte) (v' := (.int (0 : Int32))) (by decide) rfl rfl (g := (mkF m 23 #[vr r0, vr r1, vi (0 : Int32), vi (0 : Int32), .val .null, vu] [(.int (0 : Int32)), (.ref r0)])) rfl rfl (b d4_23)
  have Fw16 := f13_3.same W16
  have sf17_r0 := Safe.wr W16 sg12_r0 hC12 sg12_r0
  have hr17 := CHr.wr W16 sg12_r0 hC12
  have hA17 := hA12.trans hr17
  have hC17 := hr17.1
  have hk17 := Nat.le_trans hkk12 hr17.2.1
  have f17_1 := f13_1.wr W16
  have f17_2 := f13_2.other W16 (Or.inr (slot_ne (Or.inr (w 37 rfl)) (Or.inr (w 35 rfl)) (by decide) (t := (.array .byte)) (t' := .byte) (by decide) (by decide)))
  have f17_4 := f13_4.wr W16
  have f17_5 := f13_5.other W16 (Or.inl (Ne.symm (hsf4 _ sg4_r0).1))
  have f17_6 := f13_6.other W16 (Or.inl (Ne.symm (hsf4 _ sg4_r0).1))
  have f17_7 := f13_7.other W16 (Ne.symm (hsf4 _ sg4_r0).2)
  have f17_8 := Ex12.wr W16
  have f17_9 := Fc12.other W16 (Or.inl (Ne.symm (hsf12 _ sg12_r0).1))
  have f17_10 := Fv12.other W16 (Or.inl (Ne.symm (hsf12 _ sg12_r0).1))
  have f17_11 := Av12.other W16 (Ne.symm (hsf12 _ sg12_r0).2)
  have N16 := Fr.snoc X16 N8 g_r0
  have Z16 : n0 ≤ h16.size := Nat.le_trans Z12 (Keep.of_wr W16).1
  have K16 := K12.wr W16 (Or.inl (by simp))
  obtain ⟨fs, hr, hrun, hended, hEnd⟩ := X16.leaveW hS12 (by rw [e16]; exact hk17) (v := none) (fun _ => rfl)
  have hAe := hA17.trans (CHv.at X16 hZ hEL hC17)
  refine ⟨_, _, pre11 _ ?_, hrun, hended, _, _, rfl, ?_, ?_, hEnd.1, hEnd.2.1, hEnd.2.2.1, hEnd.2.2.2.mono (by decide) (by decide)⟩
  · show Sp p e below T8 (mkF m 18 #[vr r0, vr r1, vi (0 : Int32), vi (0 : Int32), .val .null, vu] [(.ref r0)]) _
    refine st12 _ ?_
    show Sp p e below T12 (mkF m 20 #[vr r0, vr r1, vi (0 : Int32), vi (0 : Int32), .val .null, vu] [(.ref a12), (.ref r0)]) _
    refine st15 _ ?_
    show Sp p e below T15 (mkF m 23 #[vr r0, vr r1, vi (0 : Int32), vi (0 : Int32), .val .null, vu] [(.int (0 : Int32)), (.ref r0)]) _
    refine st16 _ ?_
    show Sp p e below T16 (mkF m 26 #[vr r0, vr r1, vi (0 : Int32), vi (0 : Int32), .val .null, vu] []) _
    exact X16.returnOut hx hret (b d4_26) hr
  · show Q_e4 Z r0 r1 h0 n0 _ T16.heap _
    rw [e16]
    exact ⟨rfl, N16, K16, b4, (0 : Int32), 0, (fun _ => 0), f17_1, Fw16, f17_2, Ay.of_arv (N := 0) (by omega) f17_7 (fun i hi => absurd hi (by omega)), Cod.ofL rfl (fun i hi => absurd hi (Nat.not_lt_zero _)) (fun i hi => absurd hi (Nat.not_lt_zero _)), by decide⟩
  · rw [hh]
    show CHr Z consts_1 s.vm h0 T16.vm T16.heap
    rw [e16]
    exact hAe
theorem ef_e3 (m : MethodId) (r0 : Addr) (r1 : Addr) : entryFrame m #[(.ref r0), (.ref r1)] 2 = mkF m 0 #[vr r0, vr r1] [] := by first | (simp [entryFrame, mkF, argsToLocals, Value.category, vr, vi, vu]; done) | rfl
def Q_e3 (Z : State) (r0 : Addr) (r1 : Addr) (f : Nat → Int32) (h0 : Heap) (n0 : Nat) (v : Option Value) (h : Heap) (L : List Loc) : Prop := v = none ∧ Fr n0 L ∧ Keep h0 h [r0] ∧ ∃ t, Us Z h r0 t []
set_option maxRecDepth 65536 in
set_option maxHeartbeats 40000000 in
theorem rm_e3 (l : Launch) (Z : State) (a0 : Array Value) (hw : ∀ d ∈ tables_1, d.before a0 Z = true) (ws : List Jvm.Cond) (r0 : Addr) (r1 : Addr) (f : Nat → Int32) (h0 : Heap) (n0 : Nat) (Z0 : n0 ≤ h0.size) (E_r0 : Exa Z h0 r0 "java/lang/String") (g_r0 : n0 ≤ r0) (F_value : Fld Z h0 r0 "java/lang/String" "value" "[B" .null) (F_coder : Fld Z h0 r0 "java/lang/String" "coder" "B" (.int (0 : Int32))) (Y_r1 : Ay Z h0 r1 .char 0 f) :
    MetFree l (⟨"java/lang/String", "<init>", "([C)V"⟩ : MethodName) (head1 (Jvm.Cond.code (⟨"java/lang/String", "<init>", "([C)V"⟩ : MethodName) jdk_42_method_3_code 2 none :: ws) ({ frames := 2, cells := 4, slots := 8, locals := 29 } : Room)) (fun a U => a = #[(.ref r0), (.ref r1)] ∧ Z.Warmed39 U.vm ∧ U.heap = h0 ∧ CHv Z consts_1 U.vm h0) (fun _ _ _ _ _ => True) (fun _ U o U' => ∃ v L, o = .returned v ∧ Q_e3 Z r0 r1 f h0 n0 v U'.heap L ∧ CHr Z consts_1 U.vm U.heap U'.vm U'.heap ∧ ReturnedEndW U o U' L ({ frames := 2, cells := 4, slots := 8, locals := 29 } : Room).cells ({ frames := 2, cells := 4, slots := 8, locals := 29 } : Room).slots) := by
  refine MetFree.of_bodySF (plainFor_of_name own_pn2) hisR ?_
  intro p e s m args below meth c s₁ Bd hml0 hP hK
  obtain ⟨rfl, hZ, hh, hC0⟩ := hP
  have hx := Bd.exec
  have hby := Bd.bytes
  have hret := Bd.returns
  have w := own_w hw
  have b : ∀ {pc : Nat} {i : Instr} {n : Nat}, dk C3 pc i n → decode c.code pc = .ok (i, n) := fun d => hb hby d
  have hml : c.maxLocals = 2 := hml0
  have hown : s.vm.findClass "java/lang/String" = some m.cls := findClass_of_methodNamed Bd.named
  have hnm := (name_of_methodNamed Bd.named Bd.method).1
  have X0 : Stand p l e ({ frames := 2, cells := 4, slots := 8, locals := 29 } : Room) (s.setVm s.vm) m #[(.ref r0), (.ref r1)] below meth c s₁ [] 0 0 := Stand.of_body Bd
  have e0 : s₁.heap = h0 := by rw [← hh, Bd.state]; rfl
  have N0 := Fr.nil n0
  have pre0 : ∀ t, Steps p.tables e below (s₁.setTop (mkF m 0 #[vr r0, vr r1] [])) t → Steps p.tables e below (s₁.setTop (entryFrame m #[(.ref r0), (.ref r1)] 2)) t := fun t k => castTop (ef_e3 m r0 r1) k
  generalize hE0 : entryFrame m #[(.ref r0), (.ref r1)] 2 = E0 at pre0 ⊢
  have hEL := own_EW hw
  have wS := own_wS hw
  have hS0 : s.Since s.vm s.heap.size := (State.WarmedH.refl s).since _
  have hk0 : s.heap.size ≤ h0.size := by rw [hh]; exact Nat.le_refl _
  have hA0 : CHr Z consts_1 s.vm h0 s.vm h0 := CHr.refl hC0
  have K0 : Keep h0 h0 [r0] := Keep.refl h0 _
  have sb_r0 : Safe Z consts_1 s.vm h0 r0 := own_blank hZ.alike E_r0 F_value
  obtain ⟨qn1, cl1, Ar1, S1, H1⟩ := id Y_r1
  have pre2 : Pr p e below s₁ E0 s₁ (mkF m 6 #[vr r0, vr r1] [.null, (.int (Int32.ofNat 0)), (.int (0 : Int32)), (.ref r1), (.ref r0)]) := fun t k => pre0 t (by
    refine XS.aloadN X0.here hx rfl (b d3_0) rfl rfl ?_
    refine XS.aloadN X0.here hx rfl (b d3_1) rfl rfl ?_
    refine XS.iconst X0.here hx rfl (b d3_2) ?_
    refine XS.aloadN X0.here hx rfl (b d3_3) rfl rfl ?_
    refine X0.arraylength hx (by rw [e0]; exact Ar1.1) (State.isArrayOf_alike hZ.alike Ar1.2.1) (g := (mkF m 4 #[vr r0, vr r1] [(.ref r1), (.int (0 : Int32)), (.ref r1), (.ref r0)])) rfl rfl (b d3_4) _ ?_
    rw [own_len S1]
    show Sp p e below s₁ (mkF m 5 #[vr r0, vr r1] [(.int (Int32.ofNat 0)), (.int (0 : Int32)), (.ref r1), (.ref r0)]) t
    refine XS.aconstNull X0.here hx rfl (b d3_5) ?_
    exact k)
  obtain ⟨_, _, ⟨T3, L3, k3, n3⟩, -, Xs3, hs3, hg3, ⟨Lc3, hQ3, l3, y3, z3, hR3⟩, st3⟩ := X0.specialBackS hx (y := (⟨"java/lang/String", "<init>", "([CIILjava/lang/Void;)V"⟩ : MethodName)) rfl hown (mvT hZ (w 15 rfl)) (mvT hZ (w 16 rfl)) (mvT hZ (w 18 rfl)) (by decide) (backOfSH (W := 0) (rm_e4 l Z a0 hw [] r0 r1 h0 n0 Z0 E_r0 g_r0 F_value F_coder) hZ (w 18 rfl) (w 11 rfl) (by decide) (by decide) hEL hC0) (g := (mkF m 6 #[vr r0, vr r1] [.null, (.int (Int32.ofNat 0)), (.int (0 : Int32)), (.ref r1), (.ref r0)])) rfl (by rw [hml]; rfl) (Steps.refl _) (a := r0) (argsL := [(.ref r1), (.int (0 : Int32)), (.int (Int32.ofNat 0)), .null]) (rest := []) (lenOf own_pd11 rfl) rfl (by show 2 * 0 + _ ≤ _; exact Nat.le_of_eq rfl) (b d3_6) (fun _ _ => ⟨rfl, e0, (by decide : 0 + 4 ≤ _), (by decide : 0 + 8 ≤ _)⟩)
  dsimp only [Pt.U, Pt.locs, Pt.cells, Pt.slots] at Xs3 hs3 hg3 l3 y3 z3 st3 hQ3 hR3
  subst l3 y3 z3
  obtain ⟨X3, hS3, hZ, hown⟩ := rebS hS0 (by rw [e0]; exact hk0) Xs3 hs3 hg3 hZ hown
  obtain ⟨rfl, Nq3, Kq3, t3, Uq3⟩ := hQ3
  have N3 := Fr.app N0 Nq3
  have sg3_r0 := hR3.safe E_r0.lt sb_r0
  have f4_1 := E_r0.keep Kq3
  have f4_4 := Y_r1.keep Kq3 (ninS (Ne.symm (own_neY E_r0 (w 10 rfl) Y_r1)) nin0)
  have hA3 := hA0.trans hR3
  have hC3 := hR3.1
  have hk3 : T3.heap.size ≤ T3.heap.size := Nat.le_refl _
  have Z3 : n0 ≤ T3.heap.size := Nat.le_trans Z0 Kq3.1
  have K3 := K0.trans Kq3 (allS (Or.inl (by simp)) all0)
  obtain ⟨fs, hr, hrun, hended, hEnd⟩ := X3.leaveW hS3 hk3 (v := none) (fun _ => rfl)
  have hAe := hA3.trans (CHv.at X3 hZ hEL hC3)
  refine ⟨_, _, pre2 _ ?_, hrun, hended, _, _, rfl, ?_, ?_, hEnd.1, hEnd.2.1, hEnd.2.2.1, hEnd.2.2.2.mono (by decide) (by decide)⟩
  · show Sp p e below s₁ (mkF m 6 #[vr r0, vr r1] [.null, (.int (Int32.ofNat 0)), (.int (0 : Int32)), (.ref r1), (.ref r0)]) _
    refine st3.trans ?_
    show Sp p e below T3 (mkF m 9 #[vr r0, vr r1] []) _
    exact X3.returnOut hx hret (b d3_9) hr
  · show Q_e3 Z r0 r1 f h0 n0 _ T3.heap _
    exact ⟨rfl, N3, K3, t3, Uq3⟩
  · rw [hh]
    show CHr Z consts_1 s.vm h0 T3.vm T3.heap
    exact hAe
abbrev C2 := method_5_code
theorem d2_0 : dk C2 0 (.iload_n 0) 1 := by decide +kernel
theorem d2_1 : dk C2 1 (.ifCond .ne 14) 3 := by decide +kernel
theorem d2_4 : dk C2 4 (.new 36) 3 := by decide +kernel
theorem d2_7 : dk C2 7 .dup 1 := by decide +kernel
theorem d2_8 : dk C2 8 (.iconst 0) 1 := by decide +kernel
theorem d2_9 : dk C2 9 (.newarray .char) 2 := by decide +kernel
theorem d2_11 : dk C2 11 (.invokespecial 38) 3 := by decide +kernel
theorem own_pd44 : parseMethodDescriptor "([C)V" = some ⟨[(.array .char)], none⟩ := by decide +kernel
theorem d2_14 : dk C2 14 .areturn 1 := by decide +kernel
theorem d2_15 : dk C2 15 (.iload_n 0) 1 := by decide +kernel
theorem d2_16 : dk C2 16 (.iconst 1) 1 := by decide +kernel
theorem d2_17 : dk C2 17 (.if_icmp .ne 18) 3 := by decide +kernel
theorem d2_20 : dk C2 20 (.new 36) 3 := by decide +kernel
theorem d2_23 : dk C2 23 .dup 1 := by decide +kernel
theorem d2_24 : dk C2 24 (.iconst 1) 1 := by decide +kernel
theorem d2_25 : dk C2 25 (.newarray .char) 2 := by decide +kernel
theorem d2_27 : dk C2 27 .dup 1 := by decide +kernel
theorem d2_28 : dk C2 28 (.iconst 0) 1 := by decide +kernel
theorem d2_29 : dk C2 29 (.iload_n 1) 1 := by decide +kernel
theorem d2_30 : dk C2 30 .castore 1 := by decide +kernel
theorem d2_31 : dk C2 31 (.invokespecial 38) 3 := by decide +kernel
theorem d2_34 : dk C2 34 .areturn 1 := by decide +kernel
theorem d2_35 : dk C2 35 (.iload_n 0) 1 := by decide +kernel
theorem d2_36 : dk C2 36 (.iconst 2) 1 := by decide +kernel
theorem d2_37 : dk C2 37 (.if_icmp .ne 22) 3 := by decide +kernel
theorem d2_40 : dk C2 40 (.new 36) 3 := by decide +kernel
theorem d2_43 : dk C2 43 .dup 1 := by decide +kernel
theorem d2_44 : dk C2 44 (.iconst 2) 1 := by decide +kernel
theorem d2_45 : dk C2 45 (.newarray .char) 2 := by decide +kernel
theorem d2_47 : dk C2 47 .dup 1 := by decide +kernel
theorem d2_48 : dk C2 48 (.iconst 0) 1 := by decide +kernel
theorem d2_49 : dk C2 49 (.iload_n 1) 1 := by decide +kernel
theorem d2_50 : dk C2 50 .castore 1 := by decide +kernel
theorem d2_51 : dk C2 51 .dup 1 := by decide +kernel
theorem d2_52 : dk C2 52 (.iconst 1) 1 := by decide +kernel
theorem d2_53 : dk C2 53 (.iload_n 2) 1 := by decide +kernel
theorem d2_54 : dk C2 54 .castore 1 := by decide +kernel
theorem d2_55 : dk C2 55 (.invokespecial 38) 3 := by decide +kernel
theorem d2_58 : dk C2 58 .areturn 1 := by decide +kernel
theorem d2_59 : dk C2 59 (.iload_n 0) 1 := by decide +kernel
theorem d2_60 : dk C2 60 (.iconst 3) 1 := by decide +kernel
theorem d2_61 : dk C2 61 (.if_icmp .ne 26) 3 := by decide +kernel
theorem d2_64 : dk C2 64 (.new 36) 3 := by decide +kernel
theorem d2_67 : dk C2 67 .dup 1 := by decide +kernel
theorem d2_68 : dk C2 68 (.iconst 3) 1 := by decide +kernel
theorem d2_69 : dk C2 69 (.newarray .char) 2 := by decide +kernel
theorem d2_71 : dk C2 71 .dup 1 := by decide +kernel
theorem d2_72 : dk C2 72 (.iconst 0) 1 := by decide +kernel
theorem d2_73 : dk C2 73 (.iload_n 1) 1 := by decide +kernel
theorem d2_74 : dk C2 74 .castore 1 := by decide +kernel
theorem d2_75 : dk C2 75 .dup 1 := by decide +kernel
theorem d2_76 : dk C2 76 (.iconst 1) 1 := by decide +kernel
theorem d2_77 : dk C2 77 (.iload_n 2) 1 := by decide +kernel
theorem d2_78 : dk C2 78 .castore 1 := by decide +kernel
theorem d2_79 : dk C2 79 .dup 1 := by decide +kernel
theorem d2_80 : dk C2 80 (.iconst 2) 1 := by decide +kernel
theorem d2_81 : dk C2 81 (.iload_n 3) 1 := by decide +kernel
theorem d2_82 : dk C2 82 .castore 1 := by decide +kernel
theorem d2_83 : dk C2 83 (.invokespecial 38) 3 := by decide +kernel
theorem d2_86 : dk C2 86 .areturn 1 := by decide +kernel
theorem d2_87 : dk C2 87 (.iload_n 0) 1 := by decide +kernel
theorem d2_88 : dk C2 88 (.iconst 4) 1 := by decide +kernel
theorem d2_89 : dk C2 89 (.if_icmp .ne 31) 3 := by decide +kernel
theorem d2_92 : dk C2 92 (.new 36) 3 := by decide +kernel
theorem d2_95 : dk C2 95 .dup 1 := by decide +kernel
theorem d2_96 : dk C2 96 (.iconst 4) 1 := by decide +kernel
theorem d2_97 : dk C2 97 (.newarray .char) 2 := by decide +kernel
theorem d2_99 : dk C2 99 .dup 1 := by decide +kernel
theorem d2_100 : dk C2 100 (.iconst 0) 1 := by decide +kernel
theorem d2_101 : dk C2 101 (.iload_n 1) 1 := by decide +kernel
theorem d2_102 : dk C2 102 .castore 1 := by decide +kernel
theorem d2_103 : dk C2 103 .dup 1 := by decide +kernel
theorem d2_104 : dk C2 104 (.iconst 1) 1 := by decide +kernel
theorem d2_105 : dk C2 105 (.iload_n 2) 1 := by decide +kernel
theorem d2_106 : dk C2 106 .castore 1 := by decide +kernel
theorem d2_107 : dk C2 107 .dup 1 := by decide +kernel
theorem d2_108 : dk C2 108 (.iconst 2) 1 := by decide +kernel
theorem d2_109 : dk C2 109 (.iload_n 3) 1 := by decide +kernel
theorem d2_110 : dk C2 110 .castore 1 := by decide +kernel
theorem d2_111 : dk C2 111 .dup 1 := by decide +kernel
theorem d2_112 : dk C2 112 (.iconst 3) 1 := by decide +kernel
theorem d2_113 : dk C2 113 (.iload 4) 2 := by decide +kernel
theorem d2_115 : dk C2 115 .castore 1 := by decide +kernel
theorem d2_116 : dk C2 116 (.invokespecial 38) 3 := by decide +kernel
theorem d2_119 : dk C2 119 .areturn 1 := by decide +kernel
theorem d2_120 : dk C2 120 (.new 36) 3 := by decide +kernel
theorem d2_123 : dk C2 123 .dup 1 := by decide +kernel
theorem d2_124 : dk C2 124 (.iconst 5) 1 := by decide +kernel
theorem d2_125 : dk C2 125 (.newarray .char) 2 := by decide +kernel
theorem d2_127 : dk C2 127 .dup 1 := by decide +kernel
theorem d2_128 : dk C2 128 (.iconst 0) 1 := by decide +kernel
theorem d2_129 : dk C2 129 (.iload_n 1) 1 := by decide +kernel
theorem d2_130 : dk C2 130 .castore 1 := by decide +kernel
theorem d2_131 : dk C2 131 .dup 1 := by decide +kernel
theorem d2_132 : dk C2 132 (.iconst 1) 1 := by decide +kernel
theorem d2_133 : dk C2 133 (.iload_n 2) 1 := by decide +kernel
theorem d2_134 : dk C2 134 .castore 1 := by decide +kernel
theorem d2_135 : dk C2 135 .dup 1 := by decide +kernel
theorem d2_136 : dk C2 136 (.iconst 2) 1 := by decide +kernel
theorem d2_137 : dk C2 137 (.iload_n 3) 1 := by decide +kernel
theorem d2_138 : dk C2 138 .castore 1 := by decide +kernel
theorem d2_139 : dk C2 139 .dup 1 := by decide +kernel
theorem d2_140 : dk C2 140 (.iconst 3) 1 := by decide +kernel
theorem d2_141 : dk C2 141 (.iload 4) 2 := by decide +kernel
theorem d2_143 : dk C2 143 .castore 1 := by decide +kernel
theorem d2_144 : dk C2 144 .dup 1 := by decide +kernel
theorem d2_145 : dk C2 145 (.iconst 4) 1 := by decide +kernel
theorem d2_146 : dk C2 146 (.iload 5) 2 := by decide +kernel
theorem d2_148 : dk C2 148 .castore 1 := by decide +kernel
theorem d2_149 : dk C2 149 (.invokespecial 38) 3 := by decide +kernel
theorem d2_152 : dk C2 152 .areturn 1 := by decide +kernel
theorem ef_make (m : MethodId) (p1 : Int32) (p2 : Int32) (p3 : Int32) (p4 : Int32) (p5 : Int32) (nn : Nat) : entryFrame m #[(.int (Int32.ofNat nn)), (.int p1), (.int p2), (.int p3), (.int p4), (.int p5)] 6 = mkF m 0 #[vi (Int32.ofNat nn), vi p1, vi p2, vi p3, vi p4, vi p5] [] := by first | (simp [entryFrame, mkF, argsToLocals, Value.category, vr, vi, vu]; done) | rfl
def Q_make (Z : State) (p1 : Int32) (p2 : Int32) (p3 : Int32) (p4 : Int32) (p5 : Int32) (nn : Nat) (h0 : Heap) (n0 : Nat) (v : Option Value) (h : Heap) (L : List Loc) : Prop := ∃ a t, v = some (.ref a) ∧ Fr n0 L ∧ Keep h0 h [] ∧ Us Z h a t (own_mk nn p1 p2 p3 p4 p5)
set_option maxRecDepth 65536 in
set_option maxHeartbeats 40000000 in
theorem rm_make (l : Launch) (Z : State) (a0 : Array Value) (hw : ∀ d ∈ tables_1, d.before a0 Z = true) (ws : List Jvm.Cond) (p1 : Int32) (p2 : Int32) (p3 : Int32) (p4 : Int32) (p5 : Int32) (nn : Nat) (h0 : Heap) (n0 : Nat) (Z0 : n0 ≤ h0.size) (hst : own_St Z) (X00 : Old Z n0 h0) (hn : nn < 6) (h_p1 : Chr p1) (h_p2 : Chr p2) (h_p3 : Chr p3) (h_p4 : Chr p4) (h_p5 : Chr p5) :
    MetFree l (⟨"org/interpunct/marc/OneLineOfPinLaw", "make", "(ICCCCC)Ljava/lang/String;"⟩ : MethodName) (head1 (Jvm.Cond.code (⟨"org/interpunct/marc/OneLineOfPinLaw", "make", "(ICCCCC)Ljava/lang/String;"⟩ : MethodName) method_5_code 6 (some (.object "java/lang/String")) :: ws) ({ frames := 6, cells := 6, slots := 24, locals := 88 } : Room)) (fun a U => a = #[(.int (Int32.ofNat nn)), (.int p1), (.int p2), (.int p3), (.int p4), (.int p5)] ∧ Z.Warmed39 U.vm ∧ U.heap = h0 ∧ CHv Z consts_1 U.vm h0) (fun _ _ _ _ _ => True) (fun _ U o U' => ∃ v L, o = .returned v ∧ Q_make Z p1 p2 p3 p4 p5 nn h0 n0 v U'.heap L ∧ CHr Z consts_1 U.vm U.heap U'.vm U'.heap ∧ ReturnedEndW U o U' L ({ frames := 6, cells := 6, slots := 24, locals := 88 } : Room).cells ({ frames := 6, cells := 6, slots := 24, locals := 88 } : Room).slots) := by
  refine MetFree.of_bodySF (plainFor_of_name own_pn40) hisR ?_
  intro p e s m args below meth c s₁ Bd hml0 hP hK
  obtain ⟨rfl, hZ, hh, hC0⟩ := hP
  have hx := Bd.exec
  have hby := Bd.bytes
  have hret := Bd.returns
  have w := own_w hw
  have b : ∀ {pc : Nat} {i : Instr} {n : Nat}, dk C2 pc i n → decode c.code pc = .ok (i, n) := fun d => hb hby d
  have hml : c.maxLocals = 6 := hml0
  have hown : s.vm.findClass "org/interpunct/marc/OneLineOfPinLaw" = some m.cls := findClass_of_methodNamed Bd.named
  have hnm := (name_of_methodNamed Bd.named Bd.method).1
  have X0 : Stand p l e ({ frames := 6, cells := 6, slots := 24, locals := 88 } : Room) (s.setVm s.vm) m #[(.int (Int32.ofNat nn)), (.int p1), (.int p2), (.int p3), (.int p4), (.int p5)] below meth c s₁ [] 0 0 := Stand.of_body Bd
  have e0 : s₁.heap = h0 := by rw [← hh, Bd.state]; rfl
  have N0 := Fr.nil n0
  have pre0 : ∀ t, Steps p.tables e below (s₁.setTop (mkF m 0 #[vi (Int32.ofNat nn), vi p1, vi p2, vi p3, vi p4, vi p5] [])) t → Steps p.tables e below (s₁.setTop (entryFrame m #[(.int (Int32.ofNat nn)), (.int p1), (.int p2), (.int p3), (.int p4), (.int p5)] 6)) t := fun t k => castTop (ef_make m p1 p2 p3 p4 p5 nn) k
  generalize hE0 : entryFrame m #[(.int (Int32.ofNat nn)), (.int p1), (.int p2), (.int p3), (.int p4), (.int p5)] 6 = E0 at pre0 ⊢
  have hEL := own_EW hw
  have wS := own_wS hw
  have hS0 : s.Since s.vm s.heap.size := (State.WarmedH.refl s).since _
  have hk0 : s.heap.size ≤ h0.size := by rw [hh]; exact Nat.le_refl _
  have hA0 : CHr Z consts_1 s.vm h0 s.vm h0 := CHr.refl hC0
  have K0 : Keep h0 h0 [] := Keep.refl h0 _
  have pre2 : Pr p e below s₁ E0 s₁ (mkF m 1 #[vi (Int32.ofNat nn), vi p1, vi p2, vi p3, vi p4, vi p5] [(.int (Int32.ofNat nn))]) := fun t k => pre0 t (by
    refine XS.iloadN X0.here hx rfl (b d2_0) rfl ?_
    exact k)
  by_cases hc1 : nn = 0
  · obtain ⟨T3, h3, X3, e3, E3, A3, D3, -, st3⟩ := newO X0 hx hZ hown (w 9 rfl) (w 10 rfl) (w 11 rfl) e0 (g := (mkF m 4 #[vi (Int32.ofNat nn), vi p1, vi p2, vi p3, vi p4, vi p5] [])) rfl (b d2_4) (by decide) (by decide)
    obtain ⟨b3, g3⟩ : ∃ z, z = h0.size := ⟨_, rfl⟩
    rw [← g3] at A3 D3 st3
    have g_b3 : n0 ≤ b3 := Nat.le_trans Z0 (Nat.le_of_eq g3.symm)
    have sz_b3 : h0.size ≤ b3 := Nat.le_trans K0.1 (Nat.le_of_eq g3.symm)
    have sn_b3 := Safe.ext E3 hC0 (Safe.new (Nat.le_of_eq g3.symm))
    have hr4 := CHr.ext E3 hC0
    have hA4 := hA0.trans hr4
    have hC4 := hr4.1
    have hk4 := Nat.le_trans hk0 hr4.2.1
    have od4 := X00.ext E3
    have Z3 : n0 ≤ h3.size := Nat.le_trans Z0 E3.1
    have K3 := K0.ext E3
    have F_coder_b3 : Fld Z h3 b3 "java/lang/String" "coder" "B" (.int (0 : Int32)) := D3 (Or.inr (w 35 rfl)) (ty := .byte) (by decide)
    have F_value_b3 : Fld Z h3 b3 "java/lang/String" "value" "[B" .null := D3 (Or.inr (w 37 rfl)) (ty := (.array .byte)) (by decide)
    obtain ⟨T6, h6, k6, X6, e6, E6, A6, Ex6, st6⟩ := newPE X3 hx hZ (w 5 rfl) e3 (g := (mkF m 9 #[vi (Int32.ofNat nn), vi p1, vi p2, vi p3, vi p4, vi p5] [(.int (0 : Int32)), (.ref b3), (.ref b3)])) rfl (b d2_9) (n := (Int32.ofNat 0)) rfl (own_nn (by omega)) (cap := 0) (by rw [own_nc (by omega)]; omega) (by decide) (by decide) (by decide) (ad := "[C") (by decide)
    obtain ⟨b6, g6⟩ : ∃ z, z = h3.size := ⟨_, rfl⟩
    rw [← g6] at A6 Ex6 st6
    have ne_b3_b6 : b3 ≠ b6 := Nat.ne_of_lt (Nat.lt_of_lt_of_le A3.lt (Nat.le_of_eq g6.symm))
    have g_b6 : n0 ≤ b6 := Nat.le_trans Z3 (Nat.le_of_eq g6.symm)
    have sz_b6 : h0.size ≤ b6 := Nat.le_trans K3.1 (Nat.le_of_eq g6.symm)
    have sn_b6 := Safe.ext E6 hC4 (Safe.new (Nat.le_of_eq g6.symm))
    have sf7_b3 := Safe.ext E6 hC4 sn_b3
    have hr7 := CHr.ext E6 hC4
    have hA7 := hA4.trans hr7
    have hC7 := hr7.1
    have hk7 := Nat.le_trans hk4 hr7.2.1
    have od7 := od4.ext E6
    have f7_1 := A3.ext E6
    have f7_2 := F_coder_b3.ext E6
    have f7_3 := F_value_b3.ext E6
    have Z6 : n0 ≤ h6.size := Nat.le_trans Z3 E6.1
    have K6 := K3.ext E6
    have Y6 : Ay Z h6 b6 .char 0 (fun _ => 0) := Ay.new (by omega) A6 rfl
    have pre9 : Pr p e below s₁ E0 T6 (mkF m 11 #[vi (Int32.ofNat nn), vi p1, vi p2, vi p3, vi p4, vi p5] [(.ref b6), (.ref b3), (.ref b3)]) := fun t k => pre2 t (by
      refine XS.ifNo X0.here hx rfl (b d2_1) rfl ((if0 _ _).trans (teq (own_eqT (a := nn) (b := 0) hc1)).2) ?_
      refine st3 _ ?_
      show Sp p e below T3 (mkF m 7 #[vi (Int32.ofNat nn), vi p1, vi p2, vi p3, vi p4, vi p5] [(.ref b3)]) t
      refine XS.dup X3.here hx rfl (b d2_7) rfl rfl ?_
      refine XS.iconst X3.here hx rfl (b d2_8) ?_
      refine st6 _ ?_
      exact k)
    obtain ⟨_, _, ⟨T10, L10, k10, n10⟩, -, Xs10, hs10, hg10, ⟨Lc10, hQ10, l10, y10, z10, hR10⟩, st10⟩ := X6.specialBackS hx (y := (⟨"java/lang/String", "<init>", "([C)V"⟩ : MethodName)) rfl hown (mvT hZ (w 12 rfl)) (mvT hZ (w 13 rfl)) (mvT hZ (w 14 rfl)) (by decide) (backOfSH (W := 1) (rm_e3 l Z a0 hw [] b3 b6 (fun _ => 0) h6 n0 Z6 f7_1 g_b3 f7_3 f7_2 Y6) hZ (w 14 rfl) (w 11 rfl) (by decide) (by decide) hEL hC7) (g := (mkF m 11 #[vi (Int32.ofNat nn), vi p1, vi p2, vi p3, vi p4, vi p5] [(.ref b6), (.ref b3), (.ref b3)])) rfl (by rw [hml]; rfl) (Steps.refl _) (a := b3) (argsL := [(.ref b6)]) (rest := [(.ref b3)]) (lenOf own_pd44 rfl) rfl (by show 2 * 0 + _ ≤ _; exact Nat.le_of_eq rfl) (b d2_11) (fun _ _ => ⟨rfl, e6, (by decide : 2 + 4 ≤ _), (by decide : 4 + 8 ≤ _)⟩)
    dsimp only [Pt.U, Pt.locs, Pt.cells, Pt.slots] at Xs10 hs10 hg10 l10 y10 z10 st10 hQ10 hR10
    subst l10 y10 z10
    obtain ⟨X10, hS10, hZ, hown⟩ := rebS hS0 (by rw [e6]; exact hk7) Xs10 hs10 hg10 hZ hown
    obtain ⟨rfl, Nq10, Kq10, t10, Uq10⟩ := hQ10
    have N10 := Fr.app N0 Nq10
    have sg10_b3 := hR10.safe f7_1.lt sf7_b3
    have sg10_b6 := hR10.safe Y6.lt sn_b6
    have od11 := od7.keep Kq10 (allS g_b3 all0)
    have f11_1 := f7_1.keep Kq10
    have f11_4 := Y6.keep Kq10 (ninS (Ne.symm ne_b3_b6) nin0)
    have f11_5 := Ex6.keep Kq10
    have hA10 := hA7.trans hR10
    have hC10 := hR10.1
    have hk10 : T10.heap.size ≤ T10.heap.size := Nat.le_refl _
    have Z10 : n0 ≤ T10.heap.size := Nat.le_trans Z6 Kq10.1
    have K10 := K6.trans Kq10 (allS (Or.inr sz_b3) all0)
    obtain ⟨fs, hr, hrun, hended, hEnd⟩ := X10.leaveW hS10 hk10 (v := some (.ref b3)) (fun h => by rw [hret] at h; cases h)
    have hAe := hA10.trans (CHv.at X10 hZ hEL hC10)
    refine ⟨_, _, pre9 _ ?_, hrun, hended, _, _, rfl, ?_, ?_, hEnd.1, hEnd.2.1, hEnd.2.2.1, hEnd.2.2.2.mono (by decide) (by decide)⟩
    · show Sp p e below T6 (mkF m 11 #[vi (Int32.ofNat nn), vi p1, vi p2, vi p3, vi p4, vi p5] [(.ref b6), (.ref b3), (.ref b3)]) _
      refine st10.trans ?_
      show Sp p e below T10 (mkF m 14 #[vi (Int32.ofNat nn), vi p1, vi p2, vi p3, vi p4, vi p5] [(.ref b3)]) _
      jvm_step X10.here [X10.here.top, hx, (b d2_14), X10.method', hret, Value.isRef, FieldType.isReference]
      first | (intro acts; rw [hr _ acts rfl rfl rfl]) | rw [hr _ _ rfl rfl rfl]
      exact Steps.refl _
    · show Q_make Z p1 p2 p3 p4 p5 nn h0 n0 _ T10.heap _
      exact (by rw [show nn = 0 by omega]; exact ⟨b3, t10, rfl, N10, K10, Uq10⟩)
    · rw [hh]
      show CHr Z consts_1 s.vm h0 T10.vm T10.heap
      exact hAe
  · have pre14 : Pr p e below s₁ E0 s₁ (mkF m 17 #[vi (Int32.ofNat nn), vi p1, vi p2, vi p3, vi p4, vi p5] [(.int (1 : Int32)), (.int (Int32.ofNat nn))]) := fun t k => pre2 t (by
      refine XS.ifYes X0.here hx rfl (pc0 := 1) (pc' := 15) rfl (b d2_1) rfl ((if0 _ _).trans (feq (own_eqF (a := nn) (b := 0) hc1 (by omega) (by omega))).2) (by decide) (by decide) ?_
      refine XS.iloadN X0.here hx rfl (b d2_15) rfl ?_
      refine XS.iconst X0.here hx rfl (b d2_16) ?_
      exact k)
    by_cases hc13 : nn = 1
    · obtain ⟨T15, h15, X15, e15, E15, A15, D15, -, st15⟩ := newO X0 hx hZ hown (w 9 rfl) (w 10 rfl) (w 11 rfl) e0 (g := (mkF m 20 #[vi (Int32.ofNat nn), vi p1, vi p2, vi p3, vi p4, vi p5] [])) rfl (b d2_20) (by decide) (by decide)
      obtain ⟨b15, g15⟩ : ∃ z, z = h0.size := ⟨_, rfl⟩
      rw [← g15] at A15 D15 st15
      have g_b15 : n0 ≤ b15 := Nat.le_trans Z0 (Nat.le_of_eq g15.symm)
      have sz_b15 : h0.size ≤ b15 := Nat.le_trans K0.1 (Nat.le_of_eq g15.symm)
      have sn_b15 := Safe.ext E15 hC0 (Safe.new (Nat.le_of_eq g15.symm))
      have hr16 := CHr.ext E15 hC0
      have hA16 := hA0.trans hr16
      have hC16 := hr16.1
      have hk16 := Nat.le_trans hk0 hr16.2.1
      have od16 := X00.ext E15
      have Z15 : n0 ≤ h15.size := Nat.le_trans Z0 E15.1
      have K15 := K0.ext E15
      have F_coder_b15 : Fld Z h15 b15 "java/lang/String" "coder" "B" (.int (0 : Int32)) := D15 (Or.inr (w 35 rfl)) (ty := .byte) (by decide)
      have F_value_b15 : Fld Z h15 b15 "java/lang/String" "value" "[B" .null := D15 (Or.inr (w 37 rfl)) (ty := (.array .byte)) (by decide)
      obtain ⟨T18, h18, k18, X18, e18, E18, A18, Ex18, st18⟩ := newPE X15 hx hZ (w 5 rfl) e15 (g := (mkF m 25 #[vi (Int32.ofNat nn), vi p1, vi p2, vi p3, vi p4, vi p5] [(.int (1 : Int32)), (.ref b15), (.ref b15)])) rfl (b d2_25) (n := (Int32.ofNat 1)) rfl (own_nn (by omega)) (cap := 1) (by rw [own_nc (by omega)]; omega) (by decide) (by decide) (by decide) (ad := "[C") (by decide)
      obtain ⟨b18, g18⟩ : ∃ z, z = h15.size := ⟨_, rfl⟩
      rw [← g18] at A18 Ex18 st18
      have ne_b15_b18 : b15 ≠ b18 := Nat.ne_of_lt (Nat.lt_of_lt_of_le A15.lt (Nat.le_of_eq g18.symm))
      have g_b18 : n0 ≤ b18 := Nat.le_trans Z15 (Nat.le_of_eq g18.symm)
      have sz_b18 : h0.size ≤ b18 := Nat.le_trans K15.1 (Nat.le_of_eq g18.symm)
      have sn_b18 := Safe.ext E18 hC16 (Safe.new (Nat.le_of_eq g18.symm))
      have sf19_b15 := Safe.ext E18 hC16 sn_b15
      have hr19 := CHr.ext E18 hC16
      have hA19 := hA16.trans hr19
      have hC19 := hr19.1
      have hk19 := Nat.le_trans hk16 hr19.2.1
      have od19 := od16.ext E18
      have f19_1 := A15.ext E18
      have f19_2 := F_coder_b15.ext E18
      have f19_3 := F_value_b15.ext E18
      have Z18 : n0 ≤ h18.size := Nat.le_trans Z15 E18.1
      have K18 := K15.ext E18
      have Y18 : Ay Z h18 b18 .char 1 (fun _ => 0) := Ay.new (by omega) A18 rfl
      obtain ⟨qn21, cl21, Ar21, S21, H21⟩ := id Y18
      obtain ⟨T22, h22, X22, e22, W22, st22⟩ := stC X18 hx hZ e18 Ar21 (j := (Int32.ofNat 0)) (own_in qn21 S21 (show 0 < 1 by omega)) (g := (mkF m 30 #[vi (Int32.ofNat nn), vi p1, vi p2, vi p3, vi p4, vi p5] [(.int p1), (.int (0 : Int32)), (.ref b18), (.ref b18), (.ref b15), (.ref b15)])) rfl rfl (b d2_30)
      have Y22 : Ay Z h22 b18 .char 1 (fun x => if x = 0 then (nar .char p1) else (fun _ => 0) x) := Ay.put qn21 Ar21 S21 H21 (show 0 < 1 by omega) W22 (fits_nar_char _)
      have sf23_b15 := Safe.wr W22 sn_b18 hC19 sf19_b15
      have sf23_b18 := Safe.wr W22 sn_b18 hC19 sn_b18
      have hr23 := CHr.wr W22 sn_b18 hC19
      have hA23 := hA19.trans hr23
      have hC23 := hr23.1
      have hk23 := Nat.le_trans hk19 hr23.2.1
      have od23 := od19.wr W22 g_b18
      have f23_1 := f19_1.wr W22
      have f23_2 := f19_2.other W22 (Or.inl ne_b15_b18)
      have f23_3 := f19_3.other W22 (Or.inl ne_b15_b18)
      have f23_5 := Ex18.wr W22
      have N22 := Fr.snoc X22 N0 g_b18
      have Z22 : n0 ≤ h22.size := Nat.le_trans Z18 (Keep.of_wr W22).1
      have K22 := K18.wr W22 (Or.inr sz_b18)
      have pre25 : Pr p e below s₁ E0 T22 (mkF m 31 #[vi (Int32.ofNat nn), vi p1, vi p2, vi p3, vi p4, vi p5] [(.ref b18), (.ref b15), (.ref b15)]) := fun t k => pre14 t (by
        refine XS.icmpNo X0.here hx rfl (b d2_17) rfl (teq (own_eqT (a := nn) (b := 1) hc13)).2 ?_
        refine st15 _ ?_
        show Sp p e below T15 (mkF m 23 #[vi (Int32.ofNat nn), vi p1, vi p2, vi p3, vi p4, vi p5] [(.ref b15)]) t
        refine XS.dup X15.here hx rfl (b d2_23) rfl rfl ?_
        refine XS.iconst X15.here hx rfl (b d2_24) ?_
        refine st18 _ ?_
        show Sp p e below T18 (mkF m 27 #[vi (Int32.ofNat nn), vi p1, vi p2, vi p3, vi p4, vi p5] [(.ref b18), (.ref b15), (.ref b15)]) t
        refine XS.dup X18.here hx rfl (b d2_27) rfl rfl ?_
        refine XS.iconst X18.here hx rfl (b d2_28) ?_
        refine XS.iloadN X18.here hx rfl (b d2_29) rfl ?_
        refine st22 _ ?_
        exact k)
      obtain ⟨_, T26, L26, X26, hQ26, st26⟩ := own_cN X22 hx hml hZ hown (rm_s3 l Z a0 hw b15 b18 1 (fun x => if x = 0 then (nar .char p1) else (fun _ => 0) x) ([p1]) h22 n0 Z22 hst od23 f23_1 g_b15 f23_3 f23_2 Y22 (by omega) (by omega) rfl (fun i hi => by have q : i = 0 := (by omega); rcases q with rfl <;> simp [own_narc h_p1]) (fun i hi => by have q0 : i < 1 := hi; have q : i = 0 := (by omega); rcases q with rfl <;> first | exact h_p1)) (w 12 rfl) (w 13 rfl) (w 11 rfl) (w 14 rfl) rfl e22 (g := (mkF m 31 #[vi (Int32.ofNat nn), vi p1, vi p2, vi p3, vi p4, vi p5] [(.ref b18), (.ref b15), (.ref b15)])) (argsL := [(.ref b18)]) (rest := [(.ref b15)]) (W := 1) (lenOf own_pd44 rfl) (b d2_31)
      obtain ⟨rfl, Nq26, Kq26, t26, szq26, Uq26⟩ := hQ26
      have N26 := Fr.app N22 Nq26
      have sf27_b15 := Safe.keep Kq26 (allS sf23_b15 all0) hC23 sf23_b15
      have sf27_b18 := Safe.keep Kq26 (allS sf23_b15 all0) hC23 sf23_b18
      have hr27 := CHr.keep Kq26 (allS sf23_b15 all0) hC23
      have hA27 := hA23.trans hr27
      have hC27 := hr27.1
      have hk27 := Nat.le_trans hk23 hr27.2.1
      have od27 := od23.keep Kq26 (allS g_b15 all0)
      have f27_1 := f23_1.keep Kq26
      have f27_4 := Y22.keep Kq26 (ninS (Ne.symm ne_b15_b18) nin0)
      have f27_5 := f23_5.keep Kq26
      have Z26 : n0 ≤ T26.heap.size := Nat.le_trans Z22 Kq26.1
      have K26 := K22.trans Kq26 (allS (Or.inr sz_b15) all0)
      have ne_b15_t26 : b15 ≠ t26 := Nat.ne_of_lt (Nat.lt_of_lt_of_le f23_1.lt szq26)
      have ne_b18_t26 : b18 ≠ t26 := Nat.ne_of_lt (Nat.lt_of_lt_of_le Y22.lt szq26)
      have sz_t26 : h0.size ≤ t26 := Nat.le_trans K22.1 szq26
      have g_t26 : n0 ≤ t26 := Nat.le_trans Z22 szq26
      obtain ⟨fs, hr, hrun, hended, hEnd⟩ := X26.leaveW hS0 hk27 (v := some (.ref b15)) (fun h => by rw [hret] at h; cases h)
      have hAe := hA27.trans (CHv.at X26 hZ hEL hC27)
      refine ⟨_, _, pre25 _ ?_, hrun, hended, _, _, rfl, ?_, ?_, hEnd.1, hEnd.2.1, hEnd.2.2.1, hEnd.2.2.2.mono (by decide) (by decide)⟩
      · show Sp p e below T22 (mkF m 31 #[vi (Int32.ofNat nn), vi p1, vi p2, vi p3, vi p4, vi p5] [(.ref b18), (.ref b15), (.ref b15)]) _
        refine st26 _ ?_
        show Sp p e below T26 (mkF m 34 #[vi (Int32.ofNat nn), vi p1, vi p2, vi p3, vi p4, vi p5] [(.ref b15)]) _
        jvm_step X26.here [X26.here.top, hx, (b d2_34), X26.method', hret, Value.isRef, FieldType.isReference]
        first | (intro acts; rw [hr _ acts rfl rfl rfl]) | rw [hr _ _ rfl rfl rfl]
        exact Steps.refl _
      · show Q_make Z p1 p2 p3 p4 p5 nn h0 n0 _ T26.heap _
        exact (by rw [show nn = 1 by omega]; exact ⟨b15, t26, rfl, N26, K26, Uq26⟩)
      · rw [hh]
        show CHr Z consts_1 s.vm h0 T26.vm T26.heap
        exact hAe
    · have pre30 : Pr p e below s₁ E0 s₁ (mkF m 37 #[vi (Int32.ofNat nn), vi p1, vi p2, vi p3, vi p4, vi p5] [(.int (2 : Int32)), (.int (Int32.ofNat nn))]) := fun t k => pre14 t (by
        refine XS.icmpYes X0.here hx rfl (pc0 := 17) (pc' := 35) rfl (b d2_17) rfl (feq (own_eqF (a := nn) (b := 1) hc13 (by omega) (by omega))).2 (by decide) (by decide) ?_
        refine XS.iloadN X0.here hx rfl (b d2_35) rfl ?_
        refine XS.iconst X0.here hx rfl (b d2_36) ?_
        exact k)
      by_cases hc29 : nn = 2
      · obtain ⟨T31, h31, X31, e31, E31, A31, D31, -, st31⟩ := newO X0 hx hZ hown (w 9 rfl) (w 10 rfl) (w 11 rfl) e0 (g := (mkF m 40 #[vi (Int32.ofNat nn), vi p1, vi p2, vi p3, vi p4, vi p5] [])) rfl (b d2_40) (by decide) (by decide)
        obtain ⟨b31, g31⟩ : ∃ z, z = h0.size := ⟨_, rfl⟩
        rw [← g31] at A31 D31 st31
        have g_b31 : n0 ≤ b31 := Nat.le_trans Z0 (Nat.le_of_eq g31.symm)
        have sz_b31 : h0.size ≤ b31 := Nat.le_trans K0.1 (Nat.le_of_eq g31.symm)
        have sn_b31 := Safe.ext E31 hC0 (Safe.new (Nat.le_of_eq g31.symm))
        have hr32 := CHr.ext E31 hC0
        have hA32 := hA0.trans hr32
        have hC32 := hr32.1
        have hk32 := Nat.le_trans hk0 hr32.2.1
        have od32 := X00.ext E31
        have Z31 : n0 ≤ h31.size := Nat.le_trans Z0 E31.1
        have K31 := K0.ext E31
        have F_coder_b31 : Fld Z h31 b31 "java/lang/String" "coder" "B" (.int (0 : Int32)) := D31 (Or.inr (w 35 rfl)) (ty := .byte) (by decide)
        have F_value_b31 : Fld Z h31 b31 "java/lang/String" "value" "[B" .null := D31 (Or.inr (w 37 rfl)) (ty := (.array .byte)) (by decide)
        obtain ⟨T34, h34, k34, X34, e34, E34, A34, Ex34, st34⟩ := newPE X31 hx hZ (w 5 rfl) e31 (g := (mkF m 45 #[vi (Int32.ofNat nn), vi p1, vi p2, vi p3, vi p4, vi p5] [(.int (2 : Int32)), (.ref b31), (.ref b31)])) rfl (b d2_45) (n := (Int32.ofNat 2)) rfl (own_nn (by omega)) (cap := 2) (by rw [own_nc (by omega)]; omega) (by decide) (by decide) (by decide) (ad := "[C") (by decide)
        obtain ⟨b34, g34⟩ : ∃ z, z = h31.size := ⟨_, rfl⟩
        rw [← g34] at A34 Ex34 st34
        have ne_b31_b34 : b31 ≠ b34 := Nat.ne_of_lt (Nat.lt_of_lt_of_le A31.lt (Nat.le_of_eq g34.symm))
        have g_b34 : n0 ≤ b34 := Nat.le_trans Z31 (Nat.le_of_eq g34.symm)
        have sz_b34 : h0.size ≤ b34 := Nat.le_trans K31.1 (Nat.le_of_eq g34.symm)
        have sn_b34 := Safe.ext E34 hC32 (Safe.new (Nat.le_of_eq g34.symm))
        have sf35_b31 := Safe.ext E34 hC32 sn_b31
        have hr35 := CHr.ext E34 hC32
        have hA35 := hA32.trans hr35
        have hC35 := hr35.1
        have hk35 := Nat.le_trans hk32 hr35.2.1
        have od35 := od32.ext E34
        have f35_1 := A31.ext E34
        have f35_2 := F_coder_b31.ext E34
        have f35_3 := F_value_b31.ext E34
        have Z34 : n0 ≤ h34.size := Nat.le_trans Z31 E34.1
        have K34 := K31.ext E34
        have Y34 : Ay Z h34 b34 .char 2 (fun _ => 0) := Ay.new (by omega) A34 rfl
        obtain ⟨qn37, cl37, Ar37, S37, H37⟩ := id Y34
        obtain ⟨T38, h38, X38, e38, W38, st38⟩ := stC X34 hx hZ e34 Ar37 (j := (Int32.ofNat 0)) (own_in qn37 S37 (show 0 < 2 by omega)) (g := (mkF m 50 #[vi (Int32.ofNat nn), vi p1, vi p2, vi p3, vi p4, vi p5] [(.int p1), (.int (0 : Int32)), (.ref b34), (.ref b34), (.ref b31), (.ref b31)])) rfl rfl (b d2_50)
        have Y38 : Ay Z h38 b34 .char 2 (fun x => if x = 0 then (nar .char p1) else (fun _ => 0) x) := Ay.put qn37 Ar37 S37 H37 (show 0 < 2 by omega) W38 (fits_nar_char _)
        have sf39_b31 := Safe.wr W38 sn_b34 hC35 sf35_b31
        have sf39_b34 := Safe.wr W38 sn_b34 hC35 sn_b34
        have hr39 := CHr.wr W38 sn_b34 hC35
        have hA39 := hA35.trans hr39
        have hC39 := hr39.1
        have hk39 := Nat.le_trans hk35 hr39.2.1
        have od39 := od35.wr W38 g_b34
        have f39_1 := f35_1.wr W38
        have f39_2 := f35_2.other W38 (Or.inl ne_b31_b34)
        have f39_3 := f35_3.other W38 (Or.inl ne_b31_b34)
        have f39_5 := Ex34.wr W38
        have N38 := Fr.snoc X38 N0 g_b34
        have Z38 : n0 ≤ h38.size := Nat.le_trans Z34 (Keep.of_wr W38).1
        have K38 := K34.wr W38 (Or.inr sz_b34)
        obtain ⟨qn41, cl41, Ar41, S41, H41⟩ := id Y38
        obtain ⟨T42, h42, X42, e42, W42, st42⟩ := stC X38 hx hZ e38 Ar41 (j := (Int32.ofNat 1)) (own_in qn41 S41 (show 1 < 2 by omega)) (g := (mkF m 54 #[vi (Int32.ofNat nn), vi p1, vi p2, vi p3, vi p4, vi p5] [(.int p2), (.int (1 : Int32)), (.ref b34), (.ref b34), (.ref b31), (.ref b31)])) rfl rfl (b d2_54)
        have Y42 : Ay Z h42 b34 .char 2 (fun x => if x = 1 then (nar .char p2) else (fun x => if x = 0 then (nar .char p1) else (fun _ => 0) x) x) := Ay.put qn41 Ar41 S41 H41 (show 1 < 2 by omega) W42 (fits_nar_char _)
        have sf43_b31 := Safe.wr W42 sf39_b34 hC39 sf39_b31
        have sf43_b34 := Safe.wr W42 sf39_b34 hC39 sf39_b34
        have hr43 := CHr.wr W42 sf39_b34 hC39
        have hA43 := hA39.trans hr43
        have hC43 := hr43.1
        have hk43 := Nat.le_trans hk39 hr43.2.1
        have od43 := od39.wr W42 g_b34
        have f43_1 := f39_1.wr W42
        have f43_2 := f39_2.other W42 (Or.inl ne_b31_b34)
        have f43_3 := f39_3.other W42 (Or.inl ne_b31_b34)
        have f43_5 := f39_5.wr W42
        have N42 := Fr.snoc X42 N38 g_b34
        have Z42 : n0 ≤ h42.size := Nat.le_trans Z38 (Keep.of_wr W42).1
        have K42 := K38.wr W42 (Or.inr sz_b34)
        have pre45 : Pr p e below s₁ E0 T42 (mkF m 55 #[vi (Int32.ofNat nn), vi p1, vi p2, vi p3, vi p4, vi p5] [(.ref b34), (.ref b31), (.ref b31)]) := fun t k => pre30 t (by
          refine XS.icmpNo X0.here hx rfl (b d2_37) rfl (teq (own_eqT (a := nn) (b := 2) hc29)).2 ?_
          refine st31 _ ?_
          show Sp p e below T31 (mkF m 43 #[vi (Int32.ofNat nn), vi p1, vi p2, vi p3, vi p4, vi p5] [(.ref b31)]) t
          refine XS.dup X31.here hx rfl (b d2_43) rfl rfl ?_
          refine XS.iconst X31.here hx rfl (b d2_44) ?_
          refine st34 _ ?_
          show Sp p e below T34 (mkF m 47 #[vi (Int32.ofNat nn), vi p1, vi p2, vi p3, vi p4, vi p5] [(.ref b34), (.ref b31), (.ref b31)]) t
          refine XS.dup X34.here hx rfl (b d2_47) rfl rfl ?_
          refine XS.iconst X34.here hx rfl (b d2_48) ?_
          refine XS.iloadN X34.here hx rfl (b d2_49) rfl ?_
          refine st38 _ ?_
          show Sp p e below T38 (mkF m 51 #[vi (Int32.ofNat nn), vi p1, vi p2, vi p3, vi p4, vi p5] [(.ref b34), (.ref b31), (.ref b31)]) t
          refine XS.dup X38.here hx rfl (b d2_51) rfl rfl ?_
          refine XS.iconst X38.here hx rfl (b d2_52) ?_
          refine XS.iloadN X38.here hx rfl (b d2_53) rfl ?_
          refine st42 _ ?_
          exact k)
        obtain ⟨_, T46, L46, X46, hQ46, st46⟩ := own_cN X42 hx hml hZ hown (rm_s3 l Z a0 hw b31 b34 2 (fun x => if x = 1 then (nar .char p2) else (fun x => if x = 0 then (nar .char p1) else (fun _ => 0) x) x) ([p1, p2]) h42 n0 Z42 hst od43 f43_1 g_b31 f43_3 f43_2 Y42 (by omega) (by omega) rfl (fun i hi => by have q : i = 0 ∨ i = 1 := (by omega); rcases q with rfl | rfl <;> simp [own_narc h_p1, own_narc h_p2]) (fun i hi => by have q0 : i < 2 := hi; have q : i = 0 ∨ i = 1 := (by omega); rcases q with rfl | rfl <;> first | exact h_p1 | exact h_p2)) (w 12 rfl) (w 13 rfl) (w 11 rfl) (w 14 rfl) rfl e42 (g := (mkF m 55 #[vi (Int32.ofNat nn), vi p1, vi p2, vi p3, vi p4, vi p5] [(.ref b34), (.ref b31), (.ref b31)])) (argsL := [(.ref b34)]) (rest := [(.ref b31)]) (W := 1) (lenOf own_pd44 rfl) (b d2_55)
        obtain ⟨rfl, Nq46, Kq46, t46, szq46, Uq46⟩ := hQ46
        have N46 := Fr.app N42 Nq46
        have sf47_b31 := Safe.keep Kq46 (allS sf43_b31 all0) hC43 sf43_b31
        have sf47_b34 := Safe.keep Kq46 (allS sf43_b31 all0) hC43 sf43_b34
        have hr47 := CHr.keep Kq46 (allS sf43_b31 all0) hC43
        have hA47 := hA43.trans hr47
        have hC47 := hr47.1
        have hk47 := Nat.le_trans hk43 hr47.2.1
        have od47 := od43.keep Kq46 (allS g_b31 all0)
        have f47_1 := f43_1.keep Kq46
        have f47_4 := Y42.keep Kq46 (ninS (Ne.symm ne_b31_b34) nin0)
        have f47_5 := f43_5.keep Kq46
        have Z46 : n0 ≤ T46.heap.size := Nat.le_trans Z42 Kq46.1
        have K46 := K42.trans Kq46 (allS (Or.inr sz_b31) all0)
        have ne_b31_t46 : b31 ≠ t46 := Nat.ne_of_lt (Nat.lt_of_lt_of_le f43_1.lt szq46)
        have ne_b34_t46 : b34 ≠ t46 := Nat.ne_of_lt (Nat.lt_of_lt_of_le Y42.lt szq46)
        have sz_t46 : h0.size ≤ t46 := Nat.le_trans K42.1 szq46
        have g_t46 : n0 ≤ t46 := Nat.le_trans Z42 szq46
        obtain ⟨fs, hr, hrun, hended, hEnd⟩ := X46.leaveW hS0 hk47 (v := some (.ref b31)) (fun h => by rw [hret] at h; cases h)
        have hAe := hA47.trans (CHv.at X46 hZ hEL hC47)
        refine ⟨_, _, pre45 _ ?_, hrun, hended, _, _, rfl, ?_, ?_, hEnd.1, hEnd.2.1, hEnd.2.2.1, hEnd.2.2.2.mono (by decide) (by decide)⟩
        · show Sp p e below T42 (mkF m 55 #[vi (Int32.ofNat nn), vi p1, vi p2, vi p3, vi p4, vi p5] [(.ref b34), (.ref b31), (.ref b31)]) _
          refine st46 _ ?_
          show Sp p e below T46 (mkF m 58 #[vi (Int32.ofNat nn), vi p1, vi p2, vi p3, vi p4, vi p5] [(.ref b31)]) _
          jvm_step X46.here [X46.here.top, hx, (b d2_58), X46.method', hret, Value.isRef, FieldType.isReference]
          first | (intro acts; rw [hr _ acts rfl rfl rfl]) | rw [hr _ _ rfl rfl rfl]
          exact Steps.refl _
        · show Q_make Z p1 p2 p3 p4 p5 nn h0 n0 _ T46.heap _
          exact (by rw [show nn = 2 by omega]; exact ⟨b31, t46, rfl, N46, K46, Uq46⟩)
        · rw [hh]
          show CHr Z consts_1 s.vm h0 T46.vm T46.heap
          exact hAe
      · have pre50 : Pr p e below s₁ E0 s₁ (mkF m 61 #[vi (Int32.ofNat nn), vi p1, vi p2, vi p3, vi p4, vi p5] [(.int (3 : Int32)), (.int (Int32.ofNat nn))]) := fun t k => pre30 t (by
          refine XS.icmpYes X0.here hx rfl (pc0 := 37) (pc' := 59) rfl (b d2_37) rfl (feq (own_eqF (a := nn) (b := 2) hc29 (by omega) (by omega))).2 (by decide) (by decide) ?_
          refine XS.iloadN X0.here hx rfl (b d2_59) rfl ?_
          refine XS.iconst X0.here hx rfl (b d2_60) ?_
          exact k)
        by_cases hc49 : nn = 3
        · obtain ⟨T51, h51, X51, e51, E51, A51, D51, -, st51⟩ := newO X0 hx hZ hown (w 9 rfl) (w 10 rfl) (w 11 rfl) e0 (g := (mkF m 64 #[vi (Int32.ofNat nn), vi p1, vi p2, vi p3, vi p4, vi p5] [])) rfl (b d2_64) (by decide) (by decide)
          obtain ⟨b51, g51⟩ : ∃ z, z = h0.size := ⟨_, rfl⟩
          rw [← g51] at A51 D51 st51
          have g_b51 : n0 ≤ b51 := Nat.le_trans Z0 (Nat.le_of_eq g51.symm)
          have sz_b51 : h0.size ≤ b51 := Nat.le_trans K0.1 (Nat.le_of_eq g51.symm)
          have sn_b51 := Safe.ext E51 hC0 (Safe.new (Nat.le_of_eq g51.symm))
          have hr52 := CHr.ext E51 hC0
          have hA52 := hA0.trans hr52
          have hC52 := hr52.1
          have hk52 := Nat.le_trans hk0 hr52.2.1
          have od52 := X00.ext E51
          have Z51 : n0 ≤ h51.size := Nat.le_trans Z0 E51.1
          have K51 := K0.ext E51
          have F_coder_b51 : Fld Z h51 b51 "java/lang/String" "coder" "B" (.int (0 : Int32)) := D51 (Or.inr (w 35 rfl)) (ty := .byte) (by decide)
          have F_value_b51 : Fld Z h51 b51 "java/lang/String" "value" "[B" .null := D51 (Or.inr (w 37 rfl)) (ty := (.array .byte)) (by decide)
          obtain ⟨T54, h54, k54, X54, e54, E54, A54, Ex54, st54⟩ := newPE X51 hx hZ (w 5 rfl) e51 (g := (mkF m 69 #[vi (Int32.ofNat nn), vi p1, vi p2, vi p3, vi p4, vi p5] [(.int (3 : Int32)), (.ref b51), (.ref b51)])) rfl (b d2_69) (n := (Int32.ofNat 3)) rfl (own_nn (by omega)) (cap := 3) (by rw [own_nc (by omega)]; omega) (by decide) (by decide) (by decide) (ad := "[C") (by decide)
          obtain ⟨b54, g54⟩ : ∃ z, z = h51.size := ⟨_, rfl⟩
          rw [← g54] at A54 Ex54 st54
          have ne_b51_b54 : b51 ≠ b54 := Nat.ne_of_lt (Nat.lt_of_lt_of_le A51.lt (Nat.le_of_eq g54.symm))
          have g_b54 : n0 ≤ b54 := Nat.le_trans Z51 (Nat.le_of_eq g54.symm)
          have sz_b54 : h0.size ≤ b54 := Nat.le_trans K51.1 (Nat.le_of_eq g54.symm)
          have sn_b54 := Safe.ext E54 hC52 (Safe.new (Nat.le_of_eq g54.symm))
          have sf55_b51 := Safe.ext E54 hC52 sn_b51
          have hr55 := CHr.ext E54 hC52
          have hA55 := hA52.trans hr55
          have hC55 := hr55.1
          have hk55 := Nat.le_trans hk52 hr55.2.1
          have od55 := od52.ext E54
          have f55_1 := A51.ext E54
          have f55_2 := F_coder_b51.ext E54
          have f55_3 := F_value_b51.ext E54
          have Z54 : n0 ≤ h54.size := Nat.le_trans Z51 E54.1
          have K54 := K51.ext E54
          have Y54 : Ay Z h54 b54 .char 3 (fun _ => 0) := Ay.new (by omega) A54 rfl
          obtain ⟨qn57, cl57, Ar57, S57, H57⟩ := id Y54
          obtain ⟨T58, h58, X58, e58, W58, st58⟩ := stC X54 hx hZ e54 Ar57 (j := (Int32.ofNat 0)) (own_in qn57 S57 (show 0 < 3 by omega)) (g := (mkF m 74 #[vi (Int32.ofNat nn), vi p1, vi p2, vi p3, vi p4, vi p5] [(.int p1), (.int (0 : Int32)), (.ref b54), (.ref b54), (.ref b51), (.ref b51)])) rfl rfl (b d2_74)
          have Y58 : Ay Z h58 b54 .char 3 (fun x => if x = 0 then (nar .char p1) else (fun _ => 0) x) := Ay.put qn57 Ar57 S57 H57 (show 0 < 3 by omega) W58 (fits_nar_char _)
          have sf59_b51 := Safe.wr W58 sn_b54 hC55 sf55_b51
          have sf59_b54 := Safe.wr W58 sn_b54 hC55 sn_b54
          have hr59 := CHr.wr W58 sn_b54 hC55
          have hA59 := hA55.trans hr59
          have hC59 := hr59.1
          have hk59 := Nat.le_trans hk55 hr59.2.1
          have od59 := od55.wr W58 g_b54
          have f59_1 := f55_1.wr W58
          have f59_2 := f55_2.other W58 (Or.inl ne_b51_b54)
          have f59_3 := f55_3.other W58 (Or.inl ne_b51_b54)
          have f59_5 := Ex54.wr W58
          have N58 := Fr.snoc X58 N0 g_b54
          have Z58 : n0 ≤ h58.size := Nat.le_trans Z54 (Keep.of_wr W58).1
          have K58 := K54.wr W58 (Or.inr sz_b54)
          obtain ⟨qn61, cl61, Ar61, S61, H61⟩ := id Y58
          obtain ⟨T62, h62, X62, e62, W62, st62⟩ := stC X58 hx hZ e58 Ar61 (j := (Int32.ofNat 1)) (own_in qn61 S61 (show 1 < 3 by omega)) (g := (mkF m 78 #[vi (Int32.ofNat nn), vi p1, vi p2, vi p3, vi p4, vi p5] [(.int p2), (.int (1 : Int32)), (.ref b54), (.ref b54), (.ref b51), (.ref b51)])) rfl rfl (b d2_78)
          have Y62 : Ay Z h62 b54 .char 3 (fun x => if x = 1 then (nar .char p2) else (fun x => if x = 0 then (nar .char p1) else (fun _ => 0) x) x) := Ay.put qn61 Ar61 S61 H61 (show 1 < 3 by omega) W62 (fits_nar_char _)
          have sf63_b51 := Safe.wr W62 sf59_b54 hC59 sf59_b51
          have sf63_b54 := Safe.wr W62 sf59_b54 hC59 sf59_b54
          have hr63 := CHr.wr W62 sf59_b54 hC59
          have hA63 := hA59.trans hr63
          have hC63 := hr63.1
          have hk63 := Nat.le_trans hk59 hr63.2.1
          have od63 := od59.wr W62 g_b54
          have f63_1 := f59_1.wr W62
          have f63_2 := f59_2.other W62 (Or.inl ne_b51_b54)
          have f63_3 := f59_3.other W62 (Or.inl ne_b51_b54)
          have f63_5 := f59_5.wr W62
          have N62 := Fr.snoc X62 N58 g_b54
          have Z62 : n0 ≤ h62.size := Nat.le_trans Z58 (Keep.of_wr W62).1
          have K62 := K58.wr W62 (Or.inr sz_b54)
          obtain ⟨qn65, cl65, Ar65, S65, H65⟩ := id Y62
          obtain ⟨T66, h66, X66, e66, W66, st66⟩ := stC X62 hx hZ e62 Ar65 (j := (Int32.ofNat 2)) (own_in qn65 S65 (show 2 < 3 by omega)) (g := (mkF m 82 #[vi (Int32.ofNat nn), vi p1, vi p2, vi p3, vi p4, vi p5] [(.int p3), (.int (2 : Int32)), (.ref b54), (.ref b54), (.ref b51), (.ref b51)])) rfl rfl (b d2_82)
          have Y66 : Ay Z h66 b54 .char 3 (fun x => if x = 2 then (nar .char p3) else (fun x => if x = 1 then (nar .char p2) else (fun x => if x = 0 then (nar .char p1) else (fun _ => 0) x) x) x) := Ay.put qn65 Ar65 S65 H65 (show 2 < 3 by omega) W66 (fits_nar_char _)
          have sf67_b51 := Safe.wr W66 sf63_b54 hC63 sf63_b51
          have sf67_b54 := Safe.wr W66 sf63_b54 hC63 sf63_b54
          have hr67 := CHr.wr W66 sf63_b54 hC63
          have hA67 := hA63.trans hr67
          have hC67 := hr67.1
          have hk67 := Nat.le_trans hk63 hr67.2.1
          have od67 := od63.wr W66 g_b54
          have f67_1 := f63_1.wr W66
          have f67_2 := f63_2.other W66 (Or.inl ne_b51_b54)
          have f67_3 := f63_3.other W66 (Or.inl ne_b51_b54)
          have f67_5 := f63_5.wr W66
          have N66 := Fr.snoc X66 N62 g_b54
          have Z66 : n0 ≤ h66.size := Nat.le_trans Z62 (Keep.of_wr W66).1
          have K66 := K62.wr W66 (Or.inr sz_b54)
          have pre69 : Pr p e below s₁ E0 T66 (mkF m 83 #[vi (Int32.ofNat nn), vi p1, vi p2, vi p3, vi p4, vi p5] [(.ref b54), (.ref b51), (.ref b51)]) := fun t k => pre50 t (by
            refine XS.icmpNo X0.here hx rfl (b d2_61) rfl (teq (own_eqT (a := nn) (b := 3) hc49)).2 ?_
            refine st51 _ ?_
            show Sp p e below T51 (mkF m 67 #[vi (Int32.ofNat nn), vi p1, vi p2, vi p3, vi p4, vi p5] [(.ref b51)]) t
            refine XS.dup X51.here hx rfl (b d2_67) rfl rfl ?_
            refine XS.iconst X51.here hx rfl (b d2_68) ?_
            refine st54 _ ?_
            show Sp p e below T54 (mkF m 71 #[vi (Int32.ofNat nn), vi p1, vi p2, vi p3, vi p4, vi p5] [(.ref b54), (.ref b51), (.ref b51)]) t
            refine XS.dup X54.here hx rfl (b d2_71) rfl rfl ?_
            refine XS.iconst X54.here hx rfl (b d2_72) ?_
            refine XS.iloadN X54.here hx rfl (b d2_73) rfl ?_
            refine st58 _ ?_
            show Sp p e below T58 (mkF m 75 #[vi (Int32.ofNat nn), vi p1, vi p2, vi p3, vi p4, vi p5] [(.ref b54), (.ref b51), (.ref b51)]) t
            refine XS.dup X58.here hx rfl (b d2_75) rfl rfl ?_
            refine XS.iconst X58.here hx rfl (b d2_76) ?_
            refine XS.iloadN X58.here hx rfl (b d2_77) rfl ?_
            refine st62 _ ?_
            show Sp p e below T62 (mkF m 79 #[vi (Int32.ofNat nn), vi p1, vi p2, vi p3, vi p4, vi p5] [(.ref b54), (.ref b51), (.ref b51)]) t
            refine XS.dup X62.here hx rfl (b d2_79) rfl rfl ?_
            refine XS.iconst X62.here hx rfl (b d2_80) ?_
            refine XS.iloadN X62.here hx rfl (b d2_81) rfl ?_
            refine st66 _ ?_
            exact k)
          obtain ⟨_, T70, L70, X70, hQ70, st70⟩ := own_cN X66 hx hml hZ hown (rm_s3 l Z a0 hw b51 b54 3 (fun x => if x = 2 then (nar .char p3) else (fun x => if x = 1 then (nar .char p2) else (fun x => if x = 0 then (nar .char p1) else (fun _ => 0) x) x) x) ([p1, p2, p3]) h66 n0 Z66 hst od67 f67_1 g_b51 f67_3 f67_2 Y66 (by omega) (by omega) rfl (fun i hi => by have q : i = 0 ∨ i = 1 ∨ i = 2 := (by omega); rcases q with rfl | rfl | rfl <;> simp [own_narc h_p1, own_narc h_p2, own_narc h_p3]) (fun i hi => by have q0 : i < 3 := hi; have q : i = 0 ∨ i = 1 ∨ i = 2 := (by omega); rcases q with rfl | rfl | rfl <;> first | exact h_p1 | exact h_p2 | exact h_p3)) (w 12 rfl) (w 13 rfl) (w 11 rfl) (w 14 rfl) rfl e66 (g := (mkF m 83 #[vi (Int32.ofNat nn), vi p1, vi p2, vi p3, vi p4, vi p5] [(.ref b54), (.ref b51), (.ref b51)])) (argsL := [(.ref b54)]) (rest := [(.ref b51)]) (W := 1) (lenOf own_pd44 rfl) (b d2_83)
          obtain ⟨rfl, Nq70, Kq70, t70, szq70, Uq70⟩ := hQ70
          have N70 := Fr.app N66 Nq70
          have sf71_b51 := Safe.keep Kq70 (allS sf67_b51 all0) hC67 sf67_b51
          have sf71_b54 := Safe.keep Kq70 (allS sf67_b51 all0) hC67 sf67_b54
          have hr71 := CHr.keep Kq70 (allS sf67_b51 all0) hC67
          have hA71 := hA67.trans hr71
          have hC71 := hr71.1
          have hk71 := Nat.le_trans hk67 hr71.2.1
          have od71 := od67.keep Kq70 (allS g_b51 all0)
          have f71_1 := f67_1.keep Kq70
          have f71_4 := Y66.keep Kq70 (ninS (Ne.symm ne_b51_b54) nin0)
          have f71_5 := f67_5.keep Kq70
          have Z70 : n0 ≤ T70.heap.size := Nat.le_trans Z66 Kq70.1
          have K70 := K66.trans Kq70 (allS (Or.inr sz_b51) all0)
          have ne_b51_t70 : b51 ≠ t70 := Nat.ne_of_lt (Nat.lt_of_lt_of_le f67_1.lt szq70)
          have ne_b54_t70 : b54 ≠ t70 := Nat.ne_of_lt (Nat.lt_of_lt_of_le Y66.lt szq70)
          have sz_t70 : h0.size ≤ t70 := Nat.le_trans K66.1 szq70
          have g_t70 : n0 ≤ t70 := Nat.le_trans Z66 szq70
          obtain ⟨fs, hr, hrun, hended, hEnd⟩ := X70.leaveW hS0 hk71 (v := some (.ref b51)) (fun h => by rw [hret] at h; cases h)
          have hAe := hA71.trans (CHv.at X70 hZ hEL hC71)
          refine ⟨_, _, pre69 _ ?_, hrun, hended, _, _, rfl, ?_, ?_, hEnd.1, hEnd.2.1, hEnd.2.2.1, hEnd.2.2.2.mono (by decide) (by decide)⟩
          · show Sp p e below T66 (mkF m 83 #[vi (Int32.ofNat nn), vi p1, vi p2, vi p3, vi p4, vi p5] [(.ref b54), (.ref b51), (.ref b51)]) _
            refine st70 _ ?_
            show Sp p e below T70 (mkF m 86 #[vi (Int32.ofNat nn), vi p1, vi p2, vi p3, vi p4, vi p5] [(.ref b51)]) _
            jvm_step X70.here [X70.here.top, hx, (b d2_86), X70.method', hret, Value.isRef, FieldType.isReference]
            first | (intro acts; rw [hr _ acts rfl rfl rfl]) | rw [hr _ _ rfl rfl rfl]
            exact Steps.refl _
          · show Q_make Z p1 p2 p3 p4 p5 nn h0 n0 _ T70.heap _
            exact (by rw [show nn = 3 by omega]; exact ⟨b51, t70, rfl, N70, K70, Uq70⟩)
          · rw [hh]
            show CHr Z consts_1 s.vm h0 T70.vm T70.heap
            exact hAe
        · have pre74 : Pr p e below s₁ E0 s₁ (mkF m 89 #[vi (Int32.ofNat nn), vi p1, vi p2, vi p3, vi p4, vi p5] [(.int (4 : Int32)), (.int (Int32.ofNat nn))]) := fun t k => pre50 t (by
            refine XS.icmpYes X0.here hx rfl (pc0 := 61) (pc' := 87) rfl (b d2_61) rfl (feq (own_eqF (a := nn) (b := 3) hc49 (by omega) (by omega))).2 (by decide) (by decide) ?_
            refine XS.iloadN X0.here hx rfl (b d2_87) rfl ?_
            refine XS.iconst X0.here hx rfl (b d2_88) ?_
            exact k)
          by_cases hc73 : nn = 4
          · obtain ⟨T75, h75, X75, e75, E75, A75, D75, -, st75⟩ := newO X0 hx hZ hown (w 9 rfl) (w 10 rfl) (w 11 rfl) e0 (g := (mkF m 92 #[vi (Int32.ofNat nn), vi p1, vi p2, vi p3, vi p4, vi p5] [])) rfl (b d2_92) (by decide) (by decide)
            obtain ⟨b75, g75⟩ : ∃ z, z = h0.size := ⟨_, rfl⟩
            rw [← g75] at A75 D75 st75
            have g_b75 : n0 ≤ b75 := Nat.le_trans Z0 (Nat.le_of_eq g75.symm)
            have sz_b75 : h0.size ≤ b75 := Nat.le_trans K0.1 (Nat.le_of_eq g75.symm)
            have sn_b75 := Safe.ext E75 hC0 (Safe.new (Nat.le_of_eq g75.symm))
            have hr76 := CHr.ext E75 hC0
            have hA76 := hA0.trans hr76
            have hC76 := hr76.1
            have hk76 := Nat.le_trans hk0 hr76.2.1
            have od76 := X00.ext E75
            have Z75 : n0 ≤ h75.size := Nat.le_trans Z0 E75.1
            have K75 := K0.ext E75
            have F_coder_b75 : Fld Z h75 b75 "java/lang/String" "coder" "B" (.int (0 : Int32)) := D75 (Or.inr (w 35 rfl)) (ty := .byte) (by decide)
            have F_value_b75 : Fld Z h75 b75 "java/lang/String" "value" "[B" .null := D75 (Or.inr (w 37 rfl)) (ty := (.array .byte)) (by decide)
            obtain ⟨T78, h78, k78, X78, e78, E78, A78, Ex78, st78⟩ := newPE X75 hx hZ (w 5 rfl) e75 (g := (mkF m 97 #[vi (Int32.ofNat nn), vi p1, vi p2, vi p3, vi p4, vi p5] [(.int (4 : Int32)), (.ref b75), (.ref b75)])) rfl (b d2_97) (n := (Int32.ofNat 4)) rfl (own_nn (by omega)) (cap := 4) (by rw [own_nc (by omega)]; omega) (by decide) (by decide) (by decide) (ad := "[C") (by decide)
            obtain ⟨b78, g78⟩ : ∃ z, z = h75.size := ⟨_, rfl⟩
            rw [← g78] at A78 Ex78 st78
            have ne_b75_b78 : b75 ≠ b78 := Nat.ne_of_lt (Nat.lt_of_lt_of_le A75.lt (Nat.le_of_eq g78.symm))
            have g_b78 : n0 ≤ b78 := Nat.le_trans Z75 (Nat.le_of_eq g78.symm)
            have sz_b78 : h0.size ≤ b78 := Nat.le_trans K75.1 (Nat.le_of_eq g78.symm)
            have sn_b78 := Safe.ext E78 hC76 (Safe.new (Nat.le_of_eq g78.symm))
            have sf79_b75 := Safe.ext E78 hC76 sn_b75
            have hr79 := CHr.ext E78 hC76
            have hA79 := hA76.trans hr79
            have hC79 := hr79.1
            have hk79 := Nat.le_trans hk76 hr79.2.1
            have od79 := od76.ext E78
            have f79_1 := A75.ext E78
            have f79_2 := F_coder_b75.ext E78
            have f79_3 := F_value_b75.ext E78
            have Z78 : n0 ≤ h78.size := Nat.le_trans Z75 E78.1
            have K78 := K75.ext E78
            have Y78 : Ay Z h78 b78 .char 4 (fun _ => 0) := Ay.new (by omega) A78 rfl
            obtain ⟨qn81, cl81, Ar81, S81, H81⟩ := id Y78
            obtain ⟨T82, h82, X82, e82, W82, st82⟩ := stC X78 hx hZ e78 Ar81 (j := (Int32.ofNat 0)) (own_in qn81 S81 (show 0 < 4 by omega)) (g := (mkF m 102 #[vi (Int32.ofNat nn), vi p1, vi p2, vi p3, vi p4, vi p5] [(.int p1), (.int (0 : Int32)), (.ref b78), (.ref b78), (.ref b75), (.ref b75)])) rfl rfl (b d2_102)
            have Y82 : Ay Z h82 b78 .char 4 (fun x => if x = 0 then (nar .char p1) else (fun _ => 0) x) := Ay.put qn81 Ar81 S81 H81 (show 0 < 4 by omega) W82 (fits_nar_char _)
            have sf83_b75 := Safe.wr W82 sn_b78 hC79 sf79_b75
            have sf83_b78 := Safe.wr W82 sn_b78 hC79 sn_b78
            have hr83 := CHr.wr W82 sn_b78 hC79
            have hA83 := hA79.trans hr83
            have hC83 := hr83.1
            have hk83 := Nat.le_trans hk79 hr83.2.1
            have od83 := od79.wr W82 g_b78
            have f83_1 := f79_1.wr W82
            have f83_2 := f79_2.other W82 (Or.inl ne_b75_b78)
            have f83_3 := f79_3.other W82 (Or.inl ne_b75_b78)
            have f83_5 := Ex78.wr W82
            have N82 := Fr.snoc X82 N0 g_b78
            have Z82 : n0 ≤ h82.size := Nat.le_trans Z78 (Keep.of_wr W82).1
            have K82 := K78.wr W82 (Or.inr sz_b78)
            obtain ⟨qn85, cl85, Ar85, S85, H85⟩ := id Y82
            obtain ⟨T86, h86, X86, e86, W86, st86⟩ := stC X82 hx hZ e82 Ar85 (j := (Int32.ofNat 1)) (own_in qn85 S85 (show 1 < 4 by omega)) (g := (mkF m 106 #[vi (Int32.ofNat nn), vi p1, vi p2, vi p3, vi p4, vi p5] [(.int p2), (.int (1 : Int32)), (.ref b78), (.ref b78), (.ref b75), (.ref b75)])) rfl rfl (b d2_106)
            have Y86 : Ay Z h86 b78 .char 4 (fun x => if x = 1 then (nar .char p2) else (fun x => if x = 0 then (nar .char p1) else (fun _ => 0) x) x) := Ay.put qn85 Ar85 S85 H85 (show 1 < 4 by omega) W86 (fits_nar_char _)
            have sf87_b75 := Safe.wr W86 sf83_b78 hC83 sf83_b75
            have sf87_b78 := Safe.wr W86 sf83_b78 hC83 sf83_b78
            have hr87 := CHr.wr W86 sf83_b78 hC83
            have hA87 := hA83.trans hr87
            have hC87 := hr87.1
            have hk87 := Nat.le_trans hk83 hr87.2.1
            have od87 := od83.wr W86 g_b78
            have f87_1 := f83_1.wr W86
            have f87_2 := f83_2.other W86 (Or.inl ne_b75_b78)
            have f87_3 := f83_3.other W86 (Or.inl ne_b75_b78)
            have f87_5 := f83_5.wr W86
            have N86 := Fr.snoc X86 N82 g_b78
            have Z86 : n0 ≤ h86.size := Nat.le_trans Z82 (Keep.of_wr W86).1
            have K86 := K82.wr W86 (Or.inr sz_b78)
            obtain ⟨qn89, cl89, Ar89, S89, H89⟩ := id Y86
            obtain ⟨T90, h90, X90, e90, W90, st90⟩ := stC X86 hx hZ e86 Ar89 (j := (Int32.ofNat 2)) (own_in qn89 S89 (show 2 < 4 by omega)) (g := (mkF m 110 #[vi (Int32.ofNat nn), vi p1, vi p2, vi p3, vi p4, vi p5] [(.int p3), (.int (2 : Int32)), (.ref b78), (.ref b78), (.ref b75), (.ref b75)])) rfl rfl (b d2_110)
            have Y90 : Ay Z h90 b78 .char 4 (fun x => if x = 2 then (nar .char p3) else (fun x => if x = 1 then (nar .char p2) else (fun x => if x = 0 then (nar .char p1) else (fun _ => 0) x) x) x) := Ay.put qn89 Ar89 S89 H89 (show 2 < 4 by omega) W90 (fits_nar_char _)
            have sf91_b75 := Safe.wr W90 sf87_b78 hC87 sf87_b75
            have sf91_b78 := Safe.wr W90 sf87_b78 hC87 sf87_b78
            have hr91 := CHr.wr W90 sf87_b78 hC87
            have hA91 := hA87.trans hr91
            have hC91 := hr91.1
            have hk91 := Nat.le_trans hk87 hr91.2.1
            have od91 := od87.wr W90 g_b78
            have f91_1 := f87_1.wr W90
            have f91_2 := f87_2.other W90 (Or.inl ne_b75_b78)
            have f91_3 := f87_3.other W90 (Or.inl ne_b75_b78)
            have f91_5 := f87_5.wr W90
            have N90 := Fr.snoc X90 N86 g_b78
            have Z90 : n0 ≤ h90.size := Nat.le_trans Z86 (Keep.of_wr W90).1
            have K90 := K86.wr W90 (Or.inr sz_b78)
            obtain ⟨qn93, cl93, Ar93, S93, H93⟩ := id Y90
            obtain ⟨T94, h94, X94, e94, W94, st94⟩ := stC X90 hx hZ e90 Ar93 (j := (Int32.ofNat 3)) (own_in qn93 S93 (show 3 < 4 by omega)) (g := (mkF m 115 #[vi (Int32.ofNat nn), vi p1, vi p2, vi p3, vi p4, vi p5] [(.int p4), (.int (3 : Int32)), (.ref b78), (.ref b78), (.ref b75), (.ref b75)])) rfl rfl (b d2_115)
            have Y94 : Ay Z h94 b78 .char 4 (fun x => if x = 3 then (nar .char p4) else (fun x => if x = 2 then (nar .char p3) else (fun x => if x = 1 then (nar .char p2) else (fun x => if x = 0 then (nar .char p1) else (fun _ => 0) x) x) x) x) := Ay.put qn93 Ar93 S93 H93 (show 3 < 4 by omega) W94 (fits_nar_char _)
            have sf95_b75 := Safe.wr W94 sf91_b78 hC91 sf91_b75
            have sf95_b78 := Safe.wr W94 sf91_b78 hC91 sf91_b78
            have hr95 := CHr.wr W94 sf91_b78 hC91
            have hA95 := hA91.trans hr95
            have hC95 := hr95.1
            have hk95 := Nat.le_trans hk91 hr95.2.1
            have od95 := od91.wr W94 g_b78
            have f95_1 := f91_1.wr W94
            have f95_2 := f91_2.other W94 (Or.inl ne_b75_b78)
            have f95_3 := f91_3.other W94 (Or.inl ne_b75_b78)
            have f95_5 := f91_5.wr W94
            have N94 := Fr.snoc X94 N90 g_b78
            have Z94 : n0 ≤ h94.size := Nat.le_trans Z90 (Keep.of_wr W94).1
            have K94 := K90.wr W94 (Or.inr sz_b78)
            have pre97 : Pr p e below s₁ E0 T94 (mkF m 116 #[vi (Int32.ofNat nn), vi p1, vi p2, vi p3, vi p4, vi p5] [(.ref b78), (.ref b75), (.ref b75)]) := fun t k => pre74 t (by
              refine XS.icmpNo X0.here hx rfl (b d2_89) rfl (teq (own_eqT (a := nn) (b := 4) hc73)).2 ?_
              refine st75 _ ?_
              show Sp p e below T75 (mkF m 95 #[vi (Int32.ofNat nn), vi p1, vi p2, vi p3, vi p4, vi p5] [(.ref b75)]) t
              refine XS.dup X75.here hx rfl (b d2_95) rfl rfl ?_
              refine XS.iconst X75.here hx rfl (b d2_96) ?_
              refine st78 _ ?_
              show Sp p e below T78 (mkF m 99 #[vi (Int32.ofNat nn), vi p1, vi p2, vi p3, vi p4, vi p5] [(.ref b78), (.ref b75), (.ref b75)]) t
              refine XS.dup X78.here hx rfl (b d2_99) rfl rfl ?_
              refine XS.iconst X78.here hx rfl (b d2_100) ?_
              refine XS.iloadN X78.here hx rfl (b d2_101) rfl ?_
              refine st82 _ ?_
              show Sp p e below T82 (mkF m 103 #[vi (Int32.ofNat nn), vi p1, vi p2, vi p3, vi p4, vi p5] [(.ref b78), (.ref b75), (.ref b75)]) t
              refine XS.dup X82.here hx rfl (b d2_103) rfl rfl ?_
              refine XS.iconst X82.here hx rfl (b d2_104) ?_
              refine XS.iloadN X82.here hx rfl (b d2_105) rfl ?_
              refine st86 _ ?_
              show Sp p e below T86 (mkF m 107 #[vi (Int32.ofNat nn), vi p1, vi p2, vi p3, vi p4, vi p5] [(.ref b78), (.ref b75), (.ref b75)]) t
              refine XS.dup X86.here hx rfl (b d2_107) rfl rfl ?_
              refine XS.iconst X86.here hx rfl (b d2_108) ?_
              refine XS.iloadN X86.here hx rfl (b d2_109) rfl ?_
              refine st90 _ ?_
              show Sp p e below T90 (mkF m 111 #[vi (Int32.ofNat nn), vi p1, vi p2, vi p3, vi p4, vi p5] [(.ref b78), (.ref b75), (.ref b75)]) t
              refine XS.dup X90.here hx rfl (b d2_111) rfl rfl ?_
              refine XS.iconst X90.here hx rfl (b d2_112) ?_
              refine XS.iload X90.here hx rfl (b d2_113) rfl ?_
              refine st94 _ ?_
              exact k)
            obtain ⟨_, T98, L98, X98, hQ98, st98⟩ := own_cN X94 hx hml hZ hown (rm_s3 l Z a0 hw b75 b78 4 (fun x => if x = 3 then (nar .char p4) else (fun x => if x = 2 then (nar .char p3) else (fun x => if x = 1 then (nar .char p2) else (fun x => if x = 0 then (nar .char p1) else (fun _ => 0) x) x) x) x) ([p1, p2, p3, p4]) h94 n0 Z94 hst od95 f95_1 g_b75 f95_3 f95_2 Y94 (by omega) (by omega) rfl (fun i hi => by have q : i = 0 ∨ i = 1 ∨ i = 2 ∨ i = 3 := (by omega); rcases q with rfl | rfl | rfl | rfl <;> simp [own_narc h_p1, own_narc h_p2, own_narc h_p3, own_narc h_p4]) (fun i hi => by have q0 : i < 4 := hi; have q : i = 0 ∨ i = 1 ∨ i = 2 ∨ i = 3 := (by omega); rcases q with rfl | rfl | rfl | rfl <;> first | exact h_p1 | exact h_p2 | exact h_p3 | exact h_p4)) (w 12 rfl) (w 13 rfl) (w 11 rfl) (w 14 rfl) rfl e94 (g := (mkF m 116 #[vi (Int32.ofNat nn), vi p1, vi p2, vi p3, vi p4, vi p5] [(.ref b78), (.ref b75), (.ref b75)])) (argsL := [(.ref b78)]) (rest := [(.ref b75)]) (W := 1) (lenOf own_pd44 rfl) (b d2_116)
            obtain ⟨rfl, Nq98, Kq98, t98, szq98, Uq98⟩ := hQ98
            have N98 := Fr.app N94 Nq98
            have sf99_b75 := Safe.keep Kq98 (allS sf95_b75 all0) hC95 sf95_b75
            have sf99_b78 := Safe.keep Kq98 (allS sf95_b75 all0) hC95 sf95_b78
            have hr99 := CHr.keep Kq98 (allS sf95_b75 all0) hC95
            have hA99 := hA95.trans hr99
            have hC99 := hr99.1
            have hk99 := Nat.le_trans hk95 hr99.2.1
            have od99 := od95.keep Kq98 (allS g_b75 all0)
            have f99_1 := f95_1.keep Kq98
            have f99_4 := Y94.keep Kq98 (ninS (Ne.symm ne_b75_b78) nin0)
            have f99_5 := f95_5.keep Kq98
            have Z98 : n0 ≤ T98.heap.size := Nat.le_trans Z94 Kq98.1
            have K98 := K94.trans Kq98 (allS (Or.inr sz_b75) all0)
            have ne_b75_t98 : b75 ≠ t98 := Nat.ne_of_lt (Nat.lt_of_lt_of_le f95_1.lt szq98)
            have ne_b78_t98 : b78 ≠ t98 := Nat.ne_of_lt (Nat.lt_of_lt_of_le Y94.lt szq98)
            have sz_t98 : h0.size ≤ t98 := Nat.le_trans K94.1 szq98
            have g_t98 : n0 ≤ t98 := Nat.le_trans Z94 szq98
            obtain ⟨fs, hr, hrun, hended, hEnd⟩ := X98.leaveW hS0 hk99 (v := some (.ref b75)) (fun h => by rw [hret] at h; cases h)
            have hAe := hA99.trans (CHv.at X98 hZ hEL hC99)
            refine ⟨_, _, pre97 _ ?_, hrun, hended, _, _, rfl, ?_, ?_, hEnd.1, hEnd.2.1, hEnd.2.2.1, hEnd.2.2.2.mono (by decide) (by decide)⟩
            · show Sp p e below T94 (mkF m 116 #[vi (Int32.ofNat nn), vi p1, vi p2, vi p3, vi p4, vi p5] [(.ref b78), (.ref b75), (.ref b75)]) _
              refine st98 _ ?_
              show Sp p e below T98 (mkF m 119 #[vi (Int32.ofNat nn), vi p1, vi p2, vi p3, vi p4, vi p5] [(.ref b75)]) _
              jvm_step X98.here [X98.here.top, hx, (b d2_119), X98.method', hret, Value.isRef, FieldType.isReference]
              first | (intro acts; rw [hr _ acts rfl rfl rfl]) | rw [hr _ _ rfl rfl rfl]
              exact Steps.refl _
            · show Q_make Z p1 p2 p3 p4 p5 nn h0 n0 _ T98.heap _
              exact (by rw [show nn = 4 by omega]; exact ⟨b75, t98, rfl, N98, K98, Uq98⟩)
            · rw [hh]
              show CHr Z consts_1 s.vm h0 T98.vm T98.heap
              exact hAe
          · obtain ⟨T101, h101, X101, e101, E101, A101, D101, -, st101⟩ := newO X0 hx hZ hown (w 9 rfl) (w 10 rfl) (w 11 rfl) e0 (g := (mkF m 120 #[vi (Int32.ofNat nn), vi p1, vi p2, vi p3, vi p4, vi p5] [])) rfl (b d2_120) (by decide) (by decide)
            obtain ⟨b101, g101⟩ : ∃ z, z = h0.size := ⟨_, rfl⟩
            rw [← g101] at A101 D101 st101
            have g_b101 : n0 ≤ b101 := Nat.le_trans Z0 (Nat.le_of_eq g101.symm)
            have sz_b101 : h0.size ≤ b101 := Nat.le_trans K0.1 (Nat.le_of_eq g101.symm)
            have sn_b101 := Safe.ext E101 hC0 (Safe.new (Nat.le_of_eq g101.symm))
            have hr102 := CHr.ext E101 hC0
            have hA102 := hA0.trans hr102
            have hC102 := hr102.1
            have hk102 := Nat.le_trans hk0 hr102.2.1
            have od102 := X00.ext E101
            have Z101 : n0 ≤ h101.size := Nat.le_trans Z0 E101.1
            have K101 := K0.ext E101
            have F_coder_b101 : Fld Z h101 b101 "java/lang/String" "coder" "B" (.int (0 : Int32)) := D101 (Or.inr (w 35 rfl)) (ty := .byte) (by decide)
            have F_value_b101 : Fld Z h101 b101 "java/lang/String" "value" "[B" .null := D101 (Or.inr (w 37 rfl)) (ty := (.array .byte)) (by decide)
            obtain ⟨T104, h104, k104, X104, e104, E104, A104, Ex104, st104⟩ := newPE X101 hx hZ (w 5 rfl) e101 (g := (mkF m 125 #[vi (Int32.ofNat nn), vi p1, vi p2, vi p3, vi p4, vi p5] [(.int (5 : Int32)), (.ref b101), (.ref b101)])) rfl (b d2_125) (n := (Int32.ofNat 5)) rfl (own_nn (by omega)) (cap := 5) (by rw [own_nc (by omega)]; omega) (by decide) (by decide) (by decide) (ad := "[C") (by decide)
            obtain ⟨b104, g104⟩ : ∃ z, z = h101.size := ⟨_, rfl⟩
            rw [← g104] at A104 Ex104 st104
            have ne_b101_b104 : b101 ≠ b104 := Nat.ne_of_lt (Nat.lt_of_lt_of_le A101.lt (Nat.le_of_eq g104.symm))
            have g_b104 : n0 ≤ b104 := Nat.le_trans Z101 (Nat.le_of_eq g104.symm)
            have sz_b104 : h0.size ≤ b104 := Nat.le_trans K101.1 (Nat.le_of_eq g104.symm)
            have sn_b104 := Safe.ext E104 hC102 (Safe.new (Nat.le_of_eq g104.symm))
            have sf105_b101 := Safe.ext E104 hC102 sn_b101
            have hr105 := CHr.ext E104 hC102
            have hA105 := hA102.trans hr105
            have hC105 := hr105.1
            have hk105 := Nat.le_trans hk102 hr105.2.1
            have od105 := od102.ext E104
            have f105_1 := A101.ext E104
            have f105_2 := F_coder_b101.ext E104
            have f105_3 := F_value_b101.ext E104
            have Z104 : n0 ≤ h104.size := Nat.le_trans Z101 E104.1
            have K104 := K101.ext E104
            have Y104 : Ay Z h104 b104 .char 5 (fun _ => 0) := Ay.new (by omega) A104 rfl
            obtain ⟨qn107, cl107, Ar107, S107, H107⟩ := id Y104
            obtain ⟨T108, h108, X108, e108, W108, st108⟩ := stC X104 hx hZ e104 Ar107 (j := (Int32.ofNat 0)) (own_in qn107 S107 (show 0 < 5 by omega)) (g := (mkF m 130 #[vi (Int32.ofNat nn), vi p1, vi p2, vi p3, vi p4, vi p5] [(.int p1), (.int (0 : Int32)), (.ref b104), (.ref b104), (.ref b101), (.ref b101)])) rfl rfl (b d2_130)
            have Y108 : Ay Z h108 b104 .char 5 (fun x => if x = 0 then (nar .char p1) else (fun _ => 0) x) := Ay.put qn107 Ar107 S107 H107 (show 0 < 5 by omega) W108 (fits_nar_char _)
            have sf109_b101 := Safe.wr W108 sn_b104 hC105 sf105_b101
            have sf109_b104 := Safe.wr W108 sn_b104 hC105 sn_b104
            have hr109 := CHr.wr W108 sn_b104 hC105
            have hA109 := hA105.trans hr109
            have hC109 := hr109.1
            have hk109 := Nat.le_trans hk105 hr109.2.1
            have od109 := od105.wr W108 g_b104
            have f109_1 := f105_1.wr W108
            have f109_2 := f105_2.other W108 (Or.inl ne_b101_b104)
            have f109_3 := f105_3.other W108 (Or.inl ne_b101_b104)
            have f109_5 := Ex104.wr W108
            have N108 := Fr.snoc X108 N0 g_b104
            have Z108 : n0 ≤ h108.size := Nat.le_trans Z104 (Keep.of_wr W108).1
            have K108 := K104.wr W108 (Or.inr sz_b104)
            obtain ⟨qn111, cl111, Ar111, S111, H111⟩ := id Y108
            obtain ⟨T112, h112, X112, e112, W112, st112⟩ := stC X108 hx hZ e108 Ar111 (j := (Int32.ofNat 1)) (own_in qn111 S111 (show 1 < 5 by omega)) (g := (mkF m 134 #[vi (Int32.ofNat nn), vi p1, vi p2, vi p3, vi p4, vi p5] [(.int p2), (.int (1 : Int32)), (.ref b104), (.ref b104), (.ref b101), (.ref b101)])) rfl rfl (b d2_134)
            have Y112 : Ay Z h112 b104 .char 5 (fun x => if x = 1 then (nar .char p2) else (fun x => if x = 0 then (nar .char p1) else (fun _ => 0) x) x) := Ay.put qn111 Ar111 S111 H111 (show 1 < 5 by omega) W112 (fits_nar_char _)
            have sf113_b101 := Safe.wr W112 sf109_b104 hC109 sf109_b101
            have sf113_b104 := Safe.wr W112 sf109_b104 hC109 sf109_b104
            have hr113 := CHr.wr W112 sf109_b104 hC109
            have hA113 := hA109.trans hr113
            have hC113 := hr113.1
            have hk113 := Nat.le_trans hk109 hr113.2.1
            have od113 := od109.wr W112 g_b104
            have f113_1 := f109_1.wr W112
            have f113_2 := f109_2.other W112 (Or.inl ne_b101_b104)
            have f113_3 := f109_3.other W112 (Or.inl ne_b101_b104)
            have f113_5 := f109_5.wr W112
            have N112 := Fr.snoc X112 N108 g_b104
            have Z112 : n0 ≤ h112.size := Nat.le_trans Z108 (Keep.of_wr W112).1
            have K112 := K108.wr W112 (Or.inr sz_b104)
            obtain ⟨qn115, cl115, Ar115, S115, H115⟩ := id Y112
            obtain ⟨T116, h116, X116, e116, W116, st116⟩ := stC X112 hx hZ e112 Ar115 (j := (Int32.ofNat 2)) (own_in qn115 S115 (show 2 < 5 by omega)) (g := (mkF m 138 #[vi (Int32.ofNat nn), vi p1, vi p2, vi p3, vi p4, vi p5] [(.int p3), (.int (2 : Int32)), (.ref b104), (.ref b104), (.ref b101), (.ref b101)])) rfl rfl (b d2_138)
            have Y116 : Ay Z h116 b104 .char 5 (fun x => if x = 2 then (nar .char p3) else (fun x => if x = 1 then (nar .char p2) else (fun x => if x = 0 then (nar .char p1) else (fun _ => 0) x) x) x) := Ay.put qn115 Ar115 S115 H115 (show 2 < 5 by omega) W116 (fits_nar_char _)
            have sf117_b101 := Safe.wr W116 sf113_b104 hC113 sf113_b101
            have sf117_b104 := Safe.wr W116 sf113_b104 hC113 sf113_b104
            have hr117 := CHr.wr W116 sf113_b104 hC113
            have hA117 := hA113.trans hr117
            have hC117 := hr117.1
            have hk117 := Nat.le_trans hk113 hr117.2.1
            have od117 := od113.wr W116 g_b104
            have f117_1 := f113_1.wr W116
            have f117_2 := f113_2.other W116 (Or.inl ne_b101_b104)
            have f117_3 := f113_3.other W116 (Or.inl ne_b101_b104)
            have f117_5 := f113_5.wr W116
            have N116 := Fr.snoc X116 N112 g_b104
            have Z116 : n0 ≤ h116.size := Nat.le_trans Z112 (Keep.of_wr W116).1
            have K116 := K112.wr W116 (Or.inr sz_b104)
            obtain ⟨qn119, cl119, Ar119, S119, H119⟩ := id Y116
            obtain ⟨T120, h120, X120, e120, W120, st120⟩ := stC X116 hx hZ e116 Ar119 (j := (Int32.ofNat 3)) (own_in qn119 S119 (show 3 < 5 by omega)) (g := (mkF m 143 #[vi (Int32.ofNat nn), vi p1, vi p2, vi p3, vi p4, vi p5] [(.int p4), (.int (3 : Int32)), (.ref b104), (.ref b104), (.ref b101), (.ref b101)])) rfl rfl (b d2_143)
            have Y120 : Ay Z h120 b104 .char 5 (fun x => if x = 3 then (nar .char p4) else (fun x => if x = 2 then (nar .char p3) else (fun x => if x = 1 then (nar .char p2) else (fun x => if x = 0 then (nar .char p1) else (fun _ => 0) x) x) x) x) := Ay.put qn119 Ar119 S119 H119 (show 3 < 5 by omega) W120 (fits_nar_char _)
            have sf121_b101 := Safe.wr W120 sf117_b104 hC117 sf117_b101
            have sf121_b104 := Safe.wr W120 sf117_b104 hC117 sf117_b104
            have hr121 := CHr.wr W120 sf117_b104 hC117
            have hA121 := hA117.trans hr121
            have hC121 := hr121.1
            have hk121 := Nat.le_trans hk117 hr121.2.1
            have od121 := od117.wr W120 g_b104
            have f121_1 := f117_1.wr W120
            have f121_2 := f117_2.other W120 (Or.inl ne_b101_b104)
            have f121_3 := f117_3.other W120 (Or.inl ne_b101_b104)
            have f121_5 := f117_5.wr W120
            have N120 := Fr.snoc X120 N116 g_b104
            have Z120 : n0 ≤ h120.size := Nat.le_trans Z116 (Keep.of_wr W120).1
            have K120 := K116.wr W120 (Or.inr sz_b104)
            obtain ⟨qn123, cl123, Ar123, S123, H123⟩ := id Y120
            obtain ⟨T124, h124, X124, e124, W124, st124⟩ := stC X120 hx hZ e120 Ar123 (j := (Int32.ofNat 4)) (own_in qn123 S123 (show 4 < 5 by omega)) (g := (mkF m 148 #[vi (Int32.ofNat nn), vi p1, vi p2, vi p3, vi p4, vi p5] [(.int p5), (.int (4 : Int32)), (.ref b104), (.ref b104), (.ref b101), (.ref b101)])) rfl rfl (b d2_148)
            have Y124 : Ay Z h124 b104 .char 5 (fun x => if x = 4 then (nar .char p5) else (fun x => if x = 3 then (nar .char p4) else (fun x => if x = 2 then (nar .char p3) else (fun x => if x = 1 then (nar .char p2) else (fun x => if x = 0 then (nar .char p1) else (fun _ => 0) x) x) x) x) x) := Ay.put qn123 Ar123 S123 H123 (show 4 < 5 by omega) W124 (fits_nar_char _)
            have sf125_b101 := Safe.wr W124 sf121_b104 hC121 sf121_b101
            have sf125_b104 := Safe.wr W124 sf121_b104 hC121 sf121_b104
            have hr125 := CHr.wr W124 sf121_b104 hC121
            have hA125 := hA121.trans hr125
            have hC125 := hr125.1
            have hk125 := Nat.le_trans hk121 hr125.2.1
            have od125 := od121.wr W124 g_b104
            have f125_1 := f121_1.wr W124
            have f125_2 := f121_2.other W124 (Or.inl ne_b101_b104)
            have f125_3 := f121_3.other W124 (Or.inl ne_b101_b104)
            have f125_5 := f121_5.wr W124
            have N124 := Fr.snoc X124 N120 g_b104
            have Z124 : n0 ≤ h124.size := Nat.le_trans Z120 (Keep.of_wr W124).1
            have K124 := K120.wr W124 (Or.inr sz_b104)
            have pre127 : Pr p e below s₁ E0 T124 (mkF m 149 #[vi (Int32.ofNat nn), vi p1, vi p2, vi p3, vi p4, vi p5] [(.ref b104), (.ref b101), (.ref b101)]) := fun t k => pre74 t (by
              refine XS.icmpYes X0.here hx rfl (pc0 := 89) (pc' := 120) rfl (b d2_89) rfl (feq (own_eqF (a := nn) (b := 4) hc73 (by omega) (by omega))).2 (by decide) (by decide) ?_
              refine st101 _ ?_
              show Sp p e below T101 (mkF m 123 #[vi (Int32.ofNat nn), vi p1, vi p2, vi p3, vi p4, vi p5] [(.ref b101)]) t
              refine XS.dup X101.here hx rfl (b d2_123) rfl rfl ?_
              refine XS.iconst X101.here hx rfl (b d2_124) ?_
              refine st104 _ ?_
              show Sp p e below T104 (mkF m 127 #[vi (Int32.ofNat nn), vi p1, vi p2, vi p3, vi p4, vi p5] [(.ref b104), (.ref b101), (.ref b101)]) t
              refine XS.dup X104.here hx rfl (b d2_127) rfl rfl ?_
              refine XS.iconst X104.here hx rfl (b d2_128) ?_
              refine XS.iloadN X104.here hx rfl (b d2_129) rfl ?_
              refine st108 _ ?_
              show Sp p e below T108 (mkF m 131 #[vi (Int32.ofNat nn), vi p1, vi p2, vi p3, vi p4, vi p5] [(.ref b104), (.ref b101), (.ref b101)]) t
              refine XS.dup X108.here hx rfl (b d2_131) rfl rfl ?_
              refine XS.iconst X108.here hx rfl (b d2_132) ?_
              refine XS.iloadN X108.here hx rfl (b d2_133) rfl ?_
              refine st112 _ ?_
              show Sp p e below T112 (mkF m 135 #[vi (Int32.ofNat nn), vi p1, vi p2, vi p3, vi p4, vi p5] [(.ref b104), (.ref b101), (.ref b101)]) t
              refine XS.dup X112.here hx rfl (b d2_135) rfl rfl ?_
              refine XS.iconst X112.here hx rfl (b d2_136) ?_
              refine XS.iloadN X112.here hx rfl (b d2_137) rfl ?_
              refine st116 _ ?_
              show Sp p e below T116 (mkF m 139 #[vi (Int32.ofNat nn), vi p1, vi p2, vi p3, vi p4, vi p5] [(.ref b104), (.ref b101), (.ref b101)]) t
              refine XS.dup X116.here hx rfl (b d2_139) rfl rfl ?_
              refine XS.iconst X116.here hx rfl (b d2_140) ?_
              refine XS.iload X116.here hx rfl (b d2_141) rfl ?_
              refine st120 _ ?_
              show Sp p e below T120 (mkF m 144 #[vi (Int32.ofNat nn), vi p1, vi p2, vi p3, vi p4, vi p5] [(.ref b104), (.ref b101), (.ref b101)]) t
              refine XS.dup X120.here hx rfl (b d2_144) rfl rfl ?_
              refine XS.iconst X120.here hx rfl (b d2_145) ?_
              refine XS.iload X120.here hx rfl (b d2_146) rfl ?_
              refine st124 _ ?_
              exact k)
            obtain ⟨_, T128, L128, X128, hQ128, st128⟩ := own_cN X124 hx hml hZ hown (rm_s3 l Z a0 hw b101 b104 5 (fun x => if x = 4 then (nar .char p5) else (fun x => if x = 3 then (nar .char p4) else (fun x => if x = 2 then (nar .char p3) else (fun x => if x = 1 then (nar .char p2) else (fun x => if x = 0 then (nar .char p1) else (fun _ => 0) x) x) x) x) x) ([p1, p2, p3, p4, p5]) h124 n0 Z124 hst od125 f125_1 g_b101 f125_3 f125_2 Y124 (by omega) (by omega) rfl (fun i hi => by have q : i = 0 ∨ i = 1 ∨ i = 2 ∨ i = 3 ∨ i = 4 := (by omega); rcases q with rfl | rfl | rfl | rfl | rfl <;> simp [own_narc h_p1, own_narc h_p2, own_narc h_p3, own_narc h_p4, own_narc h_p5]) (fun i hi => by have q0 : i < 5 := hi; have q : i = 0 ∨ i = 1 ∨ i = 2 ∨ i = 3 ∨ i = 4 := (by omega); rcases q with rfl | rfl | rfl | rfl | rfl <;> first | exact h_p1 | exact h_p2 | exact h_p3 | exact h_p4 | exact h_p5)) (w 12 rfl) (w 13 rfl) (w 11 rfl) (w 14 rfl) rfl e124 (g := (mkF m 149 #[vi (Int32.ofNat nn), vi p1, vi p2, vi p3, vi p4, vi p5] [(.ref b104), (.ref b101), (.ref b101)])) (argsL := [(.ref b104)]) (rest := [(.ref b101)]) (W := 1) (lenOf own_pd44 rfl) (b d2_149)
            obtain ⟨rfl, Nq128, Kq128, t128, szq128, Uq128⟩ := hQ128
            have N128 := Fr.app N124 Nq128
            have sf129_b101 := Safe.keep Kq128 (allS sf125_b101 all0) hC125 sf125_b101
            have sf129_b104 := Safe.keep Kq128 (allS sf125_b101 all0) hC125 sf125_b104
            have hr129 := CHr.keep Kq128 (allS sf125_b101 all0) hC125
            have hA129 := hA125.trans hr129
            have hC129 := hr129.1
            have hk129 := Nat.le_trans hk125 hr129.2.1
            have od129 := od125.keep Kq128 (allS g_b101 all0)
            have f129_1 := f125_1.keep Kq128
            have f129_4 := Y124.keep Kq128 (ninS (Ne.symm ne_b101_b104) nin0)
            have f129_5 := f125_5.keep Kq128
            have Z128 : n0 ≤ T128.heap.size := Nat.le_trans Z124 Kq128.1
            have K128 := K124.trans Kq128 (allS (Or.inr sz_b101) all0)
            have ne_b101_t128 : b101 ≠ t128 := Nat.ne_of_lt (Nat.lt_of_lt_of_le f125_1.lt szq128)
            have ne_b104_t128 : b104 ≠ t128 := Nat.ne_of_lt (Nat.lt_of_lt_of_le Y124.lt szq128)
            have sz_t128 : h0.size ≤ t128 := Nat.le_trans K124.1 szq128
            have g_t128 : n0 ≤ t128 := Nat.le_trans Z124 szq128
            obtain ⟨fs, hr, hrun, hended, hEnd⟩ := X128.leaveW hS0 hk129 (v := some (.ref b101)) (fun h => by rw [hret] at h; cases h)
            have hAe := hA129.trans (CHv.at X128 hZ hEL hC129)
            refine ⟨_, _, pre127 _ ?_, hrun, hended, _, _, rfl, ?_, ?_, hEnd.1, hEnd.2.1, hEnd.2.2.1, hEnd.2.2.2.mono (by decide) (by decide)⟩
            · show Sp p e below T124 (mkF m 149 #[vi (Int32.ofNat nn), vi p1, vi p2, vi p3, vi p4, vi p5] [(.ref b104), (.ref b101), (.ref b101)]) _
              refine st128 _ ?_
              show Sp p e below T128 (mkF m 152 #[vi (Int32.ofNat nn), vi p1, vi p2, vi p3, vi p4, vi p5] [(.ref b101)]) _
              jvm_step X128.here [X128.here.top, hx, (b d2_152), X128.method', hret, Value.isRef, FieldType.isReference]
              first | (intro acts; rw [hr _ acts rfl rfl rfl]) | rw [hr _ _ rfl rfl rfl]
              exact Steps.refl _
            · show Q_make Z p1 p2 p3 p4 p5 nn h0 n0 _ T128.heap _
              exact (by rw [show nn = 5 by omega]; exact ⟨b101, t128, rfl, N128, K128, Uq128⟩)
            · rw [hh]
              show CHr Z consts_1 s.vm h0 T128.vm T128.heap
              exact hAe
theorem own_pd45 : parseMethodDescriptor "(ICCCCC)Ljava/lang/String;" = some ⟨[.int, .char, .char, .char, .char, .char], some (.object "java/lang/String")⟩ := by decide +kernel
theorem own_pd46 : parseMethodDescriptor "(Ljava/lang/String;)Ljava/lang/String;" = some ⟨[(.object "java/lang/String")], some (.object "java/lang/String")⟩ := by decide +kernel
theorem own_pd47 : parseMethodDescriptor "([CIZZC)I" = some ⟨[(.array .char), .int, .boolean, .boolean, .char], some .int⟩ := by decide +kernel
theorem own_pd48 : parseMethodDescriptor "(Ljava/lang/String;[CI)Z" = some ⟨[(.object "java/lang/String"), (.array .char), .int], some .boolean⟩ := by decide +kernel
theorem ef_law (m : MethodId) (i0 : Int32) (i1 : Int32) (i2 : Int32) (i3 : Int32) (i4 : Int32) (i5 : Int32) : entryFrame m #[(.int i0), (.int i1), (.int i2), (.int i3), (.int i4), (.int i5)] maxLocals = mkF m 0 #[vi i0, vi i1, vi i2, vi i3, vi i4, vi i5, vu, vu, vu, vu, vu, vu, vu, vu, vu, vu, vu, vu, vu, vu, vu, vu, vu, vu, vu, vu, vu, vu, vu, vu, vu, vu, vu, vu, vu, vu, vu, vu, vu, vu, vu] [] := by first | (simp [entryFrame, mkF, argsToLocals, Value.category, vr, vi, vu, maxLocals]; done) | rfl
def Q_law (Z : State) (i0 : Int32) (i1 : Int32) (i2 : Int32) (i3 : Int32) (i4 : Int32) (i5 : Int32) (h0 : Heap) (n0 : Nat) (v : Option Value) (h : Heap) (L : List Loc) : Prop := v = some (.int 1) ∧ Fr n0 L
set_option maxRecDepth 65536 in
set_option maxHeartbeats 40000000 in
theorem rm_law (l : Launch) (Z : State) (a0 : Array Value) (hw : ∀ d ∈ tables_1, d.before a0 Z = true) (ws : List Jvm.Cond) (i0 : Int32) (i1 : Int32) (i2 : Int32) (i3 : Int32) (i4 : Int32) (i5 : Int32) (h0 : Heap) (n0 : Nat) (Z0 : n0 ≤ h0.size) (hst : own_St Z) (X00 : Old Z n0 h0) :
    MetFree l x (head1 (Jvm.Cond.code x code maxLocals ret :: ws) room_1) (fun a U => a = #[(.int i0), (.int i1), (.int i2), (.int i3), (.int i4), (.int i5)] ∧ Z.Warmed39 U.vm ∧ U.heap = h0 ∧ CHv Z consts_1 U.vm h0) (fun _ _ _ _ _ => True) (fun _ U o U' => ∃ v L, o = .returned v ∧ Q_law Z i0 i1 i2 i3 i4 i5 h0 n0 v U'.heap L ∧ CHr Z consts_1 U.vm U.heap U'.vm U'.heap ∧ ReturnedEndW U o U' L 23 167) := by
  refine MetFree.of_bodySF (plainFor_of_name own_pn40) hisR ?_
  intro p e s m args below meth c s₁ Bd hml0 hP hK
  obtain ⟨rfl, hZ, hh, hC0⟩ := hP
  have hx := Bd.exec
  have hby := Bd.bytes
  have hret := Bd.returns
  have w := own_w hw
  have b : ∀ {pc : Nat} {i : Instr} {n : Nat}, dk code pc i n → decode c.code pc = .ok (i, n) := fun d => hb hby d
  have hml : c.maxLocals = 41 := hml0
  have hown : s.vm.findClass "org/interpunct/marc/OneLineOfPinLaw" = some m.cls := findClass_of_methodNamed Bd.named
  have hnm := (name_of_methodNamed Bd.named Bd.method).1
  have X0 : Stand p l e room_1 (s.setVm s.vm) m #[(.int i0), (.int i1), (.int i2), (.int i3), (.int i4), (.int i5)] below meth c s₁ [] 0 0 := Stand.of_body Bd
  have e0 : s₁.heap = h0 := by rw [← hh, Bd.state]; rfl
  have N0 := Fr.nil n0
  have pre0 : ∀ t, Steps p.tables e below (s₁.setTop (mkF m 0 #[vi i0, vi i1, vi i2, vi i3, vi i4, vi i5, vu, vu, vu, vu, vu, vu, vu, vu, vu, vu, vu, vu, vu, vu, vu, vu, vu, vu, vu, vu, vu, vu, vu, vu, vu, vu, vu, vu, vu, vu, vu, vu, vu, vu, vu] [])) t → Steps p.tables e below (s₁.setTop (entryFrame m #[(.int i0), (.int i1), (.int i2), (.int i3), (.int i4), (.int i5)] maxLocals)) t := fun t k => castTop (ef_law m i0 i1 i2 i3 i4 i5) k
  generalize hE0 : entryFrame m #[(.int i0), (.int i1), (.int i2), (.int i3), (.int i4), (.int i5)] maxLocals = E0 at pre0 ⊢
  have hEL := own_EW hw
  have wS := own_wS hw
  have hS0 : s.Since s.vm s.heap.size := (State.WarmedH.refl s).since _
  have hk0 : s.heap.size ≤ h0.size := by rw [hh]; exact Nat.le_refl _
  have hA0 : CHr Z consts_1 s.vm h0 s.vm h0 := CHr.refl hC0
  have pre1 : Pr p e below s₁ E0 s₁ (mkF m 2 #[vi i0, vi i1, vi i2, vi i3, vi i4, vi i5, vu, vu, vu, vu, vu, vu, vu, vu, vu, vu, vu, vu, vu, vu, vu, vu, vu, vu, vu, vu, vu, vu, vu, vu, vu, vu, vu, vu, vu, vu, vu, vu, vu, vu, vu] [(.int i5)]) := fun t k => pre0 t (by
    refine XS.iload X0.here hx rfl (b at_0) rfl ?_
    exact k)
  obtain ⟨nn, hn6, enn⟩ := own_n6 i5
  have pre2 : Pr p e below s₁ E0 s₁ (mkF m 8 #[vi i0, vi i1, vi i2, vi i3, vi i4, vi i5, vu, vu, vu, vu, vu, vu, vu, vu, vu, vu, vu, vu, vu, vu, vu, vu, vu, vu, vu, vu, vu, vu, vu, vu, vu, vu, vu, vu, vu, vu, vu, vu, vu, vu, vu] [(.int ((i5 &&& (2147483647 : Int32)) % (6 : Int32)))]) := fun t k => pre1 t (by
    refine X0.ldcInt hx hown (mvT hZ (w 0 rfl)) (g := (mkF m 2 #[vi i0, vi i1, vi i2, vi i3, vi i4, vi i5, vu, vu, vu, vu, vu, vu, vu, vu, vu, vu, vu, vu, vu, vu, vu, vu, vu, vu, vu, vu, vu, vu, vu, vu, vu, vu, vu, vu, vu, vu, vu, vu, vu, vu, vu] [(.int i5)])) rfl (b at_2) _ ?_
    show Sp p e below s₁ (mkF m 4 #[vi i0, vi i1, vi i2, vi i3, vi i4, vi i5, vu, vu, vu, vu, vu, vu, vu, vu, vu, vu, vu, vu, vu, vu, vu, vu, vu, vu, vu, vu, vu, vu, vu, vu, vu, vu, vu, vu, vu, vu, vu, vu, vu, vu, vu] [(.int (2147483647 : Int32)), (.int i5)]) t
    refine XS.iand X0.here hx rfl (b at_4) rfl ?_
    refine XS.bipush X0.here hx rfl (b at_5) ?_
    refine iremM X0 hx rfl (b at_7) rfl (by decide) ?_
    exact k)
  rw [enn] at pre2
  have pre3 : Pr p e below s₁ E0 s₁ (mkF m 11 #[vi i0, vi i1, vi i2, vi i3, vi i4, vi i5, vi (Int32.ofNat nn), vu, vu, vu, vu, vu, vu, vu, vu, vu, vu, vu, vu, vu, vu, vu, vu, vu, vu, vu, vu, vu, vu, vu, vu, vu, vu, vu, vu, vu, vu, vu, vu, vu, vu] [(.int i0)]) := fun t k => pre2 t (by
    refine XS.istore X0.here hx rfl (b at_8) rfl (l' := #[vi i0, vi i1, vi i2, vi i3, vi i4, vi i5, vi (Int32.ofNat nn), vu, vu, vu, vu, vu, vu, vu, vu, vu, vu, vu, vu, vu, vu, vu, vu, vu, vu, vu, vu, vu, vu, vu, vu, vu, vu, vu, vu, vu, vu, vu, vu, vu, vu]) rfl ?_
    refine XS.iloadN X0.here hx rfl (b at_10) rfl ?_
    exact k)
  obtain ⟨_, T4, L4, X4, hQ4, st4⟩ := own_cS X0 hx hml hZ hown (rm_ch l Z a0 hw i0 h0 n0 Z0) (w 1 rfl) (w 2 rfl) (w 3 rfl) (w 4 rfl) e0 (g := (mkF m 11 #[vi i0, vi i1, vi i2, vi i3, vi i4, vi i5, vi (Int32.ofNat nn), vu, vu, vu, vu, vu, vu, vu, vu, vu, vu, vu, vu, vu, vu, vu, vu, vu, vu, vu, vu, vu, vu, vu, vu, vu, vu, vu, vu, vu, vu, vu, vu, vu, vu] [(.int i0)])) (argsL := [(.int i0)]) (rest := []) (W := 0) (lenOf own_pd29 rfl) (b at_11)
  obtain ⟨c4, rfl, Nq4, Kq4, hc4⟩ := hQ4
  have N4 := Fr.app N0 Nq4
  have hr5 := CHr.keep Kq4 all0 hC0
  have hA5 := hA0.trans hr5
  have hC5 := hr5.1
  have hk5 := Nat.le_trans hk0 hr5.2.1
  have od5 := X00.keep Kq4 all0
  have Z4 : n0 ≤ T4.heap.size := Nat.le_trans Z0 Kq4.1
  have pre7 : Pr p e below s₁ E0 T4 (mkF m 17 #[vi i0, vi i1, vi i2, vi i3, vi i4, vi i5, vi (Int32.ofNat nn), vi c4, vu, vu, vu, vu, vu, vu, vu, vu, vu, vu, vu, vu, vu, vu, vu, vu, vu, vu, vu, vu, vu, vu, vu, vu, vu, vu, vu, vu, vu, vu, vu, vu, vu] [(.int i1)]) := fun t k => pre3 t (by
    refine st4 _ ?_
    show Sp p e below T4 (mkF m 14 #[vi i0, vi i1, vi i2, vi i3, vi i4, vi i5, vi (Int32.ofNat nn), vu, vu, vu, vu, vu, vu, vu, vu, vu, vu, vu, vu, vu, vu, vu, vu, vu, vu, vu, vu, vu, vu, vu, vu, vu, vu, vu, vu, vu, vu, vu, vu, vu, vu] [(.int c4)]) t
    refine XS.istore X4.here hx rfl (b at_14) rfl (l' := #[vi i0, vi i1, vi i2, vi i3, vi i4, vi i5, vi (Int32.ofNat nn), vi c4, vu, vu, vu, vu, vu, vu, vu, vu, vu, vu, vu, vu, vu, vu, vu, vu, vu, vu, vu, vu, vu, vu, vu, vu, vu, vu, vu, vu, vu, vu, vu, vu, vu]) rfl ?_
    refine XS.iloadN X4.here hx rfl (b at_16) rfl ?_
    exact k)
  obtain ⟨_, T8, L8, X8, hQ8, st8⟩ := own_cS X4 hx hml hZ hown (rm_ch l Z a0 hw i1 T4.heap n0 Z4) (w 1 rfl) (w 2 rfl) (w 3 rfl) (w 4 rfl) rfl (g := (mkF m 17 #[vi i0, vi i1, vi i2, vi i3, vi i4, vi i5, vi (Int32.ofNat nn), vi c4, vu, vu, vu, vu, vu, vu, vu, vu, vu, vu, vu, vu, vu, vu, vu, vu, vu, vu, vu, vu, vu, vu, vu, vu, vu, vu, vu, vu, vu, vu, vu, vu, vu] [(.int i1)])) (argsL := [(.int i1)]) (rest := []) (W := 0) (lenOf own_pd29 rfl) (b at_17)
  obtain ⟨c8, rfl, Nq8, Kq8, hc8⟩ := hQ8
  have N8 := Fr.app N4 Nq8
  have hr9 := CHr.keep Kq8 all0 hC5
  have hA9 := hA5.trans hr9
  have hC9 := hr9.1
  have hk9 := Nat.le_trans hk5 hr9.2.1
  have od9 := od5.keep Kq8 all0
  have Z8 : n0 ≤ T8.heap.size := Nat.le_trans Z4 Kq8.1
  have pre11 : Pr p e below s₁ E0 T8 (mkF m 23 #[vi i0, vi i1, vi i2, vi i3, vi i4, vi i5, vi (Int32.ofNat nn), vi c4, vi c8, vu, vu, vu, vu, vu, vu, vu, vu, vu, vu, vu, vu, vu, vu, vu, vu, vu, vu, vu, vu, vu, vu, vu, vu, vu, vu, vu, vu, vu, vu, vu, vu] [(.int i2)]) := fun t k => pre7 t (by
    refine st8 _ ?_
    show Sp p e below T8 (mkF m 20 #[vi i0, vi i1, vi i2, vi i3, vi i4, vi i5, vi (Int32.ofNat nn), vi c4, vu, vu, vu, vu, vu, vu, vu, vu, vu, vu, vu, vu, vu, vu, vu, vu, vu, vu, vu, vu, vu, vu, vu, vu, vu, vu, vu, vu, vu, vu, vu, vu, vu] [(.int c8)]) t
    refine XS.istore X8.here hx rfl (b at_20) rfl (l' := #[vi i0, vi i1, vi i2, vi i3, vi i4, vi i5, vi (Int32.ofNat nn), vi c4, vi c8, vu, vu, vu, vu, vu, vu, vu, vu, vu, vu, vu, vu, vu, vu, vu, vu, vu, vu, vu, vu, vu, vu, vu, vu, vu, vu, vu, vu, vu, vu, vu, vu]) rfl ?_
    refine XS.iloadN X8.here hx rfl (b at_22) rfl ?_
    exact k)
  obtain ⟨_, T12, L12, X12, hQ12, st12⟩ := own_cS X8 hx hml hZ hown (rm_ch l Z a0 hw i2 T8.heap n0 Z8) (w 1 rfl) (w 2 rfl) (w 3 rfl) (w 4 rfl) rfl (g := (mkF m 23 #[vi i0, vi i1, vi i2, vi i3, vi i4, vi i5, vi (Int32.ofNat nn), vi c4, vi c8, vu, vu, vu, vu, vu, vu, vu, vu, vu, vu, vu, vu, vu, vu, vu, vu, vu, vu, vu, vu, vu, vu, vu, vu, vu, vu, vu, vu, vu, vu, vu, vu] [(.int i2)])) (argsL := [(.int i2)]) (rest := []) (W := 0) (lenOf own_pd29 rfl) (b at_23)
  obtain ⟨c12, rfl, Nq12, Kq12, hc12⟩ := hQ12
  have N12 := Fr.app N8 Nq12
  have hr13 := CHr.keep Kq12 all0 hC9
  have hA13 := hA9.trans hr13
  have hC13 := hr13.1
  have hk13 := Nat.le_trans hk9 hr13.2.1
  have od13 := od9.keep Kq12 all0
  have Z12 : n0 ≤ T12.heap.size := Nat.le_trans Z8 Kq12.1
  have pre15 : Pr p e below s₁ E0 T12 (mkF m 29 #[vi i0, vi i1, vi i2, vi i3, vi i4, vi i5, vi (Int32.ofNat nn), vi c4, vi c8, vi c12, vu, vu, vu, vu, vu, vu, vu, vu, vu, vu, vu, vu, vu, vu, vu, vu, vu, vu, vu, vu, vu, vu, vu, vu, vu, vu, vu, vu, vu, vu, vu] [(.int i3)]) := fun t k => pre11 t (by
    refine st12 _ ?_
    show Sp p e below T12 (mkF m 26 #[vi i0, vi i1, vi i2, vi i3, vi i4, vi i5, vi (Int32.ofNat nn), vi c4, vi c8, vu, vu, vu, vu, vu, vu, vu, vu, vu, vu, vu, vu, vu, vu, vu, vu, vu, vu, vu, vu, vu, vu, vu, vu, vu, vu, vu, vu, vu, vu, vu, vu] [(.int c12)]) t
    refine XS.istore X12.here hx rfl (b at_26) rfl (l' := #[vi i0, vi i1, vi i2, vi i3, vi i4, vi i5, vi (Int32.ofNat nn), vi c4, vi c8, vi c12, vu, vu, vu, vu, vu, vu, vu, vu, vu, vu, vu, vu, vu, vu, vu, vu, vu, vu, vu, vu, vu, vu, vu, vu, vu, vu, vu, vu, vu, vu, vu]) rfl ?_
    refine XS.iloadN X12.here hx rfl (b at_28) rfl ?_
    exact k)
  obtain ⟨_, T16, L16, X16, hQ16, st16⟩ := own_cS X12 hx hml hZ hown (rm_ch l Z a0 hw i3 T12.heap n0 Z12) (w 1 rfl) (w 2 rfl) (w 3 rfl) (w 4 rfl) rfl (g := (mkF m 29 #[vi i0, vi i1, vi i2, vi i3, vi i4, vi i5, vi (Int32.ofNat nn), vi c4, vi c8, vi c12, vu, vu, vu, vu, vu, vu, vu, vu, vu, vu, vu, vu, vu, vu, vu, vu, vu, vu, vu, vu, vu, vu, vu, vu, vu, vu, vu, vu, vu, vu, vu] [(.int i3)])) (argsL := [(.int i3)]) (rest := []) (W := 0) (lenOf own_pd29 rfl) (b at_29)
  obtain ⟨c16, rfl, Nq16, Kq16, hc16⟩ := hQ16
  have N16 := Fr.app N12 Nq16
  have hr17 := CHr.keep Kq16 all0 hC13
  have hA17 := hA13.trans hr17
  have hC17 := hr17.1
  have hk17 := Nat.le_trans hk13 hr17.2.1
  have od17 := od13.keep Kq16 all0
  have Z16 : n0 ≤ T16.heap.size := Nat.le_trans Z12 Kq16.1
  have pre19 : Pr p e below s₁ E0 T16 (mkF m 36 #[vi i0, vi i1, vi i2, vi i3, vi i4, vi i5, vi (Int32.ofNat nn), vi c4, vi c8, vi c12, vi c16, vu, vu, vu, vu, vu, vu, vu, vu, vu, vu, vu, vu, vu, vu, vu, vu, vu, vu, vu, vu, vu, vu, vu, vu, vu, vu, vu, vu, vu, vu] [(.int i4)]) := fun t k => pre15 t (by
    refine st16 _ ?_
    show Sp p e below T16 (mkF m 32 #[vi i0, vi i1, vi i2, vi i3, vi i4, vi i5, vi (Int32.ofNat nn), vi c4, vi c8, vi c12, vu, vu, vu, vu, vu, vu, vu, vu, vu, vu, vu, vu, vu, vu, vu, vu, vu, vu, vu, vu, vu, vu, vu, vu, vu, vu, vu, vu, vu, vu, vu] [(.int c16)]) t
    refine XS.istore X16.here hx rfl (b at_32) rfl (l' := #[vi i0, vi i1, vi i2, vi i3, vi i4, vi i5, vi (Int32.ofNat nn), vi c4, vi c8, vi c12, vi c16, vu, vu, vu, vu, vu, vu, vu, vu, vu, vu, vu, vu, vu, vu, vu, vu, vu, vu, vu, vu, vu, vu, vu, vu, vu, vu, vu, vu, vu, vu]) rfl ?_
    refine XS.iload X16.here hx rfl (b at_34) rfl ?_
    exact k)
  obtain ⟨_, T20, L20, X20, hQ20, st20⟩ := own_cS X16 hx hml hZ hown (rm_ch l Z a0 hw i4 T16.heap n0 Z16) (w 1 rfl) (w 2 rfl) (w 3 rfl) (w 4 rfl) rfl (g := (mkF m 36 #[vi i0, vi i1, vi i2, vi i3, vi i4, vi i5, vi (Int32.ofNat nn), vi c4, vi c8, vi c12, vi c16, vu, vu, vu, vu, vu, vu, vu, vu, vu, vu, vu, vu, vu, vu, vu, vu, vu, vu, vu, vu, vu, vu, vu, vu, vu, vu, vu, vu, vu, vu] [(.int i4)])) (argsL := [(.int i4)]) (rest := []) (W := 0) (lenOf own_pd29 rfl) (b at_36)
  obtain ⟨c20, rfl, Nq20, Kq20, hc20⟩ := hQ20
  have N20 := Fr.app N16 Nq20
  have hr21 := CHr.keep Kq20 all0 hC17
  have hA21 := hA17.trans hr21
  have hC21 := hr21.1
  have hk21 := Nat.le_trans hk17 hr21.2.1
  have od21 := od17.keep Kq20 all0
  have Z20 : n0 ≤ T20.heap.size := Nat.le_trans Z16 Kq20.1
  have pre23 : Pr p e below s₁ E0 T20 (mkF m 53 #[vi i0, vi i1, vi i2, vi i3, vi i4, vi i5, vi (Int32.ofNat nn), vi c4, vi c8, vi c12, vi c16, vi c20, vu, vu, vu, vu, vu, vu, vu, vu, vu, vu, vu, vu, vu, vu, vu, vu, vu, vu, vu, vu, vu, vu, vu, vu, vu, vu, vu, vu, vu] [(.int c20), (.int c16), (.int c12), (.int c8), (.int c4), (.int (Int32.ofNat nn))]) := fun t k => pre19 t (by
    refine st20 _ ?_
    show Sp p e below T20 (mkF m 39 #[vi i0, vi i1, vi i2, vi i3, vi i4, vi i5, vi (Int32.ofNat nn), vi c4, vi c8, vi c12, vi c16, vu, vu, vu, vu, vu, vu, vu, vu, vu, vu, vu, vu, vu, vu, vu, vu, vu, vu, vu, vu, vu, vu, vu, vu, vu, vu, vu, vu, vu, vu] [(.int c20)]) t
    refine XS.istore X20.here hx rfl (b at_39) rfl (l' := #[vi i0, vi i1, vi i2, vi i3, vi i4, vi i5, vi (Int32.ofNat nn), vi c4, vi c8, vi c12, vi c16, vi c20, vu, vu, vu, vu, vu, vu, vu, vu, vu, vu, vu, vu, vu, vu, vu, vu, vu, vu, vu, vu, vu, vu, vu, vu, vu, vu, vu, vu, vu]) rfl ?_
    refine XS.iload X20.here hx rfl (b at_41) rfl ?_
    refine XS.iload X20.here hx rfl (b at_43) rfl ?_
    refine XS.iload X20.here hx rfl (b at_45) rfl ?_
    refine XS.iload X20.here hx rfl (b at_47) rfl ?_
    refine XS.iload X20.here hx rfl (b at_49) rfl ?_
    refine XS.iload X20.here hx rfl (b at_51) rfl ?_
    exact k)
  obtain ⟨_, _, ⟨T24, L24, k24, n24⟩, -, Xs24, hs24, hg24, ⟨Lc24, hQ24, l24, y24, z24, hR24⟩, st24⟩ := callSS X20 hx (y := (⟨"org/interpunct/marc/OneLineOfPinLaw", "make", "(ICCCCC)Ljava/lang/String;"⟩ : MethodName)) hown (mvT hZ (w 6 rfl)) (mvT hZ (w 7 rfl)) (mvT hZ (w 3 rfl)) (mvT hZ (w 8 rfl)) (by decide) (backOfSH (W := 0) (rm_make l Z a0 hw [] c4 c8 c12 c16 c20 nn T20.heap n0 Z20 hst od21 hn6 hc4 hc8 hc12 hc16 hc20) hZ (w 8 rfl) (w 3 rfl) (by decide) (by decide) hEL hC21) (g := (mkF m 53 #[vi i0, vi i1, vi i2, vi i3, vi i4, vi i5, vi (Int32.ofNat nn), vi c4, vi c8, vi c12, vi c16, vi c20, vu, vu, vu, vu, vu, vu, vu, vu, vu, vu, vu, vu, vu, vu, vu, vu, vu, vu, vu, vu, vu, vu, vu, vu, vu, vu, vu, vu, vu] [(.int c20), (.int c16), (.int c12), (.int c8), (.int c4), (.int (Int32.ofNat nn))])) rfl (by rw [hml]; rfl) (argsL := [(.int (Int32.ofNat nn)), (.int c4), (.int c8), (.int c12), (.int c16), (.int c20)]) (rest := []) (lenOf own_pd45 rfl) rfl (by show 2 * 0 + _ ≤ _; exact Nat.le_of_eq rfl) (b at_53) (fun _ _ => ⟨rfl, rfl, (by decide : 5 + 6 ≤ _), (by decide : 50 + 24 ≤ _)⟩)
  dsimp only [Pt.U, Pt.locs, Pt.cells, Pt.slots] at Xs24 hs24 hg24 l24 y24 z24 st24 hQ24 hR24
  subst l24 y24 z24
  obtain ⟨X24, hS24, hZ, hown⟩ := rebS hS0 hk21 Xs24 hs24 hg24 hZ hown
  obtain ⟨u24, t24, rfl, Nq24, Kq24, Uq24⟩ := hQ24
  have N24 := Fr.app N20 Nq24
  have od25 := od21.keep Kq24 all0
  have hA24 := hA21.trans hR24
  have hC24 := hR24.1
  have hk24 : T24.heap.size ≤ T24.heap.size := Nat.le_refl _
  have Z24 : n0 ≤ T24.heap.size := Nat.le_trans Z20 Kq24.1
  have pre27 : Pr p e below s₁ E0 T24 (mkF m 60 #[vi i0, vi i1, vi i2, vi i3, vi i4, vi i5, vi (Int32.ofNat nn), vi c4, vi c8, vi c12, vi c16, vi c20, vr u24, vu, vu, vu, vu, vu, vu, vu, vu, vu, vu, vu, vu, vu, vu, vu, vu, vu, vu, vu, vu, vu, vu, vu, vu, vu, vu, vu, vu] [(.ref u24)]) := fun t k => pre23 t (by
    refine st24.trans ?_
    show Sp p e below T24 (mkF m 56 #[vi i0, vi i1, vi i2, vi i3, vi i4, vi i5, vi (Int32.ofNat nn), vi c4, vi c8, vi c12, vi c16, vi c20, vu, vu, vu, vu, vu, vu, vu, vu, vu, vu, vu, vu, vu, vu, vu, vu, vu, vu, vu, vu, vu, vu, vu, vu, vu, vu, vu, vu, vu] [(.ref u24)]) t
    refine XS.astore X24.here hx rfl (b at_56) rfl rfl (l' := #[vi i0, vi i1, vi i2, vi i3, vi i4, vi i5, vi (Int32.ofNat nn), vi c4, vi c8, vi c12, vi c16, vi c20, vr u24, vu, vu, vu, vu, vu, vu, vu, vu, vu, vu, vu, vu, vu, vu, vu, vu, vu, vu, vu, vu, vu, vu, vu, vu, vu, vu, vu, vu]) rfl ?_
    refine XS.aload X24.here hx rfl (b at_58) rfl rfl ?_
    exact k)
  obtain ⟨_, T28, L28, X28, hQ28, st28⟩ := own_cS X24 hx hml hZ hown (rm_of l Z a0 hw u24 t24 (own_mk nn c4 c8 c12 c16 c20) T24.heap n0 Z24 hst od25 Uq24) (w 38 rfl) (w 39 rfl) (w 40 rfl) (w 41 rfl) rfl (g := (mkF m 60 #[vi i0, vi i1, vi i2, vi i3, vi i4, vi i5, vi (Int32.ofNat nn), vi c4, vi c8, vi c12, vi c16, vi c20, vr u24, vu, vu, vu, vu, vu, vu, vu, vu, vu, vu, vu, vu, vu, vu, vu, vu, vu, vu, vu, vu, vu, vu, vu, vu, vu, vu, vu, vu] [(.ref u24)])) (argsL := [(.ref u24)]) (rest := []) (W := 0) (lenOf own_pd46 rfl) (b at_60)
  obtain ⟨u28, t28, rfl, Nq28, Kq28, Uq28⟩ := hQ28
  have N28 := Fr.app N24 Nq28
  have hr29 := CHr.keep Kq28 all0 hC24
  have hA29 := hA24.trans hr29
  have hC29 := hr29.1
  have hk29 := Nat.le_trans hk24 hr29.2.1
  have od29 := od25.keep Kq28 all0
  have u30_1 := Uq24.keep Kq28 nin0 nin0
  have Z28 : n0 ≤ T28.heap.size := Nat.le_trans Z24 Kq28.1
  have pre31 : Pr p e below s₁ E0 T28 (mkF m 67 #[vi i0, vi i1, vi i2, vi i3, vi i4, vi i5, vi (Int32.ofNat nn), vi c4, vi c8, vi c12, vi c16, vi c20, vr u24, vr u28, vu, vu, vu, vu, vu, vu, vu, vu, vu, vu, vu, vu, vu, vu, vu, vu, vu, vu, vu, vu, vu, vu, vu, vu, vu, vu, vu] [(.int (Int32.ofNat nn))]) := fun t k => pre27 t (by
    refine st28 _ ?_
    show Sp p e below T28 (mkF m 63 #[vi i0, vi i1, vi i2, vi i3, vi i4, vi i5, vi (Int32.ofNat nn), vi c4, vi c8, vi c12, vi c16, vi c20, vr u24, vu, vu, vu, vu, vu, vu, vu, vu, vu, vu, vu, vu, vu, vu, vu, vu, vu, vu, vu, vu, vu, vu, vu, vu, vu, vu, vu, vu] [(.ref u28)]) t
    refine XS.astore X28.here hx rfl (b at_63) rfl rfl (l' := #[vi i0, vi i1, vi i2, vi i3, vi i4, vi i5, vi (Int32.ofNat nn), vi c4, vi c8, vi c12, vi c16, vi c20, vr u24, vr u28, vu, vu, vu, vu, vu, vu, vu, vu, vu, vu, vu, vu, vu, vu, vu, vu, vu, vu, vu, vu, vu, vu, vu, vu, vu, vu, vu]) rfl ?_
    refine XS.iload X28.here hx rfl (b at_65) rfl ?_
    exact k)
  obtain ⟨fw0, hfw0⟩ : ∃ z : Bool, z = (decide (0 < nn) && (own_sp c4 || own_br c4)) := ⟨_, rfl⟩
  obtain ⟨T32, LL32, X32, N32, e32, pre32⟩ : ∃ (T : State) (LL : List Loc), Stand p l e room_1 (s.setVm T24.vm) m #[(.int i0), (.int i1), (.int i2), (.int i3), (.int i4), (.int i5)] below meth c T LL (22) (162) ∧ Fr n0 LL ∧ T.heap = T28.heap ∧ Pr p e below s₁ E0 T (mkF m 90 #[vi i0, vi i1, vi i2, vi i3, vi i4, vi i5, vi (Int32.ofNat nn), vi c4, vi c8, vi c12, vi c16, vi c20, vr u24, vr u28, vu, vu, vu, vu, vu, vu, vu, vu, vu, vu, vu, vu, vu, vu, vu, vu, vu, vu, vu, vu, vu, vu, vu, vu, vu, vu, vu] [(.int (own_B fw0))]) := by
    by_cases hc33 : 0 < nn
    · have pre35 : Pr p e below s₁ E0 T28 (mkF m 74 #[vi i0, vi i1, vi i2, vi i3, vi i4, vi i5, vi (Int32.ofNat nn), vi c4, vi c8, vi c12, vi c16, vi c20, vr u24, vr u28, vu, vu, vu, vu, vu, vu, vu, vu, vu, vu, vu, vu, vu, vu, vu, vu, vu, vu, vu, vu, vu, vu, vu, vu, vu, vu, vu] [(.int (32 : Int32)), (.int c4)]) := fun t k => pre31 t (by
        refine XS.ifNo X28.here hx rfl (b at_67) rfl ((if0 _ _).trans (tlt (own_ltT (a := 0) (b := nn) hc33 (by omega))).2.2.2) ?_
        refine XS.iload X28.here hx rfl (b at_70) rfl ?_
        refine XS.bipush X28.here hx rfl (b at_72) ?_
        exact k)
      by_cases hc34 : c4 = (32 : Int32)
      · skip
        exact ⟨T28, _, X28, N28, rfl, fun t k => pre35 t (by
          refine XS.icmpYes X28.here hx rfl (pc0 := 74) (pc' := 85) rfl (b at_74) rfl (teq hc34).1 (by decide) (by decide) ?_
          refine XS.iconst X28.here hx rfl (b at_85) ?_
          refine XS.goto X28.here hx rfl (pc0 := 86) (pc' := 90) rfl (b at_86) (by decide) (by decide) ?_
          rw [show own_B fw0 = (1 : Int32) by rw [hfw0, decide_eq_true hc33, own_spt hc34]; rfl] at k
          exact k)⟩
      · have pre36 : Pr p e below s₁ E0 T28 (mkF m 79 #[vi i0, vi i1, vi i2, vi i3, vi i4, vi i5, vi (Int32.ofNat nn), vi c4, vi c8, vi c12, vi c16, vi c20, vr u24, vr u28, vu, vu, vu, vu, vu, vu, vu, vu, vu, vu, vu, vu, vu, vu, vu, vu, vu, vu, vu, vu, vu, vu, vu, vu, vu, vu, vu] [(.int c4)]) := fun t k => pre35 t (by
          refine XS.icmpNo X28.here hx rfl (b at_74) rfl (feq hc34).1 ?_
          refine XS.iload X28.here hx rfl (b at_77) rfl ?_
          exact k)
        obtain ⟨_, T37, L37, X37, hQ37, st37⟩ := own_cS X28 hx hml hZ hown (rm_br l Z a0 hw c4 T28.heap n0 Z28) (w 77 rfl) (w 78 rfl) (w 3 rfl) (w 79 rfl) rfl (g := (mkF m 79 #[vi i0, vi i1, vi i2, vi i3, vi i4, vi i5, vi (Int32.ofNat nn), vi c4, vi c8, vi c12, vi c16, vi c20, vr u24, vr u28, vu, vu, vu, vu, vu, vu, vu, vu, vu, vu, vu, vu, vu, vu, vu, vu, vu, vu, vu, vu, vu, vu, vu, vu, vu, vu, vu] [(.int c4)])) (argsL := [(.int c4)]) (rest := []) (W := 0) (lenOf own_pd30 rfl) (b at_79)
        obtain ⟨rfl, Nq37, e37⟩ := hQ37
        have N37 := Fr.app N28 Nq37
        have pre39 : Pr p e below s₁ E0 T37 (mkF m 82 #[vi i0, vi i1, vi i2, vi i3, vi i4, vi i5, vi (Int32.ofNat nn), vi c4, vi c8, vi c12, vi c16, vi c20, vr u24, vr u28, vu, vu, vu, vu, vu, vu, vu, vu, vu, vu, vu, vu, vu, vu, vu, vu, vu, vu, vu, vu, vu, vu, vu, vu, vu, vu, vu] [(.int (fn_br c4))]) := fun t k => pre36 t (by
          refine st37 _ ?_
          exact k)
        by_cases hc38 : (fn_br c4) = (0 : Int32)
        · skip
          exact ⟨T37, _, X37, N37, e37, fun t k => pre39 t (by
            refine XS.ifYes X37.here hx rfl (pc0 := 82) (pc' := 89) rfl (b at_82) rfl ((if0 _ _).trans (teq hc38).1) (by decide) (by decide) ?_
            refine XS.iconst X37.here hx rfl (b at_89) ?_
            rw [show own_B fw0 = (0 : Int32) by rw [hfw0, decide_eq_true hc33, own_spf hc34, own_bf hc38]; rfl] at k
            exact k)⟩
        · skip
          exact ⟨T37, _, X37, N37, e37, fun t k => pre39 t (by
            refine XS.ifNo X37.here hx rfl (b at_82) rfl ((if0 _ _).trans (feq hc38).1) ?_
            refine XS.iconst X37.here hx rfl (b at_85) ?_
            refine XS.goto X37.here hx rfl (pc0 := 86) (pc' := 90) rfl (b at_86) (by decide) (by decide) ?_
            rw [show own_B fw0 = (1 : Int32) by rw [hfw0, decide_eq_true hc33, own_spf hc34, own_bt hc38]; rfl] at k
            exact k)⟩
    · skip
      exact ⟨T28, _, X28, N28, rfl, fun t k => pre31 t (by
        refine XS.ifYes X28.here hx rfl (pc0 := 67) (pc' := 89) rfl (b at_67) rfl ((if0 _ _).trans (flt (own_ltF (a := 0) (b := nn) hc33 (by omega))).2.2.2) (by decide) (by decide) ?_
        refine XS.iconst X28.here hx rfl (b at_89) ?_
        rw [show own_B fw0 = (0 : Int32) by rw [hfw0, decide_eq_false hc33]; rfl] at k
        exact k)⟩
  have pre40 : Pr p e below s₁ E0 T32 (mkF m 95 #[vi i0, vi i1, vi i2, vi i3, vi i4, vi i5, vi (Int32.ofNat nn), vi c4, vi c8, vi c12, vi c16, vi c20, vr u24, vr u28, vB fw0, vu, vu, vu, vu, vu, vu, vu, vu, vu, vu, vu, vu, vu, vu, vu, vu, vu, vu, vu, vu, vu, vu, vu, vu, vu, vu] [(.int (1 : Int32)), (.int (Int32.ofNat nn))]) := fun t k => pre32 t (by
    refine XS.istore X32.here hx rfl (b at_90) rfl (l' := #[vi i0, vi i1, vi i2, vi i3, vi i4, vi i5, vi (Int32.ofNat nn), vi c4, vi c8, vi c12, vi c16, vi c20, vr u24, vr u28, vB fw0, vu, vu, vu, vu, vu, vu, vu, vu, vu, vu, vu, vu, vu, vu, vu, vu, vu, vu, vu, vu, vu, vu, vu, vu, vu, vu]) rfl ?_
    refine XS.iload X32.here hx rfl (b at_92) rfl ?_
    refine XS.iconst X32.here hx rfl (b at_94) ?_
    exact k)
  obtain ⟨fw1, hfw1⟩ : ∃ z : Bool, z = (decide (1 < nn) && (own_sp c8 || own_br c8)) := ⟨_, rfl⟩
  obtain ⟨T41, LL41, X41, N41, e41, pre41⟩ : ∃ (T : State) (LL : List Loc), Stand p l e room_1 (s.setVm T24.vm) m #[(.int i0), (.int i1), (.int i2), (.int i3), (.int i4), (.int i5)] below meth c T LL (22) (162) ∧ Fr n0 LL ∧ T.heap = T28.heap ∧ Pr p e below s₁ E0 T (mkF m 118 #[vi i0, vi i1, vi i2, vi i3, vi i4, vi i5, vi (Int32.ofNat nn), vi c4, vi c8, vi c12, vi c16, vi c20, vr u24, vr u28, vB fw0, vu, vu, vu, vu, vu, vu, vu, vu, vu, vu, vu, vu, vu, vu, vu, vu, vu, vu, vu, vu, vu, vu, vu, vu, vu, vu] [(.int (own_B fw1))]) := by
    by_cases hc42 : 1 < nn
    · have pre44 : Pr p e below s₁ E0 T32 (mkF m 102 #[vi i0, vi i1, vi i2, vi i3, vi i4, vi i5, vi (Int32.ofNat nn), vi c4, vi c8, vi c12, vi c16, vi c20, vr u24, vr u28, vB fw0, vu, vu, vu, vu, vu, vu, vu, vu, vu, vu, vu, vu, vu, vu, vu, vu, vu, vu, vu, vu, vu, vu, vu, vu, vu, vu] [(.int (32 : Int32)), (.int c8)]) := fun t k => pre40 t (by
        refine XS.icmpNo X32.here hx rfl (b at_95) rfl (tlt (own_ltT (a := 1) (b := nn) hc42 (by omega))).2.2.2 ?_
        refine XS.iload X32.here hx rfl (b at_98) rfl ?_
        refine XS.bipush X32.here hx rfl (b at_100) ?_
        exact k)
      by_cases hc43 : c8 = (32 : Int32)
      · skip
        exact ⟨T32, _, X32, N32, e32, fun t k => pre44 t (by
          refine XS.icmpYes X32.here hx rfl (pc0 := 102) (pc' := 113) rfl (b at_102) rfl (teq hc43).1 (by decide) (by decide) ?_
          refine XS.iconst X32.here hx rfl (b at_113) ?_
          refine XS.goto X32.here hx rfl (pc0 := 114) (pc' := 118) rfl (b at_114) (by decide) (by decide) ?_
          rw [show own_B fw1 = (1 : Int32) by rw [hfw1, decide_eq_true hc42, own_spt hc43]; rfl] at k
          exact k)⟩
      · have pre45 : Pr p e below s₁ E0 T32 (mkF m 107 #[vi i0, vi i1, vi i2, vi i3, vi i4, vi i5, vi (Int32.ofNat nn), vi c4, vi c8, vi c12, vi c16, vi c20, vr u24, vr u28, vB fw0, vu, vu, vu, vu, vu, vu, vu, vu, vu, vu, vu, vu, vu, vu, vu, vu, vu, vu, vu, vu, vu, vu, vu, vu, vu, vu] [(.int c8)]) := fun t k => pre44 t (by
          refine XS.icmpNo X32.here hx rfl (b at_102) rfl (feq hc43).1 ?_
          refine XS.iload X32.here hx rfl (b at_105) rfl ?_
          exact k)
        obtain ⟨_, T46, L46, X46, hQ46, st46⟩ := own_cS X32 hx hml hZ hown (rm_br l Z a0 hw c8 T28.heap n0 Z28) (w 77 rfl) (w 78 rfl) (w 3 rfl) (w 79 rfl) e32 (g := (mkF m 107 #[vi i0, vi i1, vi i2, vi i3, vi i4, vi i5, vi (Int32.ofNat nn), vi c4, vi c8, vi c12, vi c16, vi c20, vr u24, vr u28, vB fw0, vu, vu, vu, vu, vu, vu, vu, vu, vu, vu, vu, vu, vu, vu, vu, vu, vu, vu, vu, vu, vu, vu, vu, vu, vu, vu] [(.int c8)])) (argsL := [(.int c8)]) (rest := []) (W := 0) (lenOf own_pd30 rfl) (b at_107)
        obtain ⟨rfl, Nq46, e46⟩ := hQ46
        have N46 := Fr.app N32 Nq46
        have pre48 : Pr p e below s₁ E0 T46 (mkF m 110 #[vi i0, vi i1, vi i2, vi i3, vi i4, vi i5, vi (Int32.ofNat nn), vi c4, vi c8, vi c12, vi c16, vi c20, vr u24, vr u28, vB fw0, vu, vu, vu, vu, vu, vu, vu, vu, vu, vu, vu, vu, vu, vu, vu, vu, vu, vu, vu, vu, vu, vu, vu, vu, vu, vu] [(.int (fn_br c8))]) := fun t k => pre45 t (by
          refine st46 _ ?_
          exact k)
        by_cases hc47 : (fn_br c8) = (0 : Int32)
        · skip
          exact ⟨T46, _, X46, N46, e46, fun t k => pre48 t (by
            refine XS.ifYes X46.here hx rfl (pc0 := 110) (pc' := 117) rfl (b at_110) rfl ((if0 _ _).trans (teq hc47).1) (by decide) (by decide) ?_
            refine XS.iconst X46.here hx rfl (b at_117) ?_
            rw [show own_B fw1 = (0 : Int32) by rw [hfw1, decide_eq_true hc42, own_spf hc43, own_bf hc47]; rfl] at k
            exact k)⟩
        · skip
          exact ⟨T46, _, X46, N46, e46, fun t k => pre48 t (by
            refine XS.ifNo X46.here hx rfl (b at_110) rfl ((if0 _ _).trans (feq hc47).1) ?_
            refine XS.iconst X46.here hx rfl (b at_113) ?_
            refine XS.goto X46.here hx rfl (pc0 := 114) (pc' := 118) rfl (b at_114) (by decide) (by decide) ?_
            rw [show own_B fw1 = (1 : Int32) by rw [hfw1, decide_eq_true hc42, own_spf hc43, own_bt hc47]; rfl] at k
            exact k)⟩
    · skip
      exact ⟨T32, _, X32, N32, e32, fun t k => pre40 t (by
        refine XS.icmpYes X32.here hx rfl (pc0 := 95) (pc' := 117) rfl (b at_95) rfl (flt (own_ltF (a := 1) (b := nn) hc42 (by omega))).2.2.2 (by decide) (by decide) ?_
        refine XS.iconst X32.here hx rfl (b at_117) ?_
        rw [show own_B fw1 = (0 : Int32) by rw [hfw1, decide_eq_false hc42]; rfl] at k
        exact k)⟩
  have pre49 : Pr p e below s₁ E0 T41 (mkF m 123 #[vi i0, vi i1, vi i2, vi i3, vi i4, vi i5, vi (Int32.ofNat nn), vi c4, vi c8, vi c12, vi c16, vi c20, vr u24, vr u28, vB fw0, vB fw1, vu, vu, vu, vu, vu, vu, vu, vu, vu, vu, vu, vu, vu, vu, vu, vu, vu, vu, vu, vu, vu, vu, vu, vu, vu] [(.int (2 : Int32)), (.int (Int32.ofNat nn))]) := fun t k => pre41 t (by
    refine XS.istore X41.here hx rfl (b at_118) rfl (l' := #[vi i0, vi i1, vi i2, vi i3, vi i4, vi i5, vi (Int32.ofNat nn), vi c4, vi c8, vi c12, vi c16, vi c20, vr u24, vr u28, vB fw0, vB fw1, vu, vu, vu, vu, vu, vu, vu, vu, vu, vu, vu, vu, vu, vu, vu, vu, vu, vu, vu, vu, vu, vu, vu, vu, vu]) rfl ?_
    refine XS.iload X41.here hx rfl (b at_120) rfl ?_
    refine XS.iconst X41.here hx rfl (b at_122) ?_
    exact k)
  obtain ⟨fw2, hfw2⟩ : ∃ z : Bool, z = (decide (2 < nn) && (own_sp c12 || own_br c12)) := ⟨_, rfl⟩
  obtain ⟨T50, LL50, X50, N50, e50, pre50⟩ : ∃ (T : State) (LL : List Loc), Stand p l e room_1 (s.setVm T24.vm) m #[(.int i0), (.int i1), (.int i2), (.int i3), (.int i4), (.int i5)] below meth c T LL (22) (162) ∧ Fr n0 LL ∧ T.heap = T28.heap ∧ Pr p e below s₁ E0 T (mkF m 146 #[vi i0, vi i1, vi i2, vi i3, vi i4, vi i5, vi (Int32.ofNat nn), vi c4, vi c8, vi c12, vi c16, vi c20, vr u24, vr u28, vB fw0, vB fw1, vu, vu, vu, vu, vu, vu, vu, vu, vu, vu, vu, vu, vu, vu, vu, vu, vu, vu, vu, vu, vu, vu, vu, vu, vu] [(.int (own_B fw2))]) := by
    by_cases hc51 : 2 < nn
    · have pre53 : Pr p e below s₁ E0 T41 (mkF m 130 #[vi i0, vi i1, vi i2, vi i3, vi i4, vi i5, vi (Int32.ofNat nn), vi c4, vi c8, vi c12, vi c16, vi c20, vr u24, vr u28, vB fw0, vB fw1, vu, vu, vu, vu, vu, vu, vu, vu, vu, vu, vu, vu, vu, vu, vu, vu, vu, vu, vu, vu, vu, vu, vu, vu, vu] [(.int (32 : Int32)), (.int c12)]) := fun t k => pre49 t (by
        refine XS.icmpNo X41.here hx rfl (b at_123) rfl (tlt (own_ltT (a := 2) (b := nn) hc51 (by omega))).2.2.2 ?_
        refine XS.iload X41.here hx rfl (b at_126) rfl ?_
        refine XS.bipush X41.here hx rfl (b at_128) ?_
        exact k)
      by_cases hc52 : c12 = (32 : Int32)
      · skip
        exact ⟨T41, _, X41, N41, e41, fun t k => pre53 t (by
          refine XS.icmpYes X41.here hx rfl (pc0 := 130) (pc' := 141) rfl (b at_130) rfl (teq hc52).1 (by decide) (by decide) ?_
          refine XS.iconst X41.here hx rfl (b at_141) ?_
          refine XS.goto X41.here hx rfl (pc0 := 142) (pc' := 146) rfl (b at_142) (by decide) (by decide) ?_
          rw [show own_B fw2 = (1 : Int32) by rw [hfw2, decide_eq_true hc51, own_spt hc52]; rfl] at k
          exact k)⟩
      · have pre54 : Pr p e below s₁ E0 T41 (mkF m 135 #[vi i0, vi i1, vi i2, vi i3, vi i4, vi i5, vi (Int32.ofNat nn), vi c4, vi c8, vi c12, vi c16, vi c20, vr u24, vr u28, vB fw0, vB fw1, vu, vu, vu, vu, vu, vu, vu, vu, vu, vu, vu, vu, vu, vu, vu, vu, vu, vu, vu, vu, vu, vu, vu, vu, vu] [(.int c12)]) := fun t k => pre53 t (by
          refine XS.icmpNo X41.here hx rfl (b at_130) rfl (feq hc52).1 ?_
          refine XS.iload X41.here hx rfl (b at_133) rfl ?_
          exact k)
        obtain ⟨_, T55, L55, X55, hQ55, st55⟩ := own_cS X41 hx hml hZ hown (rm_br l Z a0 hw c12 T28.heap n0 Z28) (w 77 rfl) (w 78 rfl) (w 3 rfl) (w 79 rfl) e41 (g := (mkF m 135 #[vi i0, vi i1, vi i2, vi i3, vi i4, vi i5, vi (Int32.ofNat nn), vi c4, vi c8, vi c12, vi c16, vi c20, vr u24, vr u28, vB fw0, vB fw1, vu, vu, vu, vu, vu, vu, vu, vu, vu, vu, vu, vu, vu, vu, vu, vu, vu, vu, vu, vu, vu, vu, vu, vu, vu] [(.int c12)])) (argsL := [(.int c12)]) (rest := []) (W := 0) (lenOf own_pd30 rfl) (b at_135)
        obtain ⟨rfl, Nq55, e55⟩ := hQ55
        have N55 := Fr.app N41 Nq55
        have pre57 : Pr p e below s₁ E0 T55 (mkF m 138 #[vi i0, vi i1, vi i2, vi i3, vi i4, vi i5, vi (Int32.ofNat nn), vi c4, vi c8, vi c12, vi c16, vi c20, vr u24, vr u28, vB fw0, vB fw1, vu, vu, vu, vu, vu, vu, vu, vu, vu, vu, vu, vu, vu, vu, vu, vu, vu, vu, vu, vu, vu, vu, vu, vu, vu] [(.int (fn_br c12))]) := fun t k => pre54 t (by
          refine st55 _ ?_
          exact k)
        by_cases hc56 : (fn_br c12) = (0 : Int32)
        · skip
          exact ⟨T55, _, X55, N55, e55, fun t k => pre57 t (by
            refine XS.ifYes X55.here hx rfl (pc0 := 138) (pc' := 145) rfl (b at_138) rfl ((if0 _ _).trans (teq hc56).1) (by decide) (by decide) ?_
            refine XS.iconst X55.here hx rfl (b at_145) ?_
            rw [show own_B fw2 = (0 : Int32) by rw [hfw2, decide_eq_true hc51, own_spf hc52, own_bf hc56]; rfl] at k
            exact k)⟩
        · skip
          exact ⟨T55, _, X55, N55, e55, fun t k => pre57 t (by
            refine XS.ifNo X55.here hx rfl (b at_138) rfl ((if0 _ _).trans (feq hc56).1) ?_
            refine XS.iconst X55.here hx rfl (b at_141) ?_
            refine XS.goto X55.here hx rfl (pc0 := 142) (pc' := 146) rfl (b at_142) (by decide) (by decide) ?_
            rw [show own_B fw2 = (1 : Int32) by rw [hfw2, decide_eq_true hc51, own_spf hc52, own_bt hc56]; rfl] at k
            exact k)⟩
    · skip
      exact ⟨T41, _, X41, N41, e41, fun t k => pre49 t (by
        refine XS.icmpYes X41.here hx rfl (pc0 := 123) (pc' := 145) rfl (b at_123) rfl (flt (own_ltF (a := 2) (b := nn) hc51 (by omega))).2.2.2 (by decide) (by decide) ?_
        refine XS.iconst X41.here hx rfl (b at_145) ?_
        rw [show own_B fw2 = (0 : Int32) by rw [hfw2, decide_eq_false hc51]; rfl] at k
        exact k)⟩
  have pre58 : Pr p e below s₁ E0 T50 (mkF m 151 #[vi i0, vi i1, vi i2, vi i3, vi i4, vi i5, vi (Int32.ofNat nn), vi c4, vi c8, vi c12, vi c16, vi c20, vr u24, vr u28, vB fw0, vB fw1, vB fw2, vu, vu, vu, vu, vu, vu, vu, vu, vu, vu, vu, vu, vu, vu, vu, vu, vu, vu, vu, vu, vu, vu, vu, vu] [(.int (3 : Int32)), (.int (Int32.ofNat nn))]) := fun t k => pre50 t (by
    refine XS.istore X50.here hx rfl (b at_146) rfl (l' := #[vi i0, vi i1, vi i2, vi i3, vi i4, vi i5, vi (Int32.ofNat nn), vi c4, vi c8, vi c12, vi c16, vi c20, vr u24, vr u28, vB fw0, vB fw1, vB fw2, vu, vu, vu, vu, vu, vu, vu, vu, vu, vu, vu, vu, vu, vu, vu, vu, vu, vu, vu, vu, vu, vu, vu, vu]) rfl ?_
    refine XS.iload X50.here hx rfl (b at_148) rfl ?_
    refine XS.iconst X50.here hx rfl (b at_150) ?_
    exact k)
  obtain ⟨fw3, hfw3⟩ : ∃ z : Bool, z = (decide (3 < nn) && (own_sp c16 || own_br c16)) := ⟨_, rfl⟩
  obtain ⟨T59, LL59, X59, N59, e59, pre59⟩ : ∃ (T : State) (LL : List Loc), Stand p l e room_1 (s.setVm T24.vm) m #[(.int i0), (.int i1), (.int i2), (.int i3), (.int i4), (.int i5)] below meth c T LL (22) (162) ∧ Fr n0 LL ∧ T.heap = T28.heap ∧ Pr p e below s₁ E0 T (mkF m 174 #[vi i0, vi i1, vi i2, vi i3, vi i4, vi i5, vi (Int32.ofNat nn), vi c4, vi c8, vi c12, vi c16, vi c20, vr u24, vr u28, vB fw0, vB fw1, vB fw2, vu, vu, vu, vu, vu, vu, vu, vu, vu, vu, vu, vu, vu, vu, vu, vu, vu, vu, vu, vu, vu, vu, vu, vu] [(.int (own_B fw3))]) := by
    by_cases hc60 : 3 < nn
    · have pre62 : Pr p e below s₁ E0 T50 (mkF m 158 #[vi i0, vi i1, vi i2, vi i3, vi i4, vi i5, vi (Int32.ofNat nn), vi c4, vi c8, vi c12, vi c16, vi c20, vr u24, vr u28, vB fw0, vB fw1, vB fw2, vu, vu, vu, vu, vu, vu, vu, vu, vu, vu, vu, vu, vu, vu, vu, vu, vu, vu, vu, vu, vu, vu, vu, vu] [(.int (32 : Int32)), (.int c16)]) := fun t k => pre58 t (by
        refine XS.icmpNo X50.here hx rfl (b at_151) rfl (tlt (own_ltT (a := 3) (b := nn) hc60 (by omega))).2.2.2 ?_
        refine XS.iload X50.here hx rfl (b at_154) rfl ?_
        refine XS.bipush X50.here hx rfl (b at_156) ?_
        exact k)
      by_cases hc61 : c16 = (32 : Int32)
      · skip
        exact ⟨T50, _, X50, N50, e50, fun t k => pre62 t (by
          refine XS.icmpYes X50.here hx rfl (pc0 := 158) (pc' := 169) rfl (b at_158) rfl (teq hc61).1 (by decide) (by decide) ?_
          refine XS.iconst X50.here hx rfl (b at_169) ?_
          refine XS.goto X50.here hx rfl (pc0 := 170) (pc' := 174) rfl (b at_170) (by decide) (by decide) ?_
          rw [show own_B fw3 = (1 : Int32) by rw [hfw3, decide_eq_true hc60, own_spt hc61]; rfl] at k
          exact k)⟩
      · have pre63 : Pr p e below s₁ E0 T50 (mkF m 163 #[vi i0, vi i1, vi i2, vi i3, vi i4, vi i5, vi (Int32.ofNat nn), vi c4, vi c8, vi c12, vi c16, vi c20, vr u24, vr u28, vB fw0, vB fw1, vB fw2, vu, vu, vu, vu, vu, vu, vu, vu, vu, vu, vu, vu, vu, vu, vu, vu, vu, vu, vu, vu, vu, vu, vu, vu] [(.int c16)]) := fun t k => pre62 t (by
          refine XS.icmpNo X50.here hx rfl (b at_158) rfl (feq hc61).1 ?_
          refine XS.iload X50.here hx rfl (b at_161) rfl ?_
          exact k)
        obtain ⟨_, T64, L64, X64, hQ64, st64⟩ := own_cS X50 hx hml hZ hown (rm_br l Z a0 hw c16 T28.heap n0 Z28) (w 77 rfl) (w 78 rfl) (w 3 rfl) (w 79 rfl) e50 (g := (mkF m 163 #[vi i0, vi i1, vi i2, vi i3, vi i4, vi i5, vi (Int32.ofNat nn), vi c4, vi c8, vi c12, vi c16, vi c20, vr u24, vr u28, vB fw0, vB fw1, vB fw2, vu, vu, vu, vu, vu, vu, vu, vu, vu, vu, vu, vu, vu, vu, vu, vu, vu, vu, vu, vu, vu, vu, vu, vu] [(.int c16)])) (argsL := [(.int c16)]) (rest := []) (W := 0) (lenOf own_pd30 rfl) (b at_163)
        obtain ⟨rfl, Nq64, e64⟩ := hQ64
        have N64 := Fr.app N50 Nq64
        have pre66 : Pr p e below s₁ E0 T64 (mkF m 166 #[vi i0, vi i1, vi i2, vi i3, vi i4, vi i5, vi (Int32.ofNat nn), vi c4, vi c8, vi c12, vi c16, vi c20, vr u24, vr u28, vB fw0, vB fw1, vB fw2, vu, vu, vu, vu, vu, vu, vu, vu, vu, vu, vu, vu, vu, vu, vu, vu, vu, vu, vu, vu, vu, vu, vu, vu] [(.int (fn_br c16))]) := fun t k => pre63 t (by
          refine st64 _ ?_
          exact k)
        by_cases hc65 : (fn_br c16) = (0 : Int32)
        · skip
          exact ⟨T64, _, X64, N64, e64, fun t k => pre66 t (by
            refine XS.ifYes X64.here hx rfl (pc0 := 166) (pc' := 173) rfl (b at_166) rfl ((if0 _ _).trans (teq hc65).1) (by decide) (by decide) ?_
            refine XS.iconst X64.here hx rfl (b at_173) ?_
            rw [show own_B fw3 = (0 : Int32) by rw [hfw3, decide_eq_true hc60, own_spf hc61, own_bf hc65]; rfl] at k
            exact k)⟩
        · skip
          exact ⟨T64, _, X64, N64, e64, fun t k => pre66 t (by
            refine XS.ifNo X64.here hx rfl (b at_166) rfl ((if0 _ _).trans (feq hc65).1) ?_
            refine XS.iconst X64.here hx rfl (b at_169) ?_
            refine XS.goto X64.here hx rfl (pc0 := 170) (pc' := 174) rfl (b at_170) (by decide) (by decide) ?_
            rw [show own_B fw3 = (1 : Int32) by rw [hfw3, decide_eq_true hc60, own_spf hc61, own_bt hc65]; rfl] at k
            exact k)⟩
    · skip
      exact ⟨T50, _, X50, N50, e50, fun t k => pre58 t (by
        refine XS.icmpYes X50.here hx rfl (pc0 := 151) (pc' := 173) rfl (b at_151) rfl (flt (own_ltF (a := 3) (b := nn) hc60 (by omega))).2.2.2 (by decide) (by decide) ?_
        refine XS.iconst X50.here hx rfl (b at_173) ?_
        rw [show own_B fw3 = (0 : Int32) by rw [hfw3, decide_eq_false hc60]; rfl] at k
        exact k)⟩
  have pre67 : Pr p e below s₁ E0 T59 (mkF m 179 #[vi i0, vi i1, vi i2, vi i3, vi i4, vi i5, vi (Int32.ofNat nn), vi c4, vi c8, vi c12, vi c16, vi c20, vr u24, vr u28, vB fw0, vB fw1, vB fw2, vB fw3, vu, vu, vu, vu, vu, vu, vu, vu, vu, vu, vu, vu, vu, vu, vu, vu, vu, vu, vu, vu, vu, vu, vu] [(.int (4 : Int32)), (.int (Int32.ofNat nn))]) := fun t k => pre59 t (by
    refine XS.istore X59.here hx rfl (b at_174) rfl (l' := #[vi i0, vi i1, vi i2, vi i3, vi i4, vi i5, vi (Int32.ofNat nn), vi c4, vi c8, vi c12, vi c16, vi c20, vr u24, vr u28, vB fw0, vB fw1, vB fw2, vB fw3, vu, vu, vu, vu, vu, vu, vu, vu, vu, vu, vu, vu, vu, vu, vu, vu, vu, vu, vu, vu, vu, vu, vu]) rfl ?_
    refine XS.iload X59.here hx rfl (b at_176) rfl ?_
    refine XS.iconst X59.here hx rfl (b at_178) ?_
    exact k)
  obtain ⟨fw4, hfw4⟩ : ∃ z : Bool, z = (decide (4 < nn) && (own_sp c20 || own_br c20)) := ⟨_, rfl⟩
  obtain ⟨T68, LL68, X68, N68, e68, pre68⟩ : ∃ (T : State) (LL : List Loc), Stand p l e room_1 (s.setVm T24.vm) m #[(.int i0), (.int i1), (.int i2), (.int i3), (.int i4), (.int i5)] below meth c T LL (22) (162) ∧ Fr n0 LL ∧ T.heap = T28.heap ∧ Pr p e below s₁ E0 T (mkF m 202 #[vi i0, vi i1, vi i2, vi i3, vi i4, vi i5, vi (Int32.ofNat nn), vi c4, vi c8, vi c12, vi c16, vi c20, vr u24, vr u28, vB fw0, vB fw1, vB fw2, vB fw3, vu, vu, vu, vu, vu, vu, vu, vu, vu, vu, vu, vu, vu, vu, vu, vu, vu, vu, vu, vu, vu, vu, vu] [(.int (own_B fw4))]) := by
    by_cases hc69 : 4 < nn
    · have pre71 : Pr p e below s₁ E0 T59 (mkF m 186 #[vi i0, vi i1, vi i2, vi i3, vi i4, vi i5, vi (Int32.ofNat nn), vi c4, vi c8, vi c12, vi c16, vi c20, vr u24, vr u28, vB fw0, vB fw1, vB fw2, vB fw3, vu, vu, vu, vu, vu, vu, vu, vu, vu, vu, vu, vu, vu, vu, vu, vu, vu, vu, vu, vu, vu, vu, vu] [(.int (32 : Int32)), (.int c20)]) := fun t k => pre67 t (by
        refine XS.icmpNo X59.here hx rfl (b at_179) rfl (tlt (own_ltT (a := 4) (b := nn) hc69 (by omega))).2.2.2 ?_
        refine XS.iload X59.here hx rfl (b at_182) rfl ?_
        refine XS.bipush X59.here hx rfl (b at_184) ?_
        exact k)
      by_cases hc70 : c20 = (32 : Int32)
      · skip
        exact ⟨T59, _, X59, N59, e59, fun t k => pre71 t (by
          refine XS.icmpYes X59.here hx rfl (pc0 := 186) (pc' := 197) rfl (b at_186) rfl (teq hc70).1 (by decide) (by decide) ?_
          refine XS.iconst X59.here hx rfl (b at_197) ?_
          refine XS.goto X59.here hx rfl (pc0 := 198) (pc' := 202) rfl (b at_198) (by decide) (by decide) ?_
          rw [show own_B fw4 = (1 : Int32) by rw [hfw4, decide_eq_true hc69, own_spt hc70]; rfl] at k
          exact k)⟩
      · have pre72 : Pr p e below s₁ E0 T59 (mkF m 191 #[vi i0, vi i1, vi i2, vi i3, vi i4, vi i5, vi (Int32.ofNat nn), vi c4, vi c8, vi c12, vi c16, vi c20, vr u24, vr u28, vB fw0, vB fw1, vB fw2, vB fw3, vu, vu, vu, vu, vu, vu, vu, vu, vu, vu, vu, vu, vu, vu, vu, vu, vu, vu, vu, vu, vu, vu, vu] [(.int c20)]) := fun t k => pre71 t (by
          refine XS.icmpNo X59.here hx rfl (b at_186) rfl (feq hc70).1 ?_
          refine XS.iload X59.here hx rfl (b at_189) rfl ?_
          exact k)
        obtain ⟨_, T73, L73, X73, hQ73, st73⟩ := own_cS X59 hx hml hZ hown (rm_br l Z a0 hw c20 T28.heap n0 Z28) (w 77 rfl) (w 78 rfl) (w 3 rfl) (w 79 rfl) e59 (g := (mkF m 191 #[vi i0, vi i1, vi i2, vi i3, vi i4, vi i5, vi (Int32.ofNat nn), vi c4, vi c8, vi c12, vi c16, vi c20, vr u24, vr u28, vB fw0, vB fw1, vB fw2, vB fw3, vu, vu, vu, vu, vu, vu, vu, vu, vu, vu, vu, vu, vu, vu, vu, vu, vu, vu, vu, vu, vu, vu, vu] [(.int c20)])) (argsL := [(.int c20)]) (rest := []) (W := 0) (lenOf own_pd30 rfl) (b at_191)
        obtain ⟨rfl, Nq73, e73⟩ := hQ73
        have N73 := Fr.app N59 Nq73
        have pre75 : Pr p e below s₁ E0 T73 (mkF m 194 #[vi i0, vi i1, vi i2, vi i3, vi i4, vi i5, vi (Int32.ofNat nn), vi c4, vi c8, vi c12, vi c16, vi c20, vr u24, vr u28, vB fw0, vB fw1, vB fw2, vB fw3, vu, vu, vu, vu, vu, vu, vu, vu, vu, vu, vu, vu, vu, vu, vu, vu, vu, vu, vu, vu, vu, vu, vu] [(.int (fn_br c20))]) := fun t k => pre72 t (by
          refine st73 _ ?_
          exact k)
        by_cases hc74 : (fn_br c20) = (0 : Int32)
        · skip
          exact ⟨T73, _, X73, N73, e73, fun t k => pre75 t (by
            refine XS.ifYes X73.here hx rfl (pc0 := 194) (pc' := 201) rfl (b at_194) rfl ((if0 _ _).trans (teq hc74).1) (by decide) (by decide) ?_
            refine XS.iconst X73.here hx rfl (b at_201) ?_
            rw [show own_B fw4 = (0 : Int32) by rw [hfw4, decide_eq_true hc69, own_spf hc70, own_bf hc74]; rfl] at k
            exact k)⟩
        · skip
          exact ⟨T73, _, X73, N73, e73, fun t k => pre75 t (by
            refine XS.ifNo X73.here hx rfl (b at_194) rfl ((if0 _ _).trans (feq hc74).1) ?_
            refine XS.iconst X73.here hx rfl (b at_197) ?_
            refine XS.goto X73.here hx rfl (pc0 := 198) (pc' := 202) rfl (b at_198) (by decide) (by decide) ?_
            rw [show own_B fw4 = (1 : Int32) by rw [hfw4, decide_eq_true hc69, own_spf hc70, own_bt hc74]; rfl] at k
            exact k)⟩
    · skip
      exact ⟨T59, _, X59, N59, e59, fun t k => pre67 t (by
        refine XS.icmpYes X59.here hx rfl (pc0 := 179) (pc' := 201) rfl (b at_179) rfl (flt (own_ltF (a := 4) (b := nn) hc69 (by omega))).2.2.2 (by decide) (by decide) ?_
        refine XS.iconst X59.here hx rfl (b at_201) ?_
        rw [show own_B fw4 = (0 : Int32) by rw [hfw4, decide_eq_false hc69]; rfl] at k
        exact k)⟩
  have pre76 : Pr p e below s₁ E0 T68 (mkF m 206 #[vi i0, vi i1, vi i2, vi i3, vi i4, vi i5, vi (Int32.ofNat nn), vi c4, vi c8, vi c12, vi c16, vi c20, vr u24, vr u28, vB fw0, vB fw1, vB fw2, vB fw3, vB fw4, vu, vu, vu, vu, vu, vu, vu, vu, vu, vu, vu, vu, vu, vu, vu, vu, vu, vu, vu, vu, vu, vu] [(.int (Int32.ofNat nn))]) := fun t k => pre68 t (by
    refine XS.istore X68.here hx rfl (b at_202) rfl (l' := #[vi i0, vi i1, vi i2, vi i3, vi i4, vi i5, vi (Int32.ofNat nn), vi c4, vi c8, vi c12, vi c16, vi c20, vr u24, vr u28, vB fw0, vB fw1, vB fw2, vB fw3, vB fw4, vu, vu, vu, vu, vu, vu, vu, vu, vu, vu, vu, vu, vu, vu, vu, vu, vu, vu, vu, vu, vu, vu]) rfl ?_
    refine XS.iload X68.here hx rfl (b at_204) rfl ?_
    exact k)
  obtain ⟨fb0, hfb0⟩ : ∃ z : Bool, z = (decide (0 < nn) && own_br c4) := ⟨_, rfl⟩
  obtain ⟨T77, LL77, X77, N77, e77, pre77⟩ : ∃ (T : State) (LL : List Loc), Stand p l e room_1 (s.setVm T24.vm) m #[(.int i0), (.int i1), (.int i2), (.int i3), (.int i4), (.int i5)] below meth c T LL (22) (162) ∧ Fr n0 LL ∧ T.heap = T28.heap ∧ Pr p e below s₁ E0 T (mkF m 222 #[vi i0, vi i1, vi i2, vi i3, vi i4, vi i5, vi (Int32.ofNat nn), vi c4, vi c8, vi c12, vi c16, vi c20, vr u24, vr u28, vB fw0, vB fw1, vB fw2, vB fw3, vB fw4, vu, vu, vu, vu, vu, vu, vu, vu, vu, vu, vu, vu, vu, vu, vu, vu, vu, vu, vu, vu, vu, vu] [(.int (own_B fb0))]) := by
    by_cases hc78 : 0 < nn
    · have pre79 : Pr p e below s₁ E0 T68 (mkF m 211 #[vi i0, vi i1, vi i2, vi i3, vi i4, vi i5, vi (Int32.ofNat nn), vi c4, vi c8, vi c12, vi c16, vi c20, vr u24, vr u28, vB fw0, vB fw1, vB fw2, vB fw3, vB fw4, vu, vu, vu, vu, vu, vu, vu, vu, vu, vu, vu, vu, vu, vu, vu, vu, vu, vu, vu, vu, vu, vu] [(.int c4)]) := fun t k => pre76 t (by
        refine XS.ifNo X68.here hx rfl (b at_206) rfl ((if0 _ _).trans (tlt (own_ltT (a := 0) (b := nn) hc78 (by omega))).2.2.2) ?_
        refine XS.iload X68.here hx rfl (b at_209) rfl ?_
        exact k)
      obtain ⟨_, T80, L80, X80, hQ80, st80⟩ := own_cS X68 hx hml hZ hown (rm_br l Z a0 hw c4 T28.heap n0 Z28) (w 77 rfl) (w 78 rfl) (w 3 rfl) (w 79 rfl) e68 (g := (mkF m 211 #[vi i0, vi i1, vi i2, vi i3, vi i4, vi i5, vi (Int32.ofNat nn), vi c4, vi c8, vi c12, vi c16, vi c20, vr u24, vr u28, vB fw0, vB fw1, vB fw2, vB fw3, vB fw4, vu, vu, vu, vu, vu, vu, vu, vu, vu, vu, vu, vu, vu, vu, vu, vu, vu, vu, vu, vu, vu, vu] [(.int c4)])) (argsL := [(.int c4)]) (rest := []) (W := 0) (lenOf own_pd30 rfl) (b at_211)
      obtain ⟨rfl, Nq80, e80⟩ := hQ80
      have N80 := Fr.app N68 Nq80
      have pre82 : Pr p e below s₁ E0 T80 (mkF m 214 #[vi i0, vi i1, vi i2, vi i3, vi i4, vi i5, vi (Int32.ofNat nn), vi c4, vi c8, vi c12, vi c16, vi c20, vr u24, vr u28, vB fw0, vB fw1, vB fw2, vB fw3, vB fw4, vu, vu, vu, vu, vu, vu, vu, vu, vu, vu, vu, vu, vu, vu, vu, vu, vu, vu, vu, vu, vu, vu] [(.int (fn_br c4))]) := fun t k => pre79 t (by
        refine st80 _ ?_
        exact k)
      by_cases hc81 : (fn_br c4) = (0 : Int32)
      · skip
        exact ⟨T80, _, X80, N80, e80, fun t k => pre82 t (by
          refine XS.ifYes X80.here hx rfl (pc0 := 214) (pc' := 221) rfl (b at_214) rfl ((if0 _ _).trans (teq hc81).1) (by decide) (by decide) ?_
          refine XS.iconst X80.here hx rfl (b at_221) ?_
          rw [show own_B fb0 = (0 : Int32) by rw [hfb0, decide_eq_true hc78, own_bf hc81]; rfl] at k
          exact k)⟩
      · skip
        exact ⟨T80, _, X80, N80, e80, fun t k => pre82 t (by
          refine XS.ifNo X80.here hx rfl (b at_214) rfl ((if0 _ _).trans (feq hc81).1) ?_
          refine XS.iconst X80.here hx rfl (b at_217) ?_
          refine XS.goto X80.here hx rfl (pc0 := 218) (pc' := 222) rfl (b at_218) (by decide) (by decide) ?_
          rw [show own_B fb0 = (1 : Int32) by rw [hfb0, decide_eq_true hc78, own_bt hc81]; rfl] at k
          exact k)⟩
    · skip
      exact ⟨T68, _, X68, N68, e68, fun t k => pre76 t (by
        refine XS.ifYes X68.here hx rfl (pc0 := 206) (pc' := 221) rfl (b at_206) rfl ((if0 _ _).trans (flt (own_ltF (a := 0) (b := nn) hc78 (by omega))).2.2.2) (by decide) (by decide) ?_
        refine XS.iconst X68.here hx rfl (b at_221) ?_
        rw [show own_B fb0 = (0 : Int32) by rw [hfb0, decide_eq_false hc78]; rfl] at k
        exact k)⟩
  have pre83 : Pr p e below s₁ E0 T77 (mkF m 227 #[vi i0, vi i1, vi i2, vi i3, vi i4, vi i5, vi (Int32.ofNat nn), vi c4, vi c8, vi c12, vi c16, vi c20, vr u24, vr u28, vB fw0, vB fw1, vB fw2, vB fw3, vB fw4, vB fb0, vu, vu, vu, vu, vu, vu, vu, vu, vu, vu, vu, vu, vu, vu, vu, vu, vu, vu, vu, vu, vu] [(.int (1 : Int32)), (.int (Int32.ofNat nn))]) := fun t k => pre77 t (by
    refine XS.istore X77.here hx rfl (b at_222) rfl (l' := #[vi i0, vi i1, vi i2, vi i3, vi i4, vi i5, vi (Int32.ofNat nn), vi c4, vi c8, vi c12, vi c16, vi c20, vr u24, vr u28, vB fw0, vB fw1, vB fw2, vB fw3, vB fw4, vB fb0, vu, vu, vu, vu, vu, vu, vu, vu, vu, vu, vu, vu, vu, vu, vu, vu, vu, vu, vu, vu, vu]) rfl ?_
    refine XS.iload X77.here hx rfl (b at_224) rfl ?_
    refine XS.iconst X77.here hx rfl (b at_226) ?_
    exact k)
  obtain ⟨fb1, hfb1⟩ : ∃ z : Bool, z = (decide (1 < nn) && own_br c8) := ⟨_, rfl⟩
  obtain ⟨T84, LL84, X84, N84, e84, pre84⟩ : ∃ (T : State) (LL : List Loc), Stand p l e room_1 (s.setVm T24.vm) m #[(.int i0), (.int i1), (.int i2), (.int i3), (.int i4), (.int i5)] below meth c T LL (22) (162) ∧ Fr n0 LL ∧ T.heap = T28.heap ∧ Pr p e below s₁ E0 T (mkF m 243 #[vi i0, vi i1, vi i2, vi i3, vi i4, vi i5, vi (Int32.ofNat nn), vi c4, vi c8, vi c12, vi c16, vi c20, vr u24, vr u28, vB fw0, vB fw1, vB fw2, vB fw3, vB fw4, vB fb0, vu, vu, vu, vu, vu, vu, vu, vu, vu, vu, vu, vu, vu, vu, vu, vu, vu, vu, vu, vu, vu] [(.int (own_B fb1))]) := by
    by_cases hc85 : 1 < nn
    · have pre86 : Pr p e below s₁ E0 T77 (mkF m 232 #[vi i0, vi i1, vi i2, vi i3, vi i4, vi i5, vi (Int32.ofNat nn), vi c4, vi c8, vi c12, vi c16, vi c20, vr u24, vr u28, vB fw0, vB fw1, vB fw2, vB fw3, vB fw4, vB fb0, vu, vu, vu, vu, vu, vu, vu, vu, vu, vu, vu, vu, vu, vu, vu, vu, vu, vu, vu, vu, vu] [(.int c8)]) := fun t k => pre83 t (by
        refine XS.icmpNo X77.here hx rfl (b at_227) rfl (tlt (own_ltT (a := 1) (b := nn) hc85 (by omega))).2.2.2 ?_
        refine XS.iload X77.here hx rfl (b at_230) rfl ?_
        exact k)
      obtain ⟨_, T87, L87, X87, hQ87, st87⟩ := own_cS X77 hx hml hZ hown (rm_br l Z a0 hw c8 T28.heap n0 Z28) (w 77 rfl) (w 78 rfl) (w 3 rfl) (w 79 rfl) e77 (g := (mkF m 232 #[vi i0, vi i1, vi i2, vi i3, vi i4, vi i5, vi (Int32.ofNat nn), vi c4, vi c8, vi c12, vi c16, vi c20, vr u24, vr u28, vB fw0, vB fw1, vB fw2, vB fw3, vB fw4, vB fb0, vu, vu, vu, vu, vu, vu, vu, vu, vu, vu, vu, vu, vu, vu, vu, vu, vu, vu, vu, vu, vu] [(.int c8)])) (argsL := [(.int c8)]) (rest := []) (W := 0) (lenOf own_pd30 rfl) (b at_232)
      obtain ⟨rfl, Nq87, e87⟩ := hQ87
      have N87 := Fr.app N77 Nq87
      have pre89 : Pr p e below s₁ E0 T87 (mkF m 235 #[vi i0, vi i1, vi i2, vi i3, vi i4, vi i5, vi (Int32.ofNat nn), vi c4, vi c8, vi c12, vi c16, vi c20, vr u24, vr u28, vB fw0, vB fw1, vB fw2, vB fw3, vB fw4, vB fb0, vu, vu, vu, vu, vu, vu, vu, vu, vu, vu, vu, vu, vu, vu, vu, vu, vu, vu, vu, vu, vu] [(.int (fn_br c8))]) := fun t k => pre86 t (by
        refine st87 _ ?_
        exact k)
      by_cases hc88 : (fn_br c8) = (0 : Int32)
      · skip
        exact ⟨T87, _, X87, N87, e87, fun t k => pre89 t (by
          refine XS.ifYes X87.here hx rfl (pc0 := 235) (pc' := 242) rfl (b at_235) rfl ((if0 _ _).trans (teq hc88).1) (by decide) (by decide) ?_
          refine XS.iconst X87.here hx rfl (b at_242) ?_
          rw [show own_B fb1 = (0 : Int32) by rw [hfb1, decide_eq_true hc85, own_bf hc88]; rfl] at k
          exact k)⟩
      · skip
        exact ⟨T87, _, X87, N87, e87, fun t k => pre89 t (by
          refine XS.ifNo X87.here hx rfl (b at_235) rfl ((if0 _ _).trans (feq hc88).1) ?_
          refine XS.iconst X87.here hx rfl (b at_238) ?_
          refine XS.goto X87.here hx rfl (pc0 := 239) (pc' := 243) rfl (b at_239) (by decide) (by decide) ?_
          rw [show own_B fb1 = (1 : Int32) by rw [hfb1, decide_eq_true hc85, own_bt hc88]; rfl] at k
          exact k)⟩
    · skip
      exact ⟨T77, _, X77, N77, e77, fun t k => pre83 t (by
        refine XS.icmpYes X77.here hx rfl (pc0 := 227) (pc' := 242) rfl (b at_227) rfl (flt (own_ltF (a := 1) (b := nn) hc85 (by omega))).2.2.2 (by decide) (by decide) ?_
        refine XS.iconst X77.here hx rfl (b at_242) ?_
        rw [show own_B fb1 = (0 : Int32) by rw [hfb1, decide_eq_false hc85]; rfl] at k
        exact k)⟩
  have pre90 : Pr p e below s₁ E0 T84 (mkF m 248 #[vi i0, vi i1, vi i2, vi i3, vi i4, vi i5, vi (Int32.ofNat nn), vi c4, vi c8, vi c12, vi c16, vi c20, vr u24, vr u28, vB fw0, vB fw1, vB fw2, vB fw3, vB fw4, vB fb0, vB fb1, vu, vu, vu, vu, vu, vu, vu, vu, vu, vu, vu, vu, vu, vu, vu, vu, vu, vu, vu, vu] [(.int (2 : Int32)), (.int (Int32.ofNat nn))]) := fun t k => pre84 t (by
    refine XS.istore X84.here hx rfl (b at_243) rfl (l' := #[vi i0, vi i1, vi i2, vi i3, vi i4, vi i5, vi (Int32.ofNat nn), vi c4, vi c8, vi c12, vi c16, vi c20, vr u24, vr u28, vB fw0, vB fw1, vB fw2, vB fw3, vB fw4, vB fb0, vB fb1, vu, vu, vu, vu, vu, vu, vu, vu, vu, vu, vu, vu, vu, vu, vu, vu, vu, vu, vu, vu]) rfl ?_
    refine XS.iload X84.here hx rfl (b at_245) rfl ?_
    refine XS.iconst X84.here hx rfl (b at_247) ?_
    exact k)
  obtain ⟨fb2, hfb2⟩ : ∃ z : Bool, z = (decide (2 < nn) && own_br c12) := ⟨_, rfl⟩
  obtain ⟨T91, LL91, X91, N91, e91, pre91⟩ : ∃ (T : State) (LL : List Loc), Stand p l e room_1 (s.setVm T24.vm) m #[(.int i0), (.int i1), (.int i2), (.int i3), (.int i4), (.int i5)] below meth c T LL (22) (162) ∧ Fr n0 LL ∧ T.heap = T28.heap ∧ Pr p e below s₁ E0 T (mkF m 264 #[vi i0, vi i1, vi i2, vi i3, vi i4, vi i5, vi (Int32.ofNat nn), vi c4, vi c8, vi c12, vi c16, vi c20, vr u24, vr u28, vB fw0, vB fw1, vB fw2, vB fw3, vB fw4, vB fb0, vB fb1, vu, vu, vu, vu, vu, vu, vu, vu, vu, vu, vu, vu, vu, vu, vu, vu, vu, vu, vu, vu] [(.int (own_B fb2))]) := by
    by_cases hc92 : 2 < nn
    · have pre93 : Pr p e below s₁ E0 T84 (mkF m 253 #[vi i0, vi i1, vi i2, vi i3, vi i4, vi i5, vi (Int32.ofNat nn), vi c4, vi c8, vi c12, vi c16, vi c20, vr u24, vr u28, vB fw0, vB fw1, vB fw2, vB fw3, vB fw4, vB fb0, vB fb1, vu, vu, vu, vu, vu, vu, vu, vu, vu, vu, vu, vu, vu, vu, vu, vu, vu, vu, vu, vu] [(.int c12)]) := fun t k => pre90 t (by
        refine XS.icmpNo X84.here hx rfl (b at_248) rfl (tlt (own_ltT (a := 2) (b := nn) hc92 (by omega))).2.2.2 ?_
        refine XS.iload X84.here hx rfl (b at_251) rfl ?_
        exact k)
      obtain ⟨_, T94, L94, X94, hQ94, st94⟩ := own_cS X84 hx hml hZ hown (rm_br l Z a0 hw c12 T28.heap n0 Z28) (w 77 rfl) (w 78 rfl) (w 3 rfl) (w 79 rfl) e84 (g := (mkF m 253 #[vi i0, vi i1, vi i2, vi i3, vi i4, vi i5, vi (Int32.ofNat nn), vi c4, vi c8, vi c12, vi c16, vi c20, vr u24, vr u28, vB fw0, vB fw1, vB fw2, vB fw3, vB fw4, vB fb0, vB fb1, vu, vu, vu, vu, vu, vu, vu, vu, vu, vu, vu, vu, vu, vu, vu, vu, vu, vu, vu, vu] [(.int c12)])) (argsL := [(.int c12)]) (rest := []) (W := 0) (lenOf own_pd30 rfl) (b at_253)
      obtain ⟨rfl, Nq94, e94⟩ := hQ94
      have N94 := Fr.app N84 Nq94
      have pre96 : Pr p e below s₁ E0 T94 (mkF m 256 #[vi i0, vi i1, vi i2, vi i3, vi i4, vi i5, vi (Int32.ofNat nn), vi c4, vi c8, vi c12, vi c16, vi c20, vr u24, vr u28, vB fw0, vB fw1, vB fw2, vB fw3, vB fw4, vB fb0, vB fb1, vu, vu, vu, vu, vu, vu, vu, vu, vu, vu, vu, vu, vu, vu, vu, vu, vu, vu, vu, vu] [(.int (fn_br c12))]) := fun t k => pre93 t (by
        refine st94 _ ?_
        exact k)
      by_cases hc95 : (fn_br c12) = (0 : Int32)
      · skip
        exact ⟨T94, _, X94, N94, e94, fun t k => pre96 t (by
          refine XS.ifYes X94.here hx rfl (pc0 := 256) (pc' := 263) rfl (b at_256) rfl ((if0 _ _).trans (teq hc95).1) (by decide) (by decide) ?_
          refine XS.iconst X94.here hx rfl (b at_263) ?_
          rw [show own_B fb2 = (0 : Int32) by rw [hfb2, decide_eq_true hc92, own_bf hc95]; rfl] at k
          exact k)⟩
      · skip
        exact ⟨T94, _, X94, N94, e94, fun t k => pre96 t (by
          refine XS.ifNo X94.here hx rfl (b at_256) rfl ((if0 _ _).trans (feq hc95).1) ?_
          refine XS.iconst X94.here hx rfl (b at_259) ?_
          refine XS.goto X94.here hx rfl (pc0 := 260) (pc' := 264) rfl (b at_260) (by decide) (by decide) ?_
          rw [show own_B fb2 = (1 : Int32) by rw [hfb2, decide_eq_true hc92, own_bt hc95]; rfl] at k
          exact k)⟩
    · skip
      exact ⟨T84, _, X84, N84, e84, fun t k => pre90 t (by
        refine XS.icmpYes X84.here hx rfl (pc0 := 248) (pc' := 263) rfl (b at_248) rfl (flt (own_ltF (a := 2) (b := nn) hc92 (by omega))).2.2.2 (by decide) (by decide) ?_
        refine XS.iconst X84.here hx rfl (b at_263) ?_
        rw [show own_B fb2 = (0 : Int32) by rw [hfb2, decide_eq_false hc92]; rfl] at k
        exact k)⟩
  have pre97 : Pr p e below s₁ E0 T91 (mkF m 269 #[vi i0, vi i1, vi i2, vi i3, vi i4, vi i5, vi (Int32.ofNat nn), vi c4, vi c8, vi c12, vi c16, vi c20, vr u24, vr u28, vB fw0, vB fw1, vB fw2, vB fw3, vB fw4, vB fb0, vB fb1, vB fb2, vu, vu, vu, vu, vu, vu, vu, vu, vu, vu, vu, vu, vu, vu, vu, vu, vu, vu, vu] [(.int (3 : Int32)), (.int (Int32.ofNat nn))]) := fun t k => pre91 t (by
    refine XS.istore X91.here hx rfl (b at_264) rfl (l' := #[vi i0, vi i1, vi i2, vi i3, vi i4, vi i5, vi (Int32.ofNat nn), vi c4, vi c8, vi c12, vi c16, vi c20, vr u24, vr u28, vB fw0, vB fw1, vB fw2, vB fw3, vB fw4, vB fb0, vB fb1, vB fb2, vu, vu, vu, vu, vu, vu, vu, vu, vu, vu, vu, vu, vu, vu, vu, vu, vu, vu, vu]) rfl ?_
    refine XS.iload X91.here hx rfl (b at_266) rfl ?_
    refine XS.iconst X91.here hx rfl (b at_268) ?_
    exact k)
  obtain ⟨fb3, hfb3⟩ : ∃ z : Bool, z = (decide (3 < nn) && own_br c16) := ⟨_, rfl⟩
  obtain ⟨T98, LL98, X98, N98, e98, pre98⟩ : ∃ (T : State) (LL : List Loc), Stand p l e room_1 (s.setVm T24.vm) m #[(.int i0), (.int i1), (.int i2), (.int i3), (.int i4), (.int i5)] below meth c T LL (22) (162) ∧ Fr n0 LL ∧ T.heap = T28.heap ∧ Pr p e below s₁ E0 T (mkF m 285 #[vi i0, vi i1, vi i2, vi i3, vi i4, vi i5, vi (Int32.ofNat nn), vi c4, vi c8, vi c12, vi c16, vi c20, vr u24, vr u28, vB fw0, vB fw1, vB fw2, vB fw3, vB fw4, vB fb0, vB fb1, vB fb2, vu, vu, vu, vu, vu, vu, vu, vu, vu, vu, vu, vu, vu, vu, vu, vu, vu, vu, vu] [(.int (own_B fb3))]) := by
    by_cases hc99 : 3 < nn
    · have pre100 : Pr p e below s₁ E0 T91 (mkF m 274 #[vi i0, vi i1, vi i2, vi i3, vi i4, vi i5, vi (Int32.ofNat nn), vi c4, vi c8, vi c12, vi c16, vi c20, vr u24, vr u28, vB fw0, vB fw1, vB fw2, vB fw3, vB fw4, vB fb0, vB fb1, vB fb2, vu, vu, vu, vu, vu, vu, vu, vu, vu, vu, vu, vu, vu, vu, vu, vu, vu, vu, vu] [(.int c16)]) := fun t k => pre97 t (by
        refine XS.icmpNo X91.here hx rfl (b at_269) rfl (tlt (own_ltT (a := 3) (b := nn) hc99 (by omega))).2.2.2 ?_
        refine XS.iload X91.here hx rfl (b at_272) rfl ?_
        exact k)
      obtain ⟨_, T101, L101, X101, hQ101, st101⟩ := own_cS X91 hx hml hZ hown (rm_br l Z a0 hw c16 T28.heap n0 Z28) (w 77 rfl) (w 78 rfl) (w 3 rfl) (w 79 rfl) e91 (g := (mkF m 274 #[vi i0, vi i1, vi i2, vi i3, vi i4, vi i5, vi (Int32.ofNat nn), vi c4, vi c8, vi c12, vi c16, vi c20, vr u24, vr u28, vB fw0, vB fw1, vB fw2, vB fw3, vB fw4, vB fb0, vB fb1, vB fb2, vu, vu, vu, vu, vu, vu, vu, vu, vu, vu, vu, vu, vu, vu, vu, vu, vu, vu, vu] [(.int c16)])) (argsL := [(.int c16)]) (rest := []) (W := 0) (lenOf own_pd30 rfl) (b at_274)
      obtain ⟨rfl, Nq101, e101⟩ := hQ101
      have N101 := Fr.app N91 Nq101
      have pre103 : Pr p e below s₁ E0 T101 (mkF m 277 #[vi i0, vi i1, vi i2, vi i3, vi i4, vi i5, vi (Int32.ofNat nn), vi c4, vi c8, vi c12, vi c16, vi c20, vr u24, vr u28, vB fw0, vB fw1, vB fw2, vB fw3, vB fw4, vB fb0, vB fb1, vB fb2, vu, vu, vu, vu, vu, vu, vu, vu, vu, vu, vu, vu, vu, vu, vu, vu, vu, vu, vu] [(.int (fn_br c16))]) := fun t k => pre100 t (by
        refine st101 _ ?_
        exact k)
      by_cases hc102 : (fn_br c16) = (0 : Int32)
      · skip
        exact ⟨T101, _, X101, N101, e101, fun t k => pre103 t (by
          refine XS.ifYes X101.here hx rfl (pc0 := 277) (pc' := 284) rfl (b at_277) rfl ((if0 _ _).trans (teq hc102).1) (by decide) (by decide) ?_
          refine XS.iconst X101.here hx rfl (b at_284) ?_
          rw [show own_B fb3 = (0 : Int32) by rw [hfb3, decide_eq_true hc99, own_bf hc102]; rfl] at k
          exact k)⟩
      · skip
        exact ⟨T101, _, X101, N101, e101, fun t k => pre103 t (by
          refine XS.ifNo X101.here hx rfl (b at_277) rfl ((if0 _ _).trans (feq hc102).1) ?_
          refine XS.iconst X101.here hx rfl (b at_280) ?_
          refine XS.goto X101.here hx rfl (pc0 := 281) (pc' := 285) rfl (b at_281) (by decide) (by decide) ?_
          rw [show own_B fb3 = (1 : Int32) by rw [hfb3, decide_eq_true hc99, own_bt hc102]; rfl] at k
          exact k)⟩
    · skip
      exact ⟨T91, _, X91, N91, e91, fun t k => pre97 t (by
        refine XS.icmpYes X91.here hx rfl (pc0 := 269) (pc' := 284) rfl (b at_269) rfl (flt (own_ltF (a := 3) (b := nn) hc99 (by omega))).2.2.2 (by decide) (by decide) ?_
        refine XS.iconst X91.here hx rfl (b at_284) ?_
        rw [show own_B fb3 = (0 : Int32) by rw [hfb3, decide_eq_false hc99]; rfl] at k
        exact k)⟩
  have pre104 : Pr p e below s₁ E0 T98 (mkF m 290 #[vi i0, vi i1, vi i2, vi i3, vi i4, vi i5, vi (Int32.ofNat nn), vi c4, vi c8, vi c12, vi c16, vi c20, vr u24, vr u28, vB fw0, vB fw1, vB fw2, vB fw3, vB fw4, vB fb0, vB fb1, vB fb2, vB fb3, vu, vu, vu, vu, vu, vu, vu, vu, vu, vu, vu, vu, vu, vu, vu, vu, vu, vu] [(.int (4 : Int32)), (.int (Int32.ofNat nn))]) := fun t k => pre98 t (by
    refine XS.istore X98.here hx rfl (b at_285) rfl (l' := #[vi i0, vi i1, vi i2, vi i3, vi i4, vi i5, vi (Int32.ofNat nn), vi c4, vi c8, vi c12, vi c16, vi c20, vr u24, vr u28, vB fw0, vB fw1, vB fw2, vB fw3, vB fw4, vB fb0, vB fb1, vB fb2, vB fb3, vu, vu, vu, vu, vu, vu, vu, vu, vu, vu, vu, vu, vu, vu, vu, vu, vu, vu]) rfl ?_
    refine XS.iload X98.here hx rfl (b at_287) rfl ?_
    refine XS.iconst X98.here hx rfl (b at_289) ?_
    exact k)
  obtain ⟨fb4, hfb4⟩ : ∃ z : Bool, z = (decide (4 < nn) && own_br c20) := ⟨_, rfl⟩
  obtain ⟨T105, LL105, X105, N105, e105, pre105⟩ : ∃ (T : State) (LL : List Loc), Stand p l e room_1 (s.setVm T24.vm) m #[(.int i0), (.int i1), (.int i2), (.int i3), (.int i4), (.int i5)] below meth c T LL (22) (162) ∧ Fr n0 LL ∧ T.heap = T28.heap ∧ Pr p e below s₁ E0 T (mkF m 306 #[vi i0, vi i1, vi i2, vi i3, vi i4, vi i5, vi (Int32.ofNat nn), vi c4, vi c8, vi c12, vi c16, vi c20, vr u24, vr u28, vB fw0, vB fw1, vB fw2, vB fw3, vB fw4, vB fb0, vB fb1, vB fb2, vB fb3, vu, vu, vu, vu, vu, vu, vu, vu, vu, vu, vu, vu, vu, vu, vu, vu, vu, vu] [(.int (own_B fb4))]) := by
    by_cases hc106 : 4 < nn
    · have pre107 : Pr p e below s₁ E0 T98 (mkF m 295 #[vi i0, vi i1, vi i2, vi i3, vi i4, vi i5, vi (Int32.ofNat nn), vi c4, vi c8, vi c12, vi c16, vi c20, vr u24, vr u28, vB fw0, vB fw1, vB fw2, vB fw3, vB fw4, vB fb0, vB fb1, vB fb2, vB fb3, vu, vu, vu, vu, vu, vu, vu, vu, vu, vu, vu, vu, vu, vu, vu, vu, vu, vu] [(.int c20)]) := fun t k => pre104 t (by
        refine XS.icmpNo X98.here hx rfl (b at_290) rfl (tlt (own_ltT (a := 4) (b := nn) hc106 (by omega))).2.2.2 ?_
        refine XS.iload X98.here hx rfl (b at_293) rfl ?_
        exact k)
      obtain ⟨_, T108, L108, X108, hQ108, st108⟩ := own_cS X98 hx hml hZ hown (rm_br l Z a0 hw c20 T28.heap n0 Z28) (w 77 rfl) (w 78 rfl) (w 3 rfl) (w 79 rfl) e98 (g := (mkF m 295 #[vi i0, vi i1, vi i2, vi i3, vi i4, vi i5, vi (Int32.ofNat nn), vi c4, vi c8, vi c12, vi c16, vi c20, vr u24, vr u28, vB fw0, vB fw1, vB fw2, vB fw3, vB fw4, vB fb0, vB fb1, vB fb2, vB fb3, vu, vu, vu, vu, vu, vu, vu, vu, vu, vu, vu, vu, vu, vu, vu, vu, vu, vu] [(.int c20)])) (argsL := [(.int c20)]) (rest := []) (W := 0) (lenOf own_pd30 rfl) (b at_295)
      obtain ⟨rfl, Nq108, e108⟩ := hQ108
      have N108 := Fr.app N98 Nq108
      have pre110 : Pr p e below s₁ E0 T108 (mkF m 298 #[vi i0, vi i1, vi i2, vi i3, vi i4, vi i5, vi (Int32.ofNat nn), vi c4, vi c8, vi c12, vi c16, vi c20, vr u24, vr u28, vB fw0, vB fw1, vB fw2, vB fw3, vB fw4, vB fb0, vB fb1, vB fb2, vB fb3, vu, vu, vu, vu, vu, vu, vu, vu, vu, vu, vu, vu, vu, vu, vu, vu, vu, vu] [(.int (fn_br c20))]) := fun t k => pre107 t (by
        refine st108 _ ?_
        exact k)
      by_cases hc109 : (fn_br c20) = (0 : Int32)
      · skip
        exact ⟨T108, _, X108, N108, e108, fun t k => pre110 t (by
          refine XS.ifYes X108.here hx rfl (pc0 := 298) (pc' := 305) rfl (b at_298) rfl ((if0 _ _).trans (teq hc109).1) (by decide) (by decide) ?_
          refine XS.iconst X108.here hx rfl (b at_305) ?_
          rw [show own_B fb4 = (0 : Int32) by rw [hfb4, decide_eq_true hc106, own_bf hc109]; rfl] at k
          exact k)⟩
      · skip
        exact ⟨T108, _, X108, N108, e108, fun t k => pre110 t (by
          refine XS.ifNo X108.here hx rfl (b at_298) rfl ((if0 _ _).trans (feq hc109).1) ?_
          refine XS.iconst X108.here hx rfl (b at_301) ?_
          refine XS.goto X108.here hx rfl (pc0 := 302) (pc' := 306) rfl (b at_302) (by decide) (by decide) ?_
          rw [show own_B fb4 = (1 : Int32) by rw [hfb4, decide_eq_true hc106, own_bt hc109]; rfl] at k
          exact k)⟩
    · skip
      exact ⟨T98, _, X98, N98, e98, fun t k => pre104 t (by
        refine XS.icmpYes X98.here hx rfl (pc0 := 290) (pc' := 305) rfl (b at_290) rfl (flt (own_ltF (a := 4) (b := nn) hc106 (by omega))).2.2.2 (by decide) (by decide) ?_
        refine XS.iconst X98.here hx rfl (b at_305) ?_
        rw [show own_B fb4 = (0 : Int32) by rw [hfb4, decide_eq_false hc106]; rfl] at k
        exact k)⟩
  have pre111 : Pr p e below s₁ E0 T105 (mkF m 314 #[vi i0, vi i1, vi i2, vi i3, vi i4, vi i5, vi (Int32.ofNat nn), vi c4, vi c8, vi c12, vi c16, vi c20, vr u24, vr u28, vB fw0, vB fw1, vB fw2, vB fw3, vB fw4, vB fb0, vB fb1, vB fb2, vB fb3, vB fb4, vB fb0, vu, vu, vu, vu, vu, vu, vu, vu, vu, vu, vu, vu, vu, vu, vu, vu] [(.int (own_B fb1))]) := fun t k => pre105 t (by
    refine XS.istore X105.here hx rfl (b at_306) rfl (l' := #[vi i0, vi i1, vi i2, vi i3, vi i4, vi i5, vi (Int32.ofNat nn), vi c4, vi c8, vi c12, vi c16, vi c20, vr u24, vr u28, vB fw0, vB fw1, vB fw2, vB fw3, vB fw4, vB fb0, vB fb1, vB fb2, vB fb3, vB fb4, vu, vu, vu, vu, vu, vu, vu, vu, vu, vu, vu, vu, vu, vu, vu, vu, vu]) rfl ?_
    refine XS.iload X105.here hx rfl (b at_308) rfl ?_
    refine XS.istore X105.here hx rfl (b at_310) rfl (l' := #[vi i0, vi i1, vi i2, vi i3, vi i4, vi i5, vi (Int32.ofNat nn), vi c4, vi c8, vi c12, vi c16, vi c20, vr u24, vr u28, vB fw0, vB fw1, vB fw2, vB fw3, vB fw4, vB fb0, vB fb1, vB fb2, vB fb3, vB fb4, vB fb0, vu, vu, vu, vu, vu, vu, vu, vu, vu, vu, vu, vu, vu, vu, vu, vu]) rfl ?_
    refine XS.iload X105.here hx rfl (b at_312) rfl ?_
    exact k)
  obtain ⟨fl1, hfl1⟩ : ∃ z : Bool, z = (fb1 || (fw1 && fb0)) := ⟨_, rfl⟩
  obtain ⟨T112, LL112, X112, N112, e112, pre112⟩ : ∃ (T : State) (LL : List Loc), Stand p l e room_1 (s.setVm T24.vm) m #[(.int i0), (.int i1), (.int i2), (.int i3), (.int i4), (.int i5)] below meth c T LL (22) (162) ∧ Fr n0 LL ∧ T.heap = T28.heap ∧ Pr p e below s₁ E0 T (mkF m 332 #[vi i0, vi i1, vi i2, vi i3, vi i4, vi i5, vi (Int32.ofNat nn), vi c4, vi c8, vi c12, vi c16, vi c20, vr u24, vr u28, vB fw0, vB fw1, vB fw2, vB fw3, vB fw4, vB fb0, vB fb1, vB fb2, vB fb3, vB fb4, vB fb0, vu, vu, vu, vu, vu, vu, vu, vu, vu, vu, vu, vu, vu, vu, vu, vu] [(.int (own_B fl1))]) := by
    by_cases hc113 : (own_B fb1) = (0 : Int32)
    · have pre115 : Pr p e below s₁ E0 T105 (mkF m 319 #[vi i0, vi i1, vi i2, vi i3, vi i4, vi i5, vi (Int32.ofNat nn), vi c4, vi c8, vi c12, vi c16, vi c20, vr u24, vr u28, vB fw0, vB fw1, vB fw2, vB fw3, vB fw4, vB fb0, vB fb1, vB fb2, vB fb3, vB fb4, vB fb0, vu, vu, vu, vu, vu, vu, vu, vu, vu, vu, vu, vu, vu, vu, vu, vu] [(.int (own_B fw1))]) := fun t k => pre111 t (by
        refine XS.ifNo X105.here hx rfl (b at_314) rfl ((if0 _ _).trans (teq hc113).2) ?_
        refine XS.iload X105.here hx rfl (b at_317) rfl ?_
        exact k)
      by_cases hc114 : (own_B fw1) = (0 : Int32)
      · skip
        exact ⟨T105, _, X105, N105, e105, fun t k => pre115 t (by
          refine XS.ifYes X105.here hx rfl (pc0 := 319) (pc' := 331) rfl (b at_319) rfl ((if0 _ _).trans (teq hc114).1) (by decide) (by decide) ?_
          refine XS.iconst X105.here hx rfl (b at_331) ?_
          rw [show own_B fl1 = (0 : Int32) by rw [hfl1, own_Bf hc113, own_Bf hc114]; rfl] at k
          exact k)⟩
      · have pre117 : Pr p e below s₁ E0 T105 (mkF m 324 #[vi i0, vi i1, vi i2, vi i3, vi i4, vi i5, vi (Int32.ofNat nn), vi c4, vi c8, vi c12, vi c16, vi c20, vr u24, vr u28, vB fw0, vB fw1, vB fw2, vB fw3, vB fw4, vB fb0, vB fb1, vB fb2, vB fb3, vB fb4, vB fb0, vu, vu, vu, vu, vu, vu, vu, vu, vu, vu, vu, vu, vu, vu, vu, vu] [(.int (own_B fb0))]) := fun t k => pre115 t (by
          refine XS.ifNo X105.here hx rfl (b at_319) rfl ((if0 _ _).trans (feq hc114).1) ?_
          refine XS.iload X105.here hx rfl (b at_322) rfl ?_
          exact k)
        by_cases hc116 : (own_B fb0) = (0 : Int32)
        · skip
          exact ⟨T105, _, X105, N105, e105, fun t k => pre117 t (by
            refine XS.ifYes X105.here hx rfl (pc0 := 324) (pc' := 331) rfl (b at_324) rfl ((if0 _ _).trans (teq hc116).1) (by decide) (by decide) ?_
            refine XS.iconst X105.here hx rfl (b at_331) ?_
            rw [show own_B fl1 = (0 : Int32) by rw [hfl1, own_Bf hc113, own_Bt hc114, own_Bf hc116]; rfl] at k
            exact k)⟩
        · skip
          exact ⟨T105, _, X105, N105, e105, fun t k => pre117 t (by
            refine XS.ifNo X105.here hx rfl (b at_324) rfl ((if0 _ _).trans (feq hc116).1) ?_
            refine XS.iconst X105.here hx rfl (b at_327) ?_
            refine XS.goto X105.here hx rfl (pc0 := 328) (pc' := 332) rfl (b at_328) (by decide) (by decide) ?_
            rw [show own_B fl1 = (1 : Int32) by rw [hfl1, own_Bf hc113, own_Bt hc114, own_Bt hc116]; rfl] at k
            exact k)⟩
    · skip
      exact ⟨T105, _, X105, N105, e105, fun t k => pre111 t (by
        refine XS.ifYes X105.here hx rfl (pc0 := 314) (pc' := 327) rfl (b at_314) rfl ((if0 _ _).trans (feq hc113).2) (by decide) (by decide) ?_
        refine XS.iconst X105.here hx rfl (b at_327) ?_
        refine XS.goto X105.here hx rfl (pc0 := 328) (pc' := 332) rfl (b at_328) (by decide) (by decide) ?_
        rw [show own_B fl1 = (1 : Int32) by rw [hfl1, own_Bt hc113]; rfl] at k
        exact k)⟩
  have pre118 : Pr p e below s₁ E0 T112 (mkF m 336 #[vi i0, vi i1, vi i2, vi i3, vi i4, vi i5, vi (Int32.ofNat nn), vi c4, vi c8, vi c12, vi c16, vi c20, vr u24, vr u28, vB fw0, vB fw1, vB fw2, vB fw3, vB fw4, vB fb0, vB fb1, vB fb2, vB fb3, vB fb4, vB fb0, vB fl1, vu, vu, vu, vu, vu, vu, vu, vu, vu, vu, vu, vu, vu, vu, vu] [(.int (own_B fb2))]) := fun t k => pre112 t (by
    refine XS.istore X112.here hx rfl (b at_332) rfl (l' := #[vi i0, vi i1, vi i2, vi i3, vi i4, vi i5, vi (Int32.ofNat nn), vi c4, vi c8, vi c12, vi c16, vi c20, vr u24, vr u28, vB fw0, vB fw1, vB fw2, vB fw3, vB fw4, vB fb0, vB fb1, vB fb2, vB fb3, vB fb4, vB fb0, vB fl1, vu, vu, vu, vu, vu, vu, vu, vu, vu, vu, vu, vu, vu, vu, vu]) rfl ?_
    refine XS.iload X112.here hx rfl (b at_334) rfl ?_
    exact k)
  obtain ⟨fl2, hfl2⟩ : ∃ z : Bool, z = (fb2 || (fw2 && fl1)) := ⟨_, rfl⟩
  obtain ⟨T119, LL119, X119, N119, e119, pre119⟩ : ∃ (T : State) (LL : List Loc), Stand p l e room_1 (s.setVm T24.vm) m #[(.int i0), (.int i1), (.int i2), (.int i3), (.int i4), (.int i5)] below meth c T LL (22) (162) ∧ Fr n0 LL ∧ T.heap = T28.heap ∧ Pr p e below s₁ E0 T (mkF m 354 #[vi i0, vi i1, vi i2, vi i3, vi i4, vi i5, vi (Int32.ofNat nn), vi c4, vi c8, vi c12, vi c16, vi c20, vr u24, vr u28, vB fw0, vB fw1, vB fw2, vB fw3, vB fw4, vB fb0, vB fb1, vB fb2, vB fb3, vB fb4, vB fb0, vB fl1, vu, vu, vu, vu, vu, vu, vu, vu, vu, vu, vu, vu, vu, vu, vu] [(.int (own_B fl2))]) := by
    by_cases hc120 : (own_B fb2) = (0 : Int32)
    · have pre122 : Pr p e below s₁ E0 T112 (mkF m 341 #[vi i0, vi i1, vi i2, vi i3, vi i4, vi i5, vi (Int32.ofNat nn), vi c4, vi c8, vi c12, vi c16, vi c20, vr u24, vr u28, vB fw0, vB fw1, vB fw2, vB fw3, vB fw4, vB fb0, vB fb1, vB fb2, vB fb3, vB fb4, vB fb0, vB fl1, vu, vu, vu, vu, vu, vu, vu, vu, vu, vu, vu, vu, vu, vu, vu] [(.int (own_B fw2))]) := fun t k => pre118 t (by
        refine XS.ifNo X112.here hx rfl (b at_336) rfl ((if0 _ _).trans (teq hc120).2) ?_
        refine XS.iload X112.here hx rfl (b at_339) rfl ?_
        exact k)
      by_cases hc121 : (own_B fw2) = (0 : Int32)
      · skip
        exact ⟨T112, _, X112, N112, e112, fun t k => pre122 t (by
          refine XS.ifYes X112.here hx rfl (pc0 := 341) (pc' := 353) rfl (b at_341) rfl ((if0 _ _).trans (teq hc121).1) (by decide) (by decide) ?_
          refine XS.iconst X112.here hx rfl (b at_353) ?_
          rw [show own_B fl2 = (0 : Int32) by rw [hfl2, own_Bf hc120, own_Bf hc121]; rfl] at k
          exact k)⟩
      · have pre124 : Pr p e below s₁ E0 T112 (mkF m 346 #[vi i0, vi i1, vi i2, vi i3, vi i4, vi i5, vi (Int32.ofNat nn), vi c4, vi c8, vi c12, vi c16, vi c20, vr u24, vr u28, vB fw0, vB fw1, vB fw2, vB fw3, vB fw4, vB fb0, vB fb1, vB fb2, vB fb3, vB fb4, vB fb0, vB fl1, vu, vu, vu, vu, vu, vu, vu, vu, vu, vu, vu, vu, vu, vu, vu] [(.int (own_B fl1))]) := fun t k => pre122 t (by
          refine XS.ifNo X112.here hx rfl (b at_341) rfl ((if0 _ _).trans (feq hc121).1) ?_
          refine XS.iload X112.here hx rfl (b at_344) rfl ?_
          exact k)
        by_cases hc123 : (own_B fl1) = (0 : Int32)
        · skip
          exact ⟨T112, _, X112, N112, e112, fun t k => pre124 t (by
            refine XS.ifYes X112.here hx rfl (pc0 := 346) (pc' := 353) rfl (b at_346) rfl ((if0 _ _).trans (teq hc123).1) (by decide) (by decide) ?_
            refine XS.iconst X112.here hx rfl (b at_353) ?_
            rw [show own_B fl2 = (0 : Int32) by rw [hfl2, own_Bf hc120, own_Bt hc121, own_Bf hc123]; rfl] at k
            exact k)⟩
        · skip
          exact ⟨T112, _, X112, N112, e112, fun t k => pre124 t (by
            refine XS.ifNo X112.here hx rfl (b at_346) rfl ((if0 _ _).trans (feq hc123).1) ?_
            refine XS.iconst X112.here hx rfl (b at_349) ?_
            refine XS.goto X112.here hx rfl (pc0 := 350) (pc' := 354) rfl (b at_350) (by decide) (by decide) ?_
            rw [show own_B fl2 = (1 : Int32) by rw [hfl2, own_Bf hc120, own_Bt hc121, own_Bt hc123]; rfl] at k
            exact k)⟩
    · skip
      exact ⟨T112, _, X112, N112, e112, fun t k => pre118 t (by
        refine XS.ifYes X112.here hx rfl (pc0 := 336) (pc' := 349) rfl (b at_336) rfl ((if0 _ _).trans (feq hc120).2) (by decide) (by decide) ?_
        refine XS.iconst X112.here hx rfl (b at_349) ?_
        refine XS.goto X112.here hx rfl (pc0 := 350) (pc' := 354) rfl (b at_350) (by decide) (by decide) ?_
        rw [show own_B fl2 = (1 : Int32) by rw [hfl2, own_Bt hc120]; rfl] at k
        exact k)⟩
  have pre125 : Pr p e below s₁ E0 T119 (mkF m 358 #[vi i0, vi i1, vi i2, vi i3, vi i4, vi i5, vi (Int32.ofNat nn), vi c4, vi c8, vi c12, vi c16, vi c20, vr u24, vr u28, vB fw0, vB fw1, vB fw2, vB fw3, vB fw4, vB fb0, vB fb1, vB fb2, vB fb3, vB fb4, vB fb0, vB fl1, vB fl2, vu, vu, vu, vu, vu, vu, vu, vu, vu, vu, vu, vu, vu, vu] [(.int (own_B fb3))]) := fun t k => pre119 t (by
    refine XS.istore X119.here hx rfl (b at_354) rfl (l' := #[vi i0, vi i1, vi i2, vi i3, vi i4, vi i5, vi (Int32.ofNat nn), vi c4, vi c8, vi c12, vi c16, vi c20, vr u24, vr u28, vB fw0, vB fw1, vB fw2, vB fw3, vB fw4, vB fb0, vB fb1, vB fb2, vB fb3, vB fb4, vB fb0, vB fl1, vB fl2, vu, vu, vu, vu, vu, vu, vu, vu, vu, vu, vu, vu, vu, vu]) rfl ?_
    refine XS.iload X119.here hx rfl (b at_356) rfl ?_
    exact k)
  obtain ⟨fl3, hfl3⟩ : ∃ z : Bool, z = (fb3 || (fw3 && fl2)) := ⟨_, rfl⟩
  obtain ⟨T126, LL126, X126, N126, e126, pre126⟩ : ∃ (T : State) (LL : List Loc), Stand p l e room_1 (s.setVm T24.vm) m #[(.int i0), (.int i1), (.int i2), (.int i3), (.int i4), (.int i5)] below meth c T LL (22) (162) ∧ Fr n0 LL ∧ T.heap = T28.heap ∧ Pr p e below s₁ E0 T (mkF m 376 #[vi i0, vi i1, vi i2, vi i3, vi i4, vi i5, vi (Int32.ofNat nn), vi c4, vi c8, vi c12, vi c16, vi c20, vr u24, vr u28, vB fw0, vB fw1, vB fw2, vB fw3, vB fw4, vB fb0, vB fb1, vB fb2, vB fb3, vB fb4, vB fb0, vB fl1, vB fl2, vu, vu, vu, vu, vu, vu, vu, vu, vu, vu, vu, vu, vu, vu] [(.int (own_B fl3))]) := by
    by_cases hc127 : (own_B fb3) = (0 : Int32)
    · have pre129 : Pr p e below s₁ E0 T119 (mkF m 363 #[vi i0, vi i1, vi i2, vi i3, vi i4, vi i5, vi (Int32.ofNat nn), vi c4, vi c8, vi c12, vi c16, vi c20, vr u24, vr u28, vB fw0, vB fw1, vB fw2, vB fw3, vB fw4, vB fb0, vB fb1, vB fb2, vB fb3, vB fb4, vB fb0, vB fl1, vB fl2, vu, vu, vu, vu, vu, vu, vu, vu, vu, vu, vu, vu, vu, vu] [(.int (own_B fw3))]) := fun t k => pre125 t (by
        refine XS.ifNo X119.here hx rfl (b at_358) rfl ((if0 _ _).trans (teq hc127).2) ?_
        refine XS.iload X119.here hx rfl (b at_361) rfl ?_
        exact k)
      by_cases hc128 : (own_B fw3) = (0 : Int32)
      · skip
        exact ⟨T119, _, X119, N119, e119, fun t k => pre129 t (by
          refine XS.ifYes X119.here hx rfl (pc0 := 363) (pc' := 375) rfl (b at_363) rfl ((if0 _ _).trans (teq hc128).1) (by decide) (by decide) ?_
          refine XS.iconst X119.here hx rfl (b at_375) ?_
          rw [show own_B fl3 = (0 : Int32) by rw [hfl3, own_Bf hc127, own_Bf hc128]; rfl] at k
          exact k)⟩
      · have pre131 : Pr p e below s₁ E0 T119 (mkF m 368 #[vi i0, vi i1, vi i2, vi i3, vi i4, vi i5, vi (Int32.ofNat nn), vi c4, vi c8, vi c12, vi c16, vi c20, vr u24, vr u28, vB fw0, vB fw1, vB fw2, vB fw3, vB fw4, vB fb0, vB fb1, vB fb2, vB fb3, vB fb4, vB fb0, vB fl1, vB fl2, vu, vu, vu, vu, vu, vu, vu, vu, vu, vu, vu, vu, vu, vu] [(.int (own_B fl2))]) := fun t k => pre129 t (by
          refine XS.ifNo X119.here hx rfl (b at_363) rfl ((if0 _ _).trans (feq hc128).1) ?_
          refine XS.iload X119.here hx rfl (b at_366) rfl ?_
          exact k)
        by_cases hc130 : (own_B fl2) = (0 : Int32)
        · skip
          exact ⟨T119, _, X119, N119, e119, fun t k => pre131 t (by
            refine XS.ifYes X119.here hx rfl (pc0 := 368) (pc' := 375) rfl (b at_368) rfl ((if0 _ _).trans (teq hc130).1) (by decide) (by decide) ?_
            refine XS.iconst X119.here hx rfl (b at_375) ?_
            rw [show own_B fl3 = (0 : Int32) by rw [hfl3, own_Bf hc127, own_Bt hc128, own_Bf hc130]; rfl] at k
            exact k)⟩
        · skip
          exact ⟨T119, _, X119, N119, e119, fun t k => pre131 t (by
            refine XS.ifNo X119.here hx rfl (b at_368) rfl ((if0 _ _).trans (feq hc130).1) ?_
            refine XS.iconst X119.here hx rfl (b at_371) ?_
            refine XS.goto X119.here hx rfl (pc0 := 372) (pc' := 376) rfl (b at_372) (by decide) (by decide) ?_
            rw [show own_B fl3 = (1 : Int32) by rw [hfl3, own_Bf hc127, own_Bt hc128, own_Bt hc130]; rfl] at k
            exact k)⟩
    · skip
      exact ⟨T119, _, X119, N119, e119, fun t k => pre125 t (by
        refine XS.ifYes X119.here hx rfl (pc0 := 358) (pc' := 371) rfl (b at_358) rfl ((if0 _ _).trans (feq hc127).2) (by decide) (by decide) ?_
        refine XS.iconst X119.here hx rfl (b at_371) ?_
        refine XS.goto X119.here hx rfl (pc0 := 372) (pc' := 376) rfl (b at_372) (by decide) (by decide) ?_
        rw [show own_B fl3 = (1 : Int32) by rw [hfl3, own_Bt hc127]; rfl] at k
        exact k)⟩
  have pre132 : Pr p e below s₁ E0 T126 (mkF m 380 #[vi i0, vi i1, vi i2, vi i3, vi i4, vi i5, vi (Int32.ofNat nn), vi c4, vi c8, vi c12, vi c16, vi c20, vr u24, vr u28, vB fw0, vB fw1, vB fw2, vB fw3, vB fw4, vB fb0, vB fb1, vB fb2, vB fb3, vB fb4, vB fb0, vB fl1, vB fl2, vB fl3, vu, vu, vu, vu, vu, vu, vu, vu, vu, vu, vu, vu, vu] [(.int (own_B fb4))]) := fun t k => pre126 t (by
    refine XS.istore X126.here hx rfl (b at_376) rfl (l' := #[vi i0, vi i1, vi i2, vi i3, vi i4, vi i5, vi (Int32.ofNat nn), vi c4, vi c8, vi c12, vi c16, vi c20, vr u24, vr u28, vB fw0, vB fw1, vB fw2, vB fw3, vB fw4, vB fb0, vB fb1, vB fb2, vB fb3, vB fb4, vB fb0, vB fl1, vB fl2, vB fl3, vu, vu, vu, vu, vu, vu, vu, vu, vu, vu, vu, vu, vu]) rfl ?_
    refine XS.iload X126.here hx rfl (b at_378) rfl ?_
    exact k)
  obtain ⟨fl4, hfl4⟩ : ∃ z : Bool, z = (fb4 || (fw4 && fl3)) := ⟨_, rfl⟩
  obtain ⟨T133, LL133, X133, N133, e133, pre133⟩ : ∃ (T : State) (LL : List Loc), Stand p l e room_1 (s.setVm T24.vm) m #[(.int i0), (.int i1), (.int i2), (.int i3), (.int i4), (.int i5)] below meth c T LL (22) (162) ∧ Fr n0 LL ∧ T.heap = T28.heap ∧ Pr p e below s₁ E0 T (mkF m 398 #[vi i0, vi i1, vi i2, vi i3, vi i4, vi i5, vi (Int32.ofNat nn), vi c4, vi c8, vi c12, vi c16, vi c20, vr u24, vr u28, vB fw0, vB fw1, vB fw2, vB fw3, vB fw4, vB fb0, vB fb1, vB fb2, vB fb3, vB fb4, vB fb0, vB fl1, vB fl2, vB fl3, vu, vu, vu, vu, vu, vu, vu, vu, vu, vu, vu, vu, vu] [(.int (own_B fl4))]) := by
    by_cases hc134 : (own_B fb4) = (0 : Int32)
    · have pre136 : Pr p e below s₁ E0 T126 (mkF m 385 #[vi i0, vi i1, vi i2, vi i3, vi i4, vi i5, vi (Int32.ofNat nn), vi c4, vi c8, vi c12, vi c16, vi c20, vr u24, vr u28, vB fw0, vB fw1, vB fw2, vB fw3, vB fw4, vB fb0, vB fb1, vB fb2, vB fb3, vB fb4, vB fb0, vB fl1, vB fl2, vB fl3, vu, vu, vu, vu, vu, vu, vu, vu, vu, vu, vu, vu, vu] [(.int (own_B fw4))]) := fun t k => pre132 t (by
        refine XS.ifNo X126.here hx rfl (b at_380) rfl ((if0 _ _).trans (teq hc134).2) ?_
        refine XS.iload X126.here hx rfl (b at_383) rfl ?_
        exact k)
      by_cases hc135 : (own_B fw4) = (0 : Int32)
      · skip
        exact ⟨T126, _, X126, N126, e126, fun t k => pre136 t (by
          refine XS.ifYes X126.here hx rfl (pc0 := 385) (pc' := 397) rfl (b at_385) rfl ((if0 _ _).trans (teq hc135).1) (by decide) (by decide) ?_
          refine XS.iconst X126.here hx rfl (b at_397) ?_
          rw [show own_B fl4 = (0 : Int32) by rw [hfl4, own_Bf hc134, own_Bf hc135]; rfl] at k
          exact k)⟩
      · have pre138 : Pr p e below s₁ E0 T126 (mkF m 390 #[vi i0, vi i1, vi i2, vi i3, vi i4, vi i5, vi (Int32.ofNat nn), vi c4, vi c8, vi c12, vi c16, vi c20, vr u24, vr u28, vB fw0, vB fw1, vB fw2, vB fw3, vB fw4, vB fb0, vB fb1, vB fb2, vB fb3, vB fb4, vB fb0, vB fl1, vB fl2, vB fl3, vu, vu, vu, vu, vu, vu, vu, vu, vu, vu, vu, vu, vu] [(.int (own_B fl3))]) := fun t k => pre136 t (by
          refine XS.ifNo X126.here hx rfl (b at_385) rfl ((if0 _ _).trans (feq hc135).1) ?_
          refine XS.iload X126.here hx rfl (b at_388) rfl ?_
          exact k)
        by_cases hc137 : (own_B fl3) = (0 : Int32)
        · skip
          exact ⟨T126, _, X126, N126, e126, fun t k => pre138 t (by
            refine XS.ifYes X126.here hx rfl (pc0 := 390) (pc' := 397) rfl (b at_390) rfl ((if0 _ _).trans (teq hc137).1) (by decide) (by decide) ?_
            refine XS.iconst X126.here hx rfl (b at_397) ?_
            rw [show own_B fl4 = (0 : Int32) by rw [hfl4, own_Bf hc134, own_Bt hc135, own_Bf hc137]; rfl] at k
            exact k)⟩
        · skip
          exact ⟨T126, _, X126, N126, e126, fun t k => pre138 t (by
            refine XS.ifNo X126.here hx rfl (b at_390) rfl ((if0 _ _).trans (feq hc137).1) ?_
            refine XS.iconst X126.here hx rfl (b at_393) ?_
            refine XS.goto X126.here hx rfl (pc0 := 394) (pc' := 398) rfl (b at_394) (by decide) (by decide) ?_
            rw [show own_B fl4 = (1 : Int32) by rw [hfl4, own_Bf hc134, own_Bt hc135, own_Bt hc137]; rfl] at k
            exact k)⟩
    · skip
      exact ⟨T126, _, X126, N126, e126, fun t k => pre132 t (by
        refine XS.ifYes X126.here hx rfl (pc0 := 380) (pc' := 393) rfl (b at_380) rfl ((if0 _ _).trans (feq hc134).2) (by decide) (by decide) ?_
        refine XS.iconst X126.here hx rfl (b at_393) ?_
        refine XS.goto X126.here hx rfl (pc0 := 394) (pc' := 398) rfl (b at_394) (by decide) (by decide) ?_
        rw [show own_B fl4 = (1 : Int32) by rw [hfl4, own_Bt hc134]; rfl] at k
        exact k)⟩
  have pre139 : Pr p e below s₁ E0 T133 (mkF m 406 #[vi i0, vi i1, vi i2, vi i3, vi i4, vi i5, vi (Int32.ofNat nn), vi c4, vi c8, vi c12, vi c16, vi c20, vr u24, vr u28, vB fw0, vB fw1, vB fw2, vB fw3, vB fw4, vB fb0, vB fb1, vB fb2, vB fb3, vB fb4, vB fb0, vB fl1, vB fl2, vB fl3, vB fl4, vB fb4, vu, vu, vu, vu, vu, vu, vu, vu, vu, vu, vu] [(.int (own_B fb3))]) := fun t k => pre133 t (by
    refine XS.istore X133.here hx rfl (b at_398) rfl (l' := #[vi i0, vi i1, vi i2, vi i3, vi i4, vi i5, vi (Int32.ofNat nn), vi c4, vi c8, vi c12, vi c16, vi c20, vr u24, vr u28, vB fw0, vB fw1, vB fw2, vB fw3, vB fw4, vB fb0, vB fb1, vB fb2, vB fb3, vB fb4, vB fb0, vB fl1, vB fl2, vB fl3, vB fl4, vu, vu, vu, vu, vu, vu, vu, vu, vu, vu, vu, vu]) rfl ?_
    refine XS.iload X133.here hx rfl (b at_400) rfl ?_
    refine XS.istore X133.here hx rfl (b at_402) rfl (l' := #[vi i0, vi i1, vi i2, vi i3, vi i4, vi i5, vi (Int32.ofNat nn), vi c4, vi c8, vi c12, vi c16, vi c20, vr u24, vr u28, vB fw0, vB fw1, vB fw2, vB fw3, vB fw4, vB fb0, vB fb1, vB fb2, vB fb3, vB fb4, vB fb0, vB fl1, vB fl2, vB fl3, vB fl4, vB fb4, vu, vu, vu, vu, vu, vu, vu, vu, vu, vu, vu]) rfl ?_
    refine XS.iload X133.here hx rfl (b at_404) rfl ?_
    exact k)
  obtain ⟨fr3, hfr3⟩ : ∃ z : Bool, z = (fb3 || (fw3 && fb4)) := ⟨_, rfl⟩
  obtain ⟨T140, LL140, X140, N140, e140, pre140⟩ : ∃ (T : State) (LL : List Loc), Stand p l e room_1 (s.setVm T24.vm) m #[(.int i0), (.int i1), (.int i2), (.int i3), (.int i4), (.int i5)] below meth c T LL (22) (162) ∧ Fr n0 LL ∧ T.heap = T28.heap ∧ Pr p e below s₁ E0 T (mkF m 424 #[vi i0, vi i1, vi i2, vi i3, vi i4, vi i5, vi (Int32.ofNat nn), vi c4, vi c8, vi c12, vi c16, vi c20, vr u24, vr u28, vB fw0, vB fw1, vB fw2, vB fw3, vB fw4, vB fb0, vB fb1, vB fb2, vB fb3, vB fb4, vB fb0, vB fl1, vB fl2, vB fl3, vB fl4, vB fb4, vu, vu, vu, vu, vu, vu, vu, vu, vu, vu, vu] [(.int (own_B fr3))]) := by
    by_cases hc141 : (own_B fb3) = (0 : Int32)
    · have pre143 : Pr p e below s₁ E0 T133 (mkF m 411 #[vi i0, vi i1, vi i2, vi i3, vi i4, vi i5, vi (Int32.ofNat nn), vi c4, vi c8, vi c12, vi c16, vi c20, vr u24, vr u28, vB fw0, vB fw1, vB fw2, vB fw3, vB fw4, vB fb0, vB fb1, vB fb2, vB fb3, vB fb4, vB fb0, vB fl1, vB fl2, vB fl3, vB fl4, vB fb4, vu, vu, vu, vu, vu, vu, vu, vu, vu, vu, vu] [(.int (own_B fw3))]) := fun t k => pre139 t (by
        refine XS.ifNo X133.here hx rfl (b at_406) rfl ((if0 _ _).trans (teq hc141).2) ?_
        refine XS.iload X133.here hx rfl (b at_409) rfl ?_
        exact k)
      by_cases hc142 : (own_B fw3) = (0 : Int32)
      · skip
        exact ⟨T133, _, X133, N133, e133, fun t k => pre143 t (by
          refine XS.ifYes X133.here hx rfl (pc0 := 411) (pc' := 423) rfl (b at_411) rfl ((if0 _ _).trans (teq hc142).1) (by decide) (by decide) ?_
          refine XS.iconst X133.here hx rfl (b at_423) ?_
          rw [show own_B fr3 = (0 : Int32) by rw [hfr3, own_Bf hc141, own_Bf hc142]; rfl] at k
          exact k)⟩
      · have pre145 : Pr p e below s₁ E0 T133 (mkF m 416 #[vi i0, vi i1, vi i2, vi i3, vi i4, vi i5, vi (Int32.ofNat nn), vi c4, vi c8, vi c12, vi c16, vi c20, vr u24, vr u28, vB fw0, vB fw1, vB fw2, vB fw3, vB fw4, vB fb0, vB fb1, vB fb2, vB fb3, vB fb4, vB fb0, vB fl1, vB fl2, vB fl3, vB fl4, vB fb4, vu, vu, vu, vu, vu, vu, vu, vu, vu, vu, vu] [(.int (own_B fb4))]) := fun t k => pre143 t (by
          refine XS.ifNo X133.here hx rfl (b at_411) rfl ((if0 _ _).trans (feq hc142).1) ?_
          refine XS.iload X133.here hx rfl (b at_414) rfl ?_
          exact k)
        by_cases hc144 : (own_B fb4) = (0 : Int32)
        · skip
          exact ⟨T133, _, X133, N133, e133, fun t k => pre145 t (by
            refine XS.ifYes X133.here hx rfl (pc0 := 416) (pc' := 423) rfl (b at_416) rfl ((if0 _ _).trans (teq hc144).1) (by decide) (by decide) ?_
            refine XS.iconst X133.here hx rfl (b at_423) ?_
            rw [show own_B fr3 = (0 : Int32) by rw [hfr3, own_Bf hc141, own_Bt hc142, own_Bf hc144]; rfl] at k
            exact k)⟩
        · skip
          exact ⟨T133, _, X133, N133, e133, fun t k => pre145 t (by
            refine XS.ifNo X133.here hx rfl (b at_416) rfl ((if0 _ _).trans (feq hc144).1) ?_
            refine XS.iconst X133.here hx rfl (b at_419) ?_
            refine XS.goto X133.here hx rfl (pc0 := 420) (pc' := 424) rfl (b at_420) (by decide) (by decide) ?_
            rw [show own_B fr3 = (1 : Int32) by rw [hfr3, own_Bf hc141, own_Bt hc142, own_Bt hc144]; rfl] at k
            exact k)⟩
    · skip
      exact ⟨T133, _, X133, N133, e133, fun t k => pre139 t (by
        refine XS.ifYes X133.here hx rfl (pc0 := 406) (pc' := 419) rfl (b at_406) rfl ((if0 _ _).trans (feq hc141).2) (by decide) (by decide) ?_
        refine XS.iconst X133.here hx rfl (b at_419) ?_
        refine XS.goto X133.here hx rfl (pc0 := 420) (pc' := 424) rfl (b at_420) (by decide) (by decide) ?_
        rw [show own_B fr3 = (1 : Int32) by rw [hfr3, own_Bt hc141]; rfl] at k
        exact k)⟩
  have pre146 : Pr p e below s₁ E0 T140 (mkF m 428 #[vi i0, vi i1, vi i2, vi i3, vi i4, vi i5, vi (Int32.ofNat nn), vi c4, vi c8, vi c12, vi c16, vi c20, vr u24, vr u28, vB fw0, vB fw1, vB fw2, vB fw3, vB fw4, vB fb0, vB fb1, vB fb2, vB fb3, vB fb4, vB fb0, vB fl1, vB fl2, vB fl3, vB fl4, vB fb4, vB fr3, vu, vu, vu, vu, vu, vu, vu, vu, vu, vu] [(.int (own_B fb2))]) := fun t k => pre140 t (by
    refine XS.istore X140.here hx rfl (b at_424) rfl (l' := #[vi i0, vi i1, vi i2, vi i3, vi i4, vi i5, vi (Int32.ofNat nn), vi c4, vi c8, vi c12, vi c16, vi c20, vr u24, vr u28, vB fw0, vB fw1, vB fw2, vB fw3, vB fw4, vB fb0, vB fb1, vB fb2, vB fb3, vB fb4, vB fb0, vB fl1, vB fl2, vB fl3, vB fl4, vB fb4, vB fr3, vu, vu, vu, vu, vu, vu, vu, vu, vu, vu]) rfl ?_
    refine XS.iload X140.here hx rfl (b at_426) rfl ?_
    exact k)
  obtain ⟨fr2, hfr2⟩ : ∃ z : Bool, z = (fb2 || (fw2 && fr3)) := ⟨_, rfl⟩
  obtain ⟨T147, LL147, X147, N147, e147, pre147⟩ : ∃ (T : State) (LL : List Loc), Stand p l e room_1 (s.setVm T24.vm) m #[(.int i0), (.int i1), (.int i2), (.int i3), (.int i4), (.int i5)] below meth c T LL (22) (162) ∧ Fr n0 LL ∧ T.heap = T28.heap ∧ Pr p e below s₁ E0 T (mkF m 446 #[vi i0, vi i1, vi i2, vi i3, vi i4, vi i5, vi (Int32.ofNat nn), vi c4, vi c8, vi c12, vi c16, vi c20, vr u24, vr u28, vB fw0, vB fw1, vB fw2, vB fw3, vB fw4, vB fb0, vB fb1, vB fb2, vB fb3, vB fb4, vB fb0, vB fl1, vB fl2, vB fl3, vB fl4, vB fb4, vB fr3, vu, vu, vu, vu, vu, vu, vu, vu, vu, vu] [(.int (own_B fr2))]) := by
    by_cases hc148 : (own_B fb2) = (0 : Int32)
    · have pre150 : Pr p e below s₁ E0 T140 (mkF m 433 #[vi i0, vi i1, vi i2, vi i3, vi i4, vi i5, vi (Int32.ofNat nn), vi c4, vi c8, vi c12, vi c16, vi c20, vr u24, vr u28, vB fw0, vB fw1, vB fw2, vB fw3, vB fw4, vB fb0, vB fb1, vB fb2, vB fb3, vB fb4, vB fb0, vB fl1, vB fl2, vB fl3, vB fl4, vB fb4, vB fr3, vu, vu, vu, vu, vu, vu, vu, vu, vu, vu] [(.int (own_B fw2))]) := fun t k => pre146 t (by
        refine XS.ifNo X140.here hx rfl (b at_428) rfl ((if0 _ _).trans (teq hc148).2) ?_
        refine XS.iload X140.here hx rfl (b at_431) rfl ?_
        exact k)
      by_cases hc149 : (own_B fw2) = (0 : Int32)
      · skip
        exact ⟨T140, _, X140, N140, e140, fun t k => pre150 t (by
          refine XS.ifYes X140.here hx rfl (pc0 := 433) (pc' := 445) rfl (b at_433) rfl ((if0 _ _).trans (teq hc149).1) (by decide) (by decide) ?_
          refine XS.iconst X140.here hx rfl (b at_445) ?_
          rw [show own_B fr2 = (0 : Int32) by rw [hfr2, own_Bf hc148, own_Bf hc149]; rfl] at k
          exact k)⟩
      · have pre152 : Pr p e below s₁ E0 T140 (mkF m 438 #[vi i0, vi i1, vi i2, vi i3, vi i4, vi i5, vi (Int32.ofNat nn), vi c4, vi c8, vi c12, vi c16, vi c20, vr u24, vr u28, vB fw0, vB fw1, vB fw2, vB fw3, vB fw4, vB fb0, vB fb1, vB fb2, vB fb3, vB fb4, vB fb0, vB fl1, vB fl2, vB fl3, vB fl4, vB fb4, vB fr3, vu, vu, vu, vu, vu, vu, vu, vu, vu, vu] [(.int (own_B fr3))]) := fun t k => pre150 t (by
          refine XS.ifNo X140.here hx rfl (b at_433) rfl ((if0 _ _).trans (feq hc149).1) ?_
          refine XS.iload X140.here hx rfl (b at_436) rfl ?_
          exact k)
        by_cases hc151 : (own_B fr3) = (0 : Int32)
        · skip
          exact ⟨T140, _, X140, N140, e140, fun t k => pre152 t (by
            refine XS.ifYes X140.here hx rfl (pc0 := 438) (pc' := 445) rfl (b at_438) rfl ((if0 _ _).trans (teq hc151).1) (by decide) (by decide) ?_
            refine XS.iconst X140.here hx rfl (b at_445) ?_
            rw [show own_B fr2 = (0 : Int32) by rw [hfr2, own_Bf hc148, own_Bt hc149, own_Bf hc151]; rfl] at k
            exact k)⟩
        · skip
          exact ⟨T140, _, X140, N140, e140, fun t k => pre152 t (by
            refine XS.ifNo X140.here hx rfl (b at_438) rfl ((if0 _ _).trans (feq hc151).1) ?_
            refine XS.iconst X140.here hx rfl (b at_441) ?_
            refine XS.goto X140.here hx rfl (pc0 := 442) (pc' := 446) rfl (b at_442) (by decide) (by decide) ?_
            rw [show own_B fr2 = (1 : Int32) by rw [hfr2, own_Bf hc148, own_Bt hc149, own_Bt hc151]; rfl] at k
            exact k)⟩
    · skip
      exact ⟨T140, _, X140, N140, e140, fun t k => pre146 t (by
        refine XS.ifYes X140.here hx rfl (pc0 := 428) (pc' := 441) rfl (b at_428) rfl ((if0 _ _).trans (feq hc148).2) (by decide) (by decide) ?_
        refine XS.iconst X140.here hx rfl (b at_441) ?_
        refine XS.goto X140.here hx rfl (pc0 := 442) (pc' := 446) rfl (b at_442) (by decide) (by decide) ?_
        rw [show own_B fr2 = (1 : Int32) by rw [hfr2, own_Bt hc148]; rfl] at k
        exact k)⟩
  have pre153 : Pr p e below s₁ E0 T147 (mkF m 450 #[vi i0, vi i1, vi i2, vi i3, vi i4, vi i5, vi (Int32.ofNat nn), vi c4, vi c8, vi c12, vi c16, vi c20, vr u24, vr u28, vB fw0, vB fw1, vB fw2, vB fw3, vB fw4, vB fb0, vB fb1, vB fb2, vB fb3, vB fb4, vB fb0, vB fl1, vB fl2, vB fl3, vB fl4, vB fb4, vB fr3, vB fr2, vu, vu, vu, vu, vu, vu, vu, vu, vu] [(.int (own_B fb1))]) := fun t k => pre147 t (by
    refine XS.istore X147.here hx rfl (b at_446) rfl (l' := #[vi i0, vi i1, vi i2, vi i3, vi i4, vi i5, vi (Int32.ofNat nn), vi c4, vi c8, vi c12, vi c16, vi c20, vr u24, vr u28, vB fw0, vB fw1, vB fw2, vB fw3, vB fw4, vB fb0, vB fb1, vB fb2, vB fb3, vB fb4, vB fb0, vB fl1, vB fl2, vB fl3, vB fl4, vB fb4, vB fr3, vB fr2, vu, vu, vu, vu, vu, vu, vu, vu, vu]) rfl ?_
    refine XS.iload X147.here hx rfl (b at_448) rfl ?_
    exact k)
  obtain ⟨fr1, hfr1⟩ : ∃ z : Bool, z = (fb1 || (fw1 && fr2)) := ⟨_, rfl⟩
  obtain ⟨T154, LL154, X154, N154, e154, pre154⟩ : ∃ (T : State) (LL : List Loc), Stand p l e room_1 (s.setVm T24.vm) m #[(.int i0), (.int i1), (.int i2), (.int i3), (.int i4), (.int i5)] below meth c T LL (22) (162) ∧ Fr n0 LL ∧ T.heap = T28.heap ∧ Pr p e below s₁ E0 T (mkF m 468 #[vi i0, vi i1, vi i2, vi i3, vi i4, vi i5, vi (Int32.ofNat nn), vi c4, vi c8, vi c12, vi c16, vi c20, vr u24, vr u28, vB fw0, vB fw1, vB fw2, vB fw3, vB fw4, vB fb0, vB fb1, vB fb2, vB fb3, vB fb4, vB fb0, vB fl1, vB fl2, vB fl3, vB fl4, vB fb4, vB fr3, vB fr2, vu, vu, vu, vu, vu, vu, vu, vu, vu] [(.int (own_B fr1))]) := by
    by_cases hc155 : (own_B fb1) = (0 : Int32)
    · have pre157 : Pr p e below s₁ E0 T147 (mkF m 455 #[vi i0, vi i1, vi i2, vi i3, vi i4, vi i5, vi (Int32.ofNat nn), vi c4, vi c8, vi c12, vi c16, vi c20, vr u24, vr u28, vB fw0, vB fw1, vB fw2, vB fw3, vB fw4, vB fb0, vB fb1, vB fb2, vB fb3, vB fb4, vB fb0, vB fl1, vB fl2, vB fl3, vB fl4, vB fb4, vB fr3, vB fr2, vu, vu, vu, vu, vu, vu, vu, vu, vu] [(.int (own_B fw1))]) := fun t k => pre153 t (by
        refine XS.ifNo X147.here hx rfl (b at_450) rfl ((if0 _ _).trans (teq hc155).2) ?_
        refine XS.iload X147.here hx rfl (b at_453) rfl ?_
        exact k)
      by_cases hc156 : (own_B fw1) = (0 : Int32)
      · skip
        exact ⟨T147, _, X147, N147, e147, fun t k => pre157 t (by
          refine XS.ifYes X147.here hx rfl (pc0 := 455) (pc' := 467) rfl (b at_455) rfl ((if0 _ _).trans (teq hc156).1) (by decide) (by decide) ?_
          refine XS.iconst X147.here hx rfl (b at_467) ?_
          rw [show own_B fr1 = (0 : Int32) by rw [hfr1, own_Bf hc155, own_Bf hc156]; rfl] at k
          exact k)⟩
      · have pre159 : Pr p e below s₁ E0 T147 (mkF m 460 #[vi i0, vi i1, vi i2, vi i3, vi i4, vi i5, vi (Int32.ofNat nn), vi c4, vi c8, vi c12, vi c16, vi c20, vr u24, vr u28, vB fw0, vB fw1, vB fw2, vB fw3, vB fw4, vB fb0, vB fb1, vB fb2, vB fb3, vB fb4, vB fb0, vB fl1, vB fl2, vB fl3, vB fl4, vB fb4, vB fr3, vB fr2, vu, vu, vu, vu, vu, vu, vu, vu, vu] [(.int (own_B fr2))]) := fun t k => pre157 t (by
          refine XS.ifNo X147.here hx rfl (b at_455) rfl ((if0 _ _).trans (feq hc156).1) ?_
          refine XS.iload X147.here hx rfl (b at_458) rfl ?_
          exact k)
        by_cases hc158 : (own_B fr2) = (0 : Int32)
        · skip
          exact ⟨T147, _, X147, N147, e147, fun t k => pre159 t (by
            refine XS.ifYes X147.here hx rfl (pc0 := 460) (pc' := 467) rfl (b at_460) rfl ((if0 _ _).trans (teq hc158).1) (by decide) (by decide) ?_
            refine XS.iconst X147.here hx rfl (b at_467) ?_
            rw [show own_B fr1 = (0 : Int32) by rw [hfr1, own_Bf hc155, own_Bt hc156, own_Bf hc158]; rfl] at k
            exact k)⟩
        · skip
          exact ⟨T147, _, X147, N147, e147, fun t k => pre159 t (by
            refine XS.ifNo X147.here hx rfl (b at_460) rfl ((if0 _ _).trans (feq hc158).1) ?_
            refine XS.iconst X147.here hx rfl (b at_463) ?_
            refine XS.goto X147.here hx rfl (pc0 := 464) (pc' := 468) rfl (b at_464) (by decide) (by decide) ?_
            rw [show own_B fr1 = (1 : Int32) by rw [hfr1, own_Bf hc155, own_Bt hc156, own_Bt hc158]; rfl] at k
            exact k)⟩
    · skip
      exact ⟨T147, _, X147, N147, e147, fun t k => pre153 t (by
        refine XS.ifYes X147.here hx rfl (pc0 := 450) (pc' := 463) rfl (b at_450) rfl ((if0 _ _).trans (feq hc155).2) (by decide) (by decide) ?_
        refine XS.iconst X147.here hx rfl (b at_463) ?_
        refine XS.goto X147.here hx rfl (pc0 := 464) (pc' := 468) rfl (b at_464) (by decide) (by decide) ?_
        rw [show own_B fr1 = (1 : Int32) by rw [hfr1, own_Bt hc155]; rfl] at k
        exact k)⟩
  have pre160 : Pr p e below s₁ E0 T154 (mkF m 472 #[vi i0, vi i1, vi i2, vi i3, vi i4, vi i5, vi (Int32.ofNat nn), vi c4, vi c8, vi c12, vi c16, vi c20, vr u24, vr u28, vB fw0, vB fw1, vB fw2, vB fw3, vB fw4, vB fb0, vB fb1, vB fb2, vB fb3, vB fb4, vB fb0, vB fl1, vB fl2, vB fl3, vB fl4, vB fb4, vB fr3, vB fr2, vB fr1, vu, vu, vu, vu, vu, vu, vu, vu] [(.int (own_B fb0))]) := fun t k => pre154 t (by
    refine XS.istore X154.here hx rfl (b at_468) rfl (l' := #[vi i0, vi i1, vi i2, vi i3, vi i4, vi i5, vi (Int32.ofNat nn), vi c4, vi c8, vi c12, vi c16, vi c20, vr u24, vr u28, vB fw0, vB fw1, vB fw2, vB fw3, vB fw4, vB fb0, vB fb1, vB fb2, vB fb3, vB fb4, vB fb0, vB fl1, vB fl2, vB fl3, vB fl4, vB fb4, vB fr3, vB fr2, vB fr1, vu, vu, vu, vu, vu, vu, vu, vu]) rfl ?_
    refine XS.iload X154.here hx rfl (b at_470) rfl ?_
    exact k)
  obtain ⟨fr0, hfr0⟩ : ∃ z : Bool, z = (fb0 || (fw0 && fr1)) := ⟨_, rfl⟩
  obtain ⟨T161, LL161, X161, N161, e161, pre161⟩ : ∃ (T : State) (LL : List Loc), Stand p l e room_1 (s.setVm T24.vm) m #[(.int i0), (.int i1), (.int i2), (.int i3), (.int i4), (.int i5)] below meth c T LL (22) (162) ∧ Fr n0 LL ∧ T.heap = T28.heap ∧ Pr p e below s₁ E0 T (mkF m 490 #[vi i0, vi i1, vi i2, vi i3, vi i4, vi i5, vi (Int32.ofNat nn), vi c4, vi c8, vi c12, vi c16, vi c20, vr u24, vr u28, vB fw0, vB fw1, vB fw2, vB fw3, vB fw4, vB fb0, vB fb1, vB fb2, vB fb3, vB fb4, vB fb0, vB fl1, vB fl2, vB fl3, vB fl4, vB fb4, vB fr3, vB fr2, vB fr1, vu, vu, vu, vu, vu, vu, vu, vu] [(.int (own_B fr0))]) := by
    by_cases hc162 : (own_B fb0) = (0 : Int32)
    · have pre164 : Pr p e below s₁ E0 T154 (mkF m 477 #[vi i0, vi i1, vi i2, vi i3, vi i4, vi i5, vi (Int32.ofNat nn), vi c4, vi c8, vi c12, vi c16, vi c20, vr u24, vr u28, vB fw0, vB fw1, vB fw2, vB fw3, vB fw4, vB fb0, vB fb1, vB fb2, vB fb3, vB fb4, vB fb0, vB fl1, vB fl2, vB fl3, vB fl4, vB fb4, vB fr3, vB fr2, vB fr1, vu, vu, vu, vu, vu, vu, vu, vu] [(.int (own_B fw0))]) := fun t k => pre160 t (by
        refine XS.ifNo X154.here hx rfl (b at_472) rfl ((if0 _ _).trans (teq hc162).2) ?_
        refine XS.iload X154.here hx rfl (b at_475) rfl ?_
        exact k)
      by_cases hc163 : (own_B fw0) = (0 : Int32)
      · skip
        exact ⟨T154, _, X154, N154, e154, fun t k => pre164 t (by
          refine XS.ifYes X154.here hx rfl (pc0 := 477) (pc' := 489) rfl (b at_477) rfl ((if0 _ _).trans (teq hc163).1) (by decide) (by decide) ?_
          refine XS.iconst X154.here hx rfl (b at_489) ?_
          rw [show own_B fr0 = (0 : Int32) by rw [hfr0, own_Bf hc162, own_Bf hc163]; rfl] at k
          exact k)⟩
      · have pre166 : Pr p e below s₁ E0 T154 (mkF m 482 #[vi i0, vi i1, vi i2, vi i3, vi i4, vi i5, vi (Int32.ofNat nn), vi c4, vi c8, vi c12, vi c16, vi c20, vr u24, vr u28, vB fw0, vB fw1, vB fw2, vB fw3, vB fw4, vB fb0, vB fb1, vB fb2, vB fb3, vB fb4, vB fb0, vB fl1, vB fl2, vB fl3, vB fl4, vB fb4, vB fr3, vB fr2, vB fr1, vu, vu, vu, vu, vu, vu, vu, vu] [(.int (own_B fr1))]) := fun t k => pre164 t (by
          refine XS.ifNo X154.here hx rfl (b at_477) rfl ((if0 _ _).trans (feq hc163).1) ?_
          refine XS.iload X154.here hx rfl (b at_480) rfl ?_
          exact k)
        by_cases hc165 : (own_B fr1) = (0 : Int32)
        · skip
          exact ⟨T154, _, X154, N154, e154, fun t k => pre166 t (by
            refine XS.ifYes X154.here hx rfl (pc0 := 482) (pc' := 489) rfl (b at_482) rfl ((if0 _ _).trans (teq hc165).1) (by decide) (by decide) ?_
            refine XS.iconst X154.here hx rfl (b at_489) ?_
            rw [show own_B fr0 = (0 : Int32) by rw [hfr0, own_Bf hc162, own_Bt hc163, own_Bf hc165]; rfl] at k
            exact k)⟩
        · skip
          exact ⟨T154, _, X154, N154, e154, fun t k => pre166 t (by
            refine XS.ifNo X154.here hx rfl (b at_482) rfl ((if0 _ _).trans (feq hc165).1) ?_
            refine XS.iconst X154.here hx rfl (b at_485) ?_
            refine XS.goto X154.here hx rfl (pc0 := 486) (pc' := 490) rfl (b at_486) (by decide) (by decide) ?_
            rw [show own_B fr0 = (1 : Int32) by rw [hfr0, own_Bf hc162, own_Bt hc163, own_Bt hc165]; rfl] at k
            exact k)⟩
    · skip
      exact ⟨T154, _, X154, N154, e154, fun t k => pre160 t (by
        refine XS.ifYes X154.here hx rfl (pc0 := 472) (pc' := 485) rfl (b at_472) rfl ((if0 _ _).trans (feq hc162).2) (by decide) (by decide) ?_
        refine XS.iconst X154.here hx rfl (b at_485) ?_
        refine XS.goto X154.here hx rfl (pc0 := 486) (pc' := 490) rfl (b at_486) (by decide) (by decide) ?_
        rw [show own_B fr0 = (1 : Int32) by rw [hfr0, own_Bt hc162]; rfl] at k
        exact k)⟩
  have pre167 : Pr p e below s₁ E0 T161 (mkF m 494 #[vi i0, vi i1, vi i2, vi i3, vi i4, vi i5, vi (Int32.ofNat nn), vi c4, vi c8, vi c12, vi c16, vi c20, vr u24, vr u28, vB fw0, vB fw1, vB fw2, vB fw3, vB fw4, vB fb0, vB fb1, vB fb2, vB fb3, vB fb4, vB fb0, vB fl1, vB fl2, vB fl3, vB fl4, vB fb4, vB fr3, vB fr2, vB fr1, vB fr0, vu, vu, vu, vu, vu, vu, vu] [(.int (own_B fb0))]) := fun t k => pre161 t (by
    refine XS.istore X161.here hx rfl (b at_490) rfl (l' := #[vi i0, vi i1, vi i2, vi i3, vi i4, vi i5, vi (Int32.ofNat nn), vi c4, vi c8, vi c12, vi c16, vi c20, vr u24, vr u28, vB fw0, vB fw1, vB fw2, vB fw3, vB fw4, vB fb0, vB fb1, vB fb2, vB fb3, vB fb4, vB fb0, vB fl1, vB fl2, vB fl3, vB fl4, vB fb4, vB fr3, vB fr2, vB fr1, vB fr0, vu, vu, vu, vu, vu, vu, vu]) rfl ?_
    refine XS.iload X161.here hx rfl (b at_492) rfl ?_
    exact k)
  obtain ⟨fi0, hfi0⟩ : ∃ z : Bool, z = (fb0 || fr0) := ⟨_, rfl⟩
  obtain ⟨T168, LL168, X168, N168, e168, pre168⟩ : ∃ (T : State) (LL : List Loc), Stand p l e room_1 (s.setVm T24.vm) m #[(.int i0), (.int i1), (.int i2), (.int i3), (.int i4), (.int i5)] below meth c T LL (22) (162) ∧ Fr n0 LL ∧ T.heap = T28.heap ∧ Pr p e below s₁ E0 T (mkF m 507 #[vi i0, vi i1, vi i2, vi i3, vi i4, vi i5, vi (Int32.ofNat nn), vi c4, vi c8, vi c12, vi c16, vi c20, vr u24, vr u28, vB fw0, vB fw1, vB fw2, vB fw3, vB fw4, vB fb0, vB fb1, vB fb2, vB fb3, vB fb4, vB fb0, vB fl1, vB fl2, vB fl3, vB fl4, vB fb4, vB fr3, vB fr2, vB fr1, vB fr0, vu, vu, vu, vu, vu, vu, vu] [(.int (own_B fi0))]) := by
    by_cases hc169 : (own_B fb0) = (0 : Int32)
    · have pre171 : Pr p e below s₁ E0 T161 (mkF m 499 #[vi i0, vi i1, vi i2, vi i3, vi i4, vi i5, vi (Int32.ofNat nn), vi c4, vi c8, vi c12, vi c16, vi c20, vr u24, vr u28, vB fw0, vB fw1, vB fw2, vB fw3, vB fw4, vB fb0, vB fb1, vB fb2, vB fb3, vB fb4, vB fb0, vB fl1, vB fl2, vB fl3, vB fl4, vB fb4, vB fr3, vB fr2, vB fr1, vB fr0, vu, vu, vu, vu, vu, vu, vu] [(.int (own_B fr0))]) := fun t k => pre167 t (by
        refine XS.ifNo X161.here hx rfl (b at_494) rfl ((if0 _ _).trans (teq hc169).2) ?_
        refine XS.iload X161.here hx rfl (b at_497) rfl ?_
        exact k)
      by_cases hc170 : (own_B fr0) = (0 : Int32)
      · skip
        exact ⟨T161, _, X161, N161, e161, fun t k => pre171 t (by
          refine XS.ifYes X161.here hx rfl (pc0 := 499) (pc' := 506) rfl (b at_499) rfl ((if0 _ _).trans (teq hc170).1) (by decide) (by decide) ?_
          refine XS.iconst X161.here hx rfl (b at_506) ?_
          rw [show own_B fi0 = (0 : Int32) by rw [hfi0, own_Bf hc169, own_Bf hc170]; rfl] at k
          exact k)⟩
      · skip
        exact ⟨T161, _, X161, N161, e161, fun t k => pre171 t (by
          refine XS.ifNo X161.here hx rfl (b at_499) rfl ((if0 _ _).trans (feq hc170).1) ?_
          refine XS.iconst X161.here hx rfl (b at_502) ?_
          refine XS.goto X161.here hx rfl (pc0 := 503) (pc' := 507) rfl (b at_503) (by decide) (by decide) ?_
          rw [show own_B fi0 = (1 : Int32) by rw [hfi0, own_Bf hc169, own_Bt hc170]; rfl] at k
          exact k)⟩
    · skip
      exact ⟨T161, _, X161, N161, e161, fun t k => pre167 t (by
        refine XS.ifYes X161.here hx rfl (pc0 := 494) (pc' := 502) rfl (b at_494) rfl ((if0 _ _).trans (feq hc169).2) (by decide) (by decide) ?_
        refine XS.iconst X161.here hx rfl (b at_502) ?_
        refine XS.goto X161.here hx rfl (pc0 := 503) (pc' := 507) rfl (b at_503) (by decide) (by decide) ?_
        rw [show own_B fi0 = (1 : Int32) by rw [hfi0, own_Bt hc169]; rfl] at k
        exact k)⟩
  have pre172 : Pr p e below s₁ E0 T168 (mkF m 511 #[vi i0, vi i1, vi i2, vi i3, vi i4, vi i5, vi (Int32.ofNat nn), vi c4, vi c8, vi c12, vi c16, vi c20, vr u24, vr u28, vB fw0, vB fw1, vB fw2, vB fw3, vB fw4, vB fb0, vB fb1, vB fb2, vB fb3, vB fb4, vB fb0, vB fl1, vB fl2, vB fl3, vB fl4, vB fb4, vB fr3, vB fr2, vB fr1, vB fr0, vB fi0, vu, vu, vu, vu, vu, vu] [(.int (own_B fl1))]) := fun t k => pre168 t (by
    refine XS.istore X168.here hx rfl (b at_507) rfl (l' := #[vi i0, vi i1, vi i2, vi i3, vi i4, vi i5, vi (Int32.ofNat nn), vi c4, vi c8, vi c12, vi c16, vi c20, vr u24, vr u28, vB fw0, vB fw1, vB fw2, vB fw3, vB fw4, vB fb0, vB fb1, vB fb2, vB fb3, vB fb4, vB fb0, vB fl1, vB fl2, vB fl3, vB fl4, vB fb4, vB fr3, vB fr2, vB fr1, vB fr0, vB fi0, vu, vu, vu, vu, vu, vu]) rfl ?_
    refine XS.iload X168.here hx rfl (b at_509) rfl ?_
    exact k)
  obtain ⟨fi1, hfi1⟩ : ∃ z : Bool, z = (fl1 || fr1) := ⟨_, rfl⟩
  obtain ⟨T173, LL173, X173, N173, e173, pre173⟩ : ∃ (T : State) (LL : List Loc), Stand p l e room_1 (s.setVm T24.vm) m #[(.int i0), (.int i1), (.int i2), (.int i3), (.int i4), (.int i5)] below meth c T LL (22) (162) ∧ Fr n0 LL ∧ T.heap = T28.heap ∧ Pr p e below s₁ E0 T (mkF m 524 #[vi i0, vi i1, vi i2, vi i3, vi i4, vi i5, vi (Int32.ofNat nn), vi c4, vi c8, vi c12, vi c16, vi c20, vr u24, vr u28, vB fw0, vB fw1, vB fw2, vB fw3, vB fw4, vB fb0, vB fb1, vB fb2, vB fb3, vB fb4, vB fb0, vB fl1, vB fl2, vB fl3, vB fl4, vB fb4, vB fr3, vB fr2, vB fr1, vB fr0, vB fi0, vu, vu, vu, vu, vu, vu] [(.int (own_B fi1))]) := by
    by_cases hc174 : (own_B fl1) = (0 : Int32)
    · have pre176 : Pr p e below s₁ E0 T168 (mkF m 516 #[vi i0, vi i1, vi i2, vi i3, vi i4, vi i5, vi (Int32.ofNat nn), vi c4, vi c8, vi c12, vi c16, vi c20, vr u24, vr u28, vB fw0, vB fw1, vB fw2, vB fw3, vB fw4, vB fb0, vB fb1, vB fb2, vB fb3, vB fb4, vB fb0, vB fl1, vB fl2, vB fl3, vB fl4, vB fb4, vB fr3, vB fr2, vB fr1, vB fr0, vB fi0, vu, vu, vu, vu, vu, vu] [(.int (own_B fr1))]) := fun t k => pre172 t (by
        refine XS.ifNo X168.here hx rfl (b at_511) rfl ((if0 _ _).trans (teq hc174).2) ?_
        refine XS.iload X168.here hx rfl (b at_514) rfl ?_
        exact k)
      by_cases hc175 : (own_B fr1) = (0 : Int32)
      · skip
        exact ⟨T168, _, X168, N168, e168, fun t k => pre176 t (by
          refine XS.ifYes X168.here hx rfl (pc0 := 516) (pc' := 523) rfl (b at_516) rfl ((if0 _ _).trans (teq hc175).1) (by decide) (by decide) ?_
          refine XS.iconst X168.here hx rfl (b at_523) ?_
          rw [show own_B fi1 = (0 : Int32) by rw [hfi1, own_Bf hc174, own_Bf hc175]; rfl] at k
          exact k)⟩
      · skip
        exact ⟨T168, _, X168, N168, e168, fun t k => pre176 t (by
          refine XS.ifNo X168.here hx rfl (b at_516) rfl ((if0 _ _).trans (feq hc175).1) ?_
          refine XS.iconst X168.here hx rfl (b at_519) ?_
          refine XS.goto X168.here hx rfl (pc0 := 520) (pc' := 524) rfl (b at_520) (by decide) (by decide) ?_
          rw [show own_B fi1 = (1 : Int32) by rw [hfi1, own_Bf hc174, own_Bt hc175]; rfl] at k
          exact k)⟩
    · skip
      exact ⟨T168, _, X168, N168, e168, fun t k => pre172 t (by
        refine XS.ifYes X168.here hx rfl (pc0 := 511) (pc' := 519) rfl (b at_511) rfl ((if0 _ _).trans (feq hc174).2) (by decide) (by decide) ?_
        refine XS.iconst X168.here hx rfl (b at_519) ?_
        refine XS.goto X168.here hx rfl (pc0 := 520) (pc' := 524) rfl (b at_520) (by decide) (by decide) ?_
        rw [show own_B fi1 = (1 : Int32) by rw [hfi1, own_Bt hc174]; rfl] at k
        exact k)⟩
  have pre177 : Pr p e below s₁ E0 T173 (mkF m 528 #[vi i0, vi i1, vi i2, vi i3, vi i4, vi i5, vi (Int32.ofNat nn), vi c4, vi c8, vi c12, vi c16, vi c20, vr u24, vr u28, vB fw0, vB fw1, vB fw2, vB fw3, vB fw4, vB fb0, vB fb1, vB fb2, vB fb3, vB fb4, vB fb0, vB fl1, vB fl2, vB fl3, vB fl4, vB fb4, vB fr3, vB fr2, vB fr1, vB fr0, vB fi0, vB fi1, vu, vu, vu, vu, vu] [(.int (own_B fl2))]) := fun t k => pre173 t (by
    refine XS.istore X173.here hx rfl (b at_524) rfl (l' := #[vi i0, vi i1, vi i2, vi i3, vi i4, vi i5, vi (Int32.ofNat nn), vi c4, vi c8, vi c12, vi c16, vi c20, vr u24, vr u28, vB fw0, vB fw1, vB fw2, vB fw3, vB fw4, vB fb0, vB fb1, vB fb2, vB fb3, vB fb4, vB fb0, vB fl1, vB fl2, vB fl3, vB fl4, vB fb4, vB fr3, vB fr2, vB fr1, vB fr0, vB fi0, vB fi1, vu, vu, vu, vu, vu]) rfl ?_
    refine XS.iload X173.here hx rfl (b at_526) rfl ?_
    exact k)
  obtain ⟨fi2, hfi2⟩ : ∃ z : Bool, z = (fl2 || fr2) := ⟨_, rfl⟩
  obtain ⟨T178, LL178, X178, N178, e178, pre178⟩ : ∃ (T : State) (LL : List Loc), Stand p l e room_1 (s.setVm T24.vm) m #[(.int i0), (.int i1), (.int i2), (.int i3), (.int i4), (.int i5)] below meth c T LL (22) (162) ∧ Fr n0 LL ∧ T.heap = T28.heap ∧ Pr p e below s₁ E0 T (mkF m 541 #[vi i0, vi i1, vi i2, vi i3, vi i4, vi i5, vi (Int32.ofNat nn), vi c4, vi c8, vi c12, vi c16, vi c20, vr u24, vr u28, vB fw0, vB fw1, vB fw2, vB fw3, vB fw4, vB fb0, vB fb1, vB fb2, vB fb3, vB fb4, vB fb0, vB fl1, vB fl2, vB fl3, vB fl4, vB fb4, vB fr3, vB fr2, vB fr1, vB fr0, vB fi0, vB fi1, vu, vu, vu, vu, vu] [(.int (own_B fi2))]) := by
    by_cases hc179 : (own_B fl2) = (0 : Int32)
    · have pre181 : Pr p e below s₁ E0 T173 (mkF m 533 #[vi i0, vi i1, vi i2, vi i3, vi i4, vi i5, vi (Int32.ofNat nn), vi c4, vi c8, vi c12, vi c16, vi c20, vr u24, vr u28, vB fw0, vB fw1, vB fw2, vB fw3, vB fw4, vB fb0, vB fb1, vB fb2, vB fb3, vB fb4, vB fb0, vB fl1, vB fl2, vB fl3, vB fl4, vB fb4, vB fr3, vB fr2, vB fr1, vB fr0, vB fi0, vB fi1, vu, vu, vu, vu, vu] [(.int (own_B fr2))]) := fun t k => pre177 t (by
        refine XS.ifNo X173.here hx rfl (b at_528) rfl ((if0 _ _).trans (teq hc179).2) ?_
        refine XS.iload X173.here hx rfl (b at_531) rfl ?_
        exact k)
      by_cases hc180 : (own_B fr2) = (0 : Int32)
      · skip
        exact ⟨T173, _, X173, N173, e173, fun t k => pre181 t (by
          refine XS.ifYes X173.here hx rfl (pc0 := 533) (pc' := 540) rfl (b at_533) rfl ((if0 _ _).trans (teq hc180).1) (by decide) (by decide) ?_
          refine XS.iconst X173.here hx rfl (b at_540) ?_
          rw [show own_B fi2 = (0 : Int32) by rw [hfi2, own_Bf hc179, own_Bf hc180]; rfl] at k
          exact k)⟩
      · skip
        exact ⟨T173, _, X173, N173, e173, fun t k => pre181 t (by
          refine XS.ifNo X173.here hx rfl (b at_533) rfl ((if0 _ _).trans (feq hc180).1) ?_
          refine XS.iconst X173.here hx rfl (b at_536) ?_
          refine XS.goto X173.here hx rfl (pc0 := 537) (pc' := 541) rfl (b at_537) (by decide) (by decide) ?_
          rw [show own_B fi2 = (1 : Int32) by rw [hfi2, own_Bf hc179, own_Bt hc180]; rfl] at k
          exact k)⟩
    · skip
      exact ⟨T173, _, X173, N173, e173, fun t k => pre177 t (by
        refine XS.ifYes X173.here hx rfl (pc0 := 528) (pc' := 536) rfl (b at_528) rfl ((if0 _ _).trans (feq hc179).2) (by decide) (by decide) ?_
        refine XS.iconst X173.here hx rfl (b at_536) ?_
        refine XS.goto X173.here hx rfl (pc0 := 537) (pc' := 541) rfl (b at_537) (by decide) (by decide) ?_
        rw [show own_B fi2 = (1 : Int32) by rw [hfi2, own_Bt hc179]; rfl] at k
        exact k)⟩
  have pre182 : Pr p e below s₁ E0 T178 (mkF m 545 #[vi i0, vi i1, vi i2, vi i3, vi i4, vi i5, vi (Int32.ofNat nn), vi c4, vi c8, vi c12, vi c16, vi c20, vr u24, vr u28, vB fw0, vB fw1, vB fw2, vB fw3, vB fw4, vB fb0, vB fb1, vB fb2, vB fb3, vB fb4, vB fb0, vB fl1, vB fl2, vB fl3, vB fl4, vB fb4, vB fr3, vB fr2, vB fr1, vB fr0, vB fi0, vB fi1, vB fi2, vu, vu, vu, vu] [(.int (own_B fl3))]) := fun t k => pre178 t (by
    refine XS.istore X178.here hx rfl (b at_541) rfl (l' := #[vi i0, vi i1, vi i2, vi i3, vi i4, vi i5, vi (Int32.ofNat nn), vi c4, vi c8, vi c12, vi c16, vi c20, vr u24, vr u28, vB fw0, vB fw1, vB fw2, vB fw3, vB fw4, vB fb0, vB fb1, vB fb2, vB fb3, vB fb4, vB fb0, vB fl1, vB fl2, vB fl3, vB fl4, vB fb4, vB fr3, vB fr2, vB fr1, vB fr0, vB fi0, vB fi1, vB fi2, vu, vu, vu, vu]) rfl ?_
    refine XS.iload X178.here hx rfl (b at_543) rfl ?_
    exact k)
  obtain ⟨fi3, hfi3⟩ : ∃ z : Bool, z = (fl3 || fr3) := ⟨_, rfl⟩
  obtain ⟨T183, LL183, X183, N183, e183, pre183⟩ : ∃ (T : State) (LL : List Loc), Stand p l e room_1 (s.setVm T24.vm) m #[(.int i0), (.int i1), (.int i2), (.int i3), (.int i4), (.int i5)] below meth c T LL (22) (162) ∧ Fr n0 LL ∧ T.heap = T28.heap ∧ Pr p e below s₁ E0 T (mkF m 558 #[vi i0, vi i1, vi i2, vi i3, vi i4, vi i5, vi (Int32.ofNat nn), vi c4, vi c8, vi c12, vi c16, vi c20, vr u24, vr u28, vB fw0, vB fw1, vB fw2, vB fw3, vB fw4, vB fb0, vB fb1, vB fb2, vB fb3, vB fb4, vB fb0, vB fl1, vB fl2, vB fl3, vB fl4, vB fb4, vB fr3, vB fr2, vB fr1, vB fr0, vB fi0, vB fi1, vB fi2, vu, vu, vu, vu] [(.int (own_B fi3))]) := by
    by_cases hc184 : (own_B fl3) = (0 : Int32)
    · have pre186 : Pr p e below s₁ E0 T178 (mkF m 550 #[vi i0, vi i1, vi i2, vi i3, vi i4, vi i5, vi (Int32.ofNat nn), vi c4, vi c8, vi c12, vi c16, vi c20, vr u24, vr u28, vB fw0, vB fw1, vB fw2, vB fw3, vB fw4, vB fb0, vB fb1, vB fb2, vB fb3, vB fb4, vB fb0, vB fl1, vB fl2, vB fl3, vB fl4, vB fb4, vB fr3, vB fr2, vB fr1, vB fr0, vB fi0, vB fi1, vB fi2, vu, vu, vu, vu] [(.int (own_B fr3))]) := fun t k => pre182 t (by
        refine XS.ifNo X178.here hx rfl (b at_545) rfl ((if0 _ _).trans (teq hc184).2) ?_
        refine XS.iload X178.here hx rfl (b at_548) rfl ?_
        exact k)
      by_cases hc185 : (own_B fr3) = (0 : Int32)
      · skip
        exact ⟨T178, _, X178, N178, e178, fun t k => pre186 t (by
          refine XS.ifYes X178.here hx rfl (pc0 := 550) (pc' := 557) rfl (b at_550) rfl ((if0 _ _).trans (teq hc185).1) (by decide) (by decide) ?_
          refine XS.iconst X178.here hx rfl (b at_557) ?_
          rw [show own_B fi3 = (0 : Int32) by rw [hfi3, own_Bf hc184, own_Bf hc185]; rfl] at k
          exact k)⟩
      · skip
        exact ⟨T178, _, X178, N178, e178, fun t k => pre186 t (by
          refine XS.ifNo X178.here hx rfl (b at_550) rfl ((if0 _ _).trans (feq hc185).1) ?_
          refine XS.iconst X178.here hx rfl (b at_553) ?_
          refine XS.goto X178.here hx rfl (pc0 := 554) (pc' := 558) rfl (b at_554) (by decide) (by decide) ?_
          rw [show own_B fi3 = (1 : Int32) by rw [hfi3, own_Bf hc184, own_Bt hc185]; rfl] at k
          exact k)⟩
    · skip
      exact ⟨T178, _, X178, N178, e178, fun t k => pre182 t (by
        refine XS.ifYes X178.here hx rfl (pc0 := 545) (pc' := 553) rfl (b at_545) rfl ((if0 _ _).trans (feq hc184).2) (by decide) (by decide) ?_
        refine XS.iconst X178.here hx rfl (b at_553) ?_
        refine XS.goto X178.here hx rfl (pc0 := 554) (pc' := 558) rfl (b at_554) (by decide) (by decide) ?_
        rw [show own_B fi3 = (1 : Int32) by rw [hfi3, own_Bt hc184]; rfl] at k
        exact k)⟩
  have pre187 : Pr p e below s₁ E0 T183 (mkF m 562 #[vi i0, vi i1, vi i2, vi i3, vi i4, vi i5, vi (Int32.ofNat nn), vi c4, vi c8, vi c12, vi c16, vi c20, vr u24, vr u28, vB fw0, vB fw1, vB fw2, vB fw3, vB fw4, vB fb0, vB fb1, vB fb2, vB fb3, vB fb4, vB fb0, vB fl1, vB fl2, vB fl3, vB fl4, vB fb4, vB fr3, vB fr2, vB fr1, vB fr0, vB fi0, vB fi1, vB fi2, vB fi3, vu, vu, vu] [(.int (own_B fl4))]) := fun t k => pre183 t (by
    refine XS.istore X183.here hx rfl (b at_558) rfl (l' := #[vi i0, vi i1, vi i2, vi i3, vi i4, vi i5, vi (Int32.ofNat nn), vi c4, vi c8, vi c12, vi c16, vi c20, vr u24, vr u28, vB fw0, vB fw1, vB fw2, vB fw3, vB fw4, vB fb0, vB fb1, vB fb2, vB fb3, vB fb4, vB fb0, vB fl1, vB fl2, vB fl3, vB fl4, vB fb4, vB fr3, vB fr2, vB fr1, vB fr0, vB fi0, vB fi1, vB fi2, vB fi3, vu, vu, vu]) rfl ?_
    refine XS.iload X183.here hx rfl (b at_560) rfl ?_
    exact k)
  obtain ⟨fi4, hfi4⟩ : ∃ z : Bool, z = (fl4 || fb4) := ⟨_, rfl⟩
  obtain ⟨T188, LL188, X188, N188, e188, pre188⟩ : ∃ (T : State) (LL : List Loc), Stand p l e room_1 (s.setVm T24.vm) m #[(.int i0), (.int i1), (.int i2), (.int i3), (.int i4), (.int i5)] below meth c T LL (22) (162) ∧ Fr n0 LL ∧ T.heap = T28.heap ∧ Pr p e below s₁ E0 T (mkF m 575 #[vi i0, vi i1, vi i2, vi i3, vi i4, vi i5, vi (Int32.ofNat nn), vi c4, vi c8, vi c12, vi c16, vi c20, vr u24, vr u28, vB fw0, vB fw1, vB fw2, vB fw3, vB fw4, vB fb0, vB fb1, vB fb2, vB fb3, vB fb4, vB fb0, vB fl1, vB fl2, vB fl3, vB fl4, vB fb4, vB fr3, vB fr2, vB fr1, vB fr0, vB fi0, vB fi1, vB fi2, vB fi3, vu, vu, vu] [(.int (own_B fi4))]) := by
    by_cases hc189 : (own_B fl4) = (0 : Int32)
    · have pre191 : Pr p e below s₁ E0 T183 (mkF m 567 #[vi i0, vi i1, vi i2, vi i3, vi i4, vi i5, vi (Int32.ofNat nn), vi c4, vi c8, vi c12, vi c16, vi c20, vr u24, vr u28, vB fw0, vB fw1, vB fw2, vB fw3, vB fw4, vB fb0, vB fb1, vB fb2, vB fb3, vB fb4, vB fb0, vB fl1, vB fl2, vB fl3, vB fl4, vB fb4, vB fr3, vB fr2, vB fr1, vB fr0, vB fi0, vB fi1, vB fi2, vB fi3, vu, vu, vu] [(.int (own_B fb4))]) := fun t k => pre187 t (by
        refine XS.ifNo X183.here hx rfl (b at_562) rfl ((if0 _ _).trans (teq hc189).2) ?_
        refine XS.iload X183.here hx rfl (b at_565) rfl ?_
        exact k)
      by_cases hc190 : (own_B fb4) = (0 : Int32)
      · skip
        exact ⟨T183, _, X183, N183, e183, fun t k => pre191 t (by
          refine XS.ifYes X183.here hx rfl (pc0 := 567) (pc' := 574) rfl (b at_567) rfl ((if0 _ _).trans (teq hc190).1) (by decide) (by decide) ?_
          refine XS.iconst X183.here hx rfl (b at_574) ?_
          rw [show own_B fi4 = (0 : Int32) by rw [hfi4, own_Bf hc189, own_Bf hc190]; rfl] at k
          exact k)⟩
      · skip
        exact ⟨T183, _, X183, N183, e183, fun t k => pre191 t (by
          refine XS.ifNo X183.here hx rfl (b at_567) rfl ((if0 _ _).trans (feq hc190).1) ?_
          refine XS.iconst X183.here hx rfl (b at_570) ?_
          refine XS.goto X183.here hx rfl (pc0 := 571) (pc' := 575) rfl (b at_571) (by decide) (by decide) ?_
          rw [show own_B fi4 = (1 : Int32) by rw [hfi4, own_Bf hc189, own_Bt hc190]; rfl] at k
          exact k)⟩
    · skip
      exact ⟨T183, _, X183, N183, e183, fun t k => pre187 t (by
        refine XS.ifYes X183.here hx rfl (pc0 := 562) (pc' := 570) rfl (b at_562) rfl ((if0 _ _).trans (feq hc189).2) (by decide) (by decide) ?_
        refine XS.iconst X183.here hx rfl (b at_570) ?_
        refine XS.goto X183.here hx rfl (pc0 := 571) (pc' := 575) rfl (b at_571) (by decide) (by decide) ?_
        rw [show own_B fi4 = (1 : Int32) by rw [hfi4, own_Bt hc189]; rfl] at k
        exact k)⟩
  obtain ⟨T192, h192, k192, X192, e192, E192, A192, Ex192, st192⟩ := newPE X188 hx hZ (w 5 rfl) e188 (g := (mkF m 578 #[vi i0, vi i1, vi i2, vi i3, vi i4, vi i5, vi (Int32.ofNat nn), vi c4, vi c8, vi c12, vi c16, vi c20, vr u24, vr u28, vB fw0, vB fw1, vB fw2, vB fw3, vB fw4, vB fb0, vB fb1, vB fb2, vB fb3, vB fb4, vB fb0, vB fl1, vB fl2, vB fl3, vB fl4, vB fb4, vB fr3, vB fr2, vB fr1, vB fr0, vB fi0, vB fi1, vB fi2, vB fi3, vB fi4, vu, vu] [(.int (5 : Int32))])) rfl (b at_578) (n := (Int32.ofNat 5)) rfl (own_nn (by omega)) (cap := 5) (by rw [own_nc (by omega)]; omega) (by decide) (by decide) (by decide) (ad := "[C") (by decide)
  obtain ⟨b192, g192⟩ : ∃ z, z = T28.heap.size := ⟨_, rfl⟩
  rw [← g192] at A192 Ex192 st192
  have ne_u24_b192 : u24 ≠ b192 := Nat.ne_of_lt (Nat.lt_of_lt_of_le u30_1.lt (Nat.le_of_eq g192.symm))
  have ne_t24_b192 : t24 ≠ b192 := Nat.ne_of_lt (Nat.lt_of_lt_of_le u30_1.ltt (Nat.le_of_eq g192.symm))
  have ne_u28_b192 : u28 ≠ b192 := Nat.ne_of_lt (Nat.lt_of_lt_of_le Uq28.lt (Nat.le_of_eq g192.symm))
  have ne_t28_b192 : t28 ≠ b192 := Nat.ne_of_lt (Nat.lt_of_lt_of_le Uq28.ltt (Nat.le_of_eq g192.symm))
  have g_b192 : n0 ≤ b192 := Nat.le_trans Z28 (Nat.le_of_eq g192.symm)
  have sn_b192 := Safe.ext E192 hC29 (Safe.new (Nat.le_of_eq g192.symm))
  have hr193 := CHr.ext E192 hC29
  have hA193 := hA29.trans hr193
  have hC193 := hr193.1
  have hk193 := Nat.le_trans hk29 hr193.2.1
  have od193 := od29.ext E192
  have u194_1 := u30_1.ext E192
  have u194_2 := Uq28.ext E192
  have Z192 : n0 ≤ h192.size := Nat.le_trans Z28 E192.1
  have Y192 : Ay Z h192 b192 .char 5 (fun _ => 0) := Ay.new (by omega) A192 rfl
  have pre196 : Pr p e below s₁ E0 T192 (mkF m 587 #[vi i0, vi i1, vi i2, vi i3, vi i4, vi i5, vi (Int32.ofNat nn), vi c4, vi c8, vi c12, vi c16, vi c20, vr u24, vr u28, vB fw0, vB fw1, vB fw2, vB fw3, vB fw4, vB fb0, vB fb1, vB fb2, vB fb3, vB fb4, vB fb0, vB fl1, vB fl2, vB fl3, vB fl4, vB fb4, vB fr3, vB fr2, vB fr1, vB fr0, vB fi0, vB fi1, vB fi2, vB fi3, vB fi4, vr b192, vi (0 : Int32)] [(.int (Int32.ofNat nn))]) := fun t k => pre188 t (by
    refine XS.istore X188.here hx rfl (b at_575) rfl (l' := #[vi i0, vi i1, vi i2, vi i3, vi i4, vi i5, vi (Int32.ofNat nn), vi c4, vi c8, vi c12, vi c16, vi c20, vr u24, vr u28, vB fw0, vB fw1, vB fw2, vB fw3, vB fw4, vB fb0, vB fb1, vB fb2, vB fb3, vB fb4, vB fb0, vB fl1, vB fl2, vB fl3, vB fl4, vB fb4, vB fr3, vB fr2, vB fr1, vB fr0, vB fi0, vB fi1, vB fi2, vB fi3, vB fi4, vu, vu]) rfl ?_
    refine XS.iconst X188.here hx rfl (b at_577) ?_
    refine st192 _ ?_
    show Sp p e below T192 (mkF m 580 #[vi i0, vi i1, vi i2, vi i3, vi i4, vi i5, vi (Int32.ofNat nn), vi c4, vi c8, vi c12, vi c16, vi c20, vr u24, vr u28, vB fw0, vB fw1, vB fw2, vB fw3, vB fw4, vB fb0, vB fb1, vB fb2, vB fb3, vB fb4, vB fb0, vB fl1, vB fl2, vB fl3, vB fl4, vB fb4, vB fr3, vB fr2, vB fr1, vB fr0, vB fi0, vB fi1, vB fi2, vB fi3, vB fi4, vu, vu] [(.ref b192)]) t
    refine XS.astore X192.here hx rfl (b at_580) rfl rfl (l' := #[vi i0, vi i1, vi i2, vi i3, vi i4, vi i5, vi (Int32.ofNat nn), vi c4, vi c8, vi c12, vi c16, vi c20, vr u24, vr u28, vB fw0, vB fw1, vB fw2, vB fw3, vB fw4, vB fb0, vB fb1, vB fb2, vB fb3, vB fb4, vB fb0, vB fl1, vB fl2, vB fl3, vB fl4, vB fb4, vB fr3, vB fr2, vB fr1, vB fr0, vB fi0, vB fi1, vB fi2, vB fi3, vB fi4, vr b192, vu]) rfl ?_
    refine XS.iconst X192.here hx rfl (b at_582) ?_
    refine XS.istore X192.here hx rfl (b at_583) rfl (l' := #[vi i0, vi i1, vi i2, vi i3, vi i4, vi i5, vi (Int32.ofNat nn), vi c4, vi c8, vi c12, vi c16, vi c20, vr u24, vr u28, vB fw0, vB fw1, vB fw2, vB fw3, vB fw4, vB fb0, vB fb1, vB fb2, vB fb3, vB fb4, vB fb0, vB fl1, vB fl2, vB fl3, vB fl4, vB fb4, vB fr3, vB fr2, vB fr1, vB fr0, vB fi0, vB fi1, vB fi2, vB fi3, vB fi4, vr b192, vi (0 : Int32)]) rfl ?_
    refine XS.iload X192.here hx rfl (b at_585) rfl ?_
    exact k)
  by_cases hc195 : 0 < nn
  · have pre197 : Pr p e below s₁ E0 T192 (mkF m 599 #[vi i0, vi i1, vi i2, vi i3, vi i4, vi i5, vi (Int32.ofNat nn), vi c4, vi c8, vi c12, vi c16, vi c20, vr u24, vr u28, vB fw0, vB fw1, vB fw2, vB fw3, vB fw4, vB fb0, vB fb1, vB fb2, vB fb3, vB fb4, vB fb0, vB fl1, vB fl2, vB fl3, vB fl4, vB fb4, vB fr3, vB fr2, vB fr1, vB fr0, vB fi0, vB fi1, vB fi2, vB fi3, vB fi4, vr b192, vi (0 : Int32)] [(.int c4), (.int (0 : Int32)), (.int (own_B fi0)), (.int (0 : Int32)), (.ref b192)]) := fun t k => pre196 t (by
      refine XS.ifNo X192.here hx rfl (b at_587) rfl ((if0 _ _).trans (tlt (own_ltT (a := 0) (b := nn) hc195 (by omega))).2.2.2) ?_
      refine XS.aload X192.here hx rfl (b at_590) rfl rfl ?_
      refine XS.iload X192.here hx rfl (b at_592) rfl ?_
      refine XS.iload X192.here hx rfl (b at_594) rfl ?_
      refine XS.iconst X192.here hx rfl (b at_596) ?_
      refine XS.iload X192.here hx rfl (b at_597) rfl ?_
      exact k)
    obtain ⟨_, T198, L198, X198, hQ198, st198⟩ := own_cS X192 hx hml hZ hown (rm_put l Z a0 hw b192 c4 ([] : List Int32) fi0 false (fun _ => 0) h192 n0 Z192 Y192 g_b192 (by decide) (fun j hj => absurd hj (Nat.not_lt_zero _)) hc4) (w 80 rfl) (w 81 rfl) (w 3 rfl) (w 82 rfl) e192 (g := (mkF m 599 #[vi i0, vi i1, vi i2, vi i3, vi i4, vi i5, vi (Int32.ofNat nn), vi c4, vi c8, vi c12, vi c16, vi c20, vr u24, vr u28, vB fw0, vB fw1, vB fw2, vB fw3, vB fw4, vB fb0, vB fb1, vB fb2, vB fb3, vB fb4, vB fb0, vB fl1, vB fl2, vB fl3, vB fl4, vB fb4, vB fr3, vB fr2, vB fr1, vB fr0, vB fi0, vB fi1, vB fi2, vB fi3, vB fi4, vr b192, vi (0 : Int32)] [(.int c4), (.int (0 : Int32)), (.int (own_B fi0)), (.int (0 : Int32)), (.ref b192)])) (argsL := [(.ref b192), (.int (0 : Int32)), (.int (own_B fi0)), (.int (0 : Int32)), (.int c4)]) (rest := []) (W := 0) (lenOf own_pd47 rfl) (b at_599)
    obtain ⟨ou198, g198, ho198, rfl, Nq198, Kq198, Yq198, hl198, hf198⟩ := hQ198
    have N198 := Fr.app N188 Nq198
    have sf199_b192 := Safe.keep Kq198 (allS sn_b192 all0) hC193 sn_b192
    have hr199 := CHr.keep Kq198 (allS sn_b192 all0) hC193
    have hA199 := hA193.trans hr199
    have hC199 := hr199.1
    have hk199 := Nat.le_trans hk193 hr199.2.1
    have od199 := od193.keep Kq198 (allS g_b192 all0)
    have f199_2 := Ex192.keep Kq198
    have u200_1 := u194_1.keep Kq198 (ninS ne_u24_b192 nin0) (ninS ne_t24_b192 nin0)
    have u200_2 := u194_2.keep Kq198 (ninS ne_u28_b192 nin0) (ninS ne_t28_b192 nin0)
    have Z198 : n0 ≤ T198.heap.size := Nat.le_trans Z192 Kq198.1
    have hl198 : ou198.length ≤ 0 + 1 := hl198
    have pre202 : Pr p e below s₁ E0 T198 (mkF m 607 #[vi i0, vi i1, vi i2, vi i3, vi i4, vi i5, vi (Int32.ofNat nn), vi c4, vi c8, vi c12, vi c16, vi c20, vr u24, vr u28, vB fw0, vB fw1, vB fw2, vB fw3, vB fw4, vB fb0, vB fb1, vB fb2, vB fb3, vB fb4, vB fb0, vB fl1, vB fl2, vB fl3, vB fl4, vB fb4, vB fr3, vB fr2, vB fr1, vB fr0, vB fi0, vB fi1, vB fi2, vB fi3, vB fi4, vr b192, vi (Int32.ofNat ou198.length)] [(.int (1 : Int32)), (.int (Int32.ofNat nn))]) := fun t k => pre197 t (by
      refine st198 _ ?_
      show Sp p e below T198 (mkF m 602 #[vi i0, vi i1, vi i2, vi i3, vi i4, vi i5, vi (Int32.ofNat nn), vi c4, vi c8, vi c12, vi c16, vi c20, vr u24, vr u28, vB fw0, vB fw1, vB fw2, vB fw3, vB fw4, vB fb0, vB fb1, vB fb2, vB fb3, vB fb4, vB fb0, vB fl1, vB fl2, vB fl3, vB fl4, vB fb4, vB fr3, vB fr2, vB fr1, vB fr0, vB fi0, vB fi1, vB fi2, vB fi3, vB fi4, vr b192, vi (0 : Int32)] [(.int (Int32.ofNat ou198.length))]) t
      refine XS.istore X198.here hx rfl (b at_602) rfl (l' := #[vi i0, vi i1, vi i2, vi i3, vi i4, vi i5, vi (Int32.ofNat nn), vi c4, vi c8, vi c12, vi c16, vi c20, vr u24, vr u28, vB fw0, vB fw1, vB fw2, vB fw3, vB fw4, vB fb0, vB fb1, vB fb2, vB fb3, vB fb4, vB fb0, vB fl1, vB fl2, vB fl3, vB fl4, vB fb4, vB fr3, vB fr2, vB fr1, vB fr0, vB fi0, vB fi1, vB fi2, vB fi3, vB fi4, vr b192, vi (Int32.ofNat ou198.length)]) rfl ?_
      refine XS.iload X198.here hx rfl (b at_604) rfl ?_
      refine XS.iconst X198.here hx rfl (b at_606) ?_
      exact k)
    by_cases hc201 : 1 < nn
    · have pre203 : Pr p e below s₁ E0 T198 (mkF m 620 #[vi i0, vi i1, vi i2, vi i3, vi i4, vi i5, vi (Int32.ofNat nn), vi c4, vi c8, vi c12, vi c16, vi c20, vr u24, vr u28, vB fw0, vB fw1, vB fw2, vB fw3, vB fw4, vB fb0, vB fb1, vB fb2, vB fb3, vB fb4, vB fb0, vB fl1, vB fl2, vB fl3, vB fl4, vB fb4, vB fr3, vB fr2, vB fr1, vB fr0, vB fi0, vB fi1, vB fi2, vB fi3, vB fi4, vr b192, vi (Int32.ofNat ou198.length)] [(.int c8), (.int (own_B fi0)), (.int (own_B fi1)), (.int (Int32.ofNat ou198.length)), (.ref b192)]) := fun t k => pre202 t (by
        refine XS.icmpNo X198.here hx rfl (b at_607) rfl (tlt (own_ltT (a := 1) (b := nn) hc201 (by omega))).2.2.2 ?_
        refine XS.aload X198.here hx rfl (b at_610) rfl rfl ?_
        refine XS.iload X198.here hx rfl (b at_612) rfl ?_
        refine XS.iload X198.here hx rfl (b at_614) rfl ?_
        refine XS.iload X198.here hx rfl (b at_616) rfl ?_
        refine XS.iload X198.here hx rfl (b at_618) rfl ?_
        exact k)
      obtain ⟨_, T204, L204, X204, hQ204, st204⟩ := own_cS X198 hx hml hZ hown (rm_put l Z a0 hw b192 c8 ou198 fi1 fi0 g198 T198.heap n0 Z198 Yq198 g_b192 (by omega) hf198 hc8) (w 80 rfl) (w 81 rfl) (w 3 rfl) (w 82 rfl) rfl (g := (mkF m 620 #[vi i0, vi i1, vi i2, vi i3, vi i4, vi i5, vi (Int32.ofNat nn), vi c4, vi c8, vi c12, vi c16, vi c20, vr u24, vr u28, vB fw0, vB fw1, vB fw2, vB fw3, vB fw4, vB fb0, vB fb1, vB fb2, vB fb3, vB fb4, vB fb0, vB fl1, vB fl2, vB fl3, vB fl4, vB fb4, vB fr3, vB fr2, vB fr1, vB fr0, vB fi0, vB fi1, vB fi2, vB fi3, vB fi4, vr b192, vi (Int32.ofNat ou198.length)] [(.int c8), (.int (own_B fi0)), (.int (own_B fi1)), (.int (Int32.ofNat ou198.length)), (.ref b192)])) (argsL := [(.ref b192), (.int (Int32.ofNat ou198.length)), (.int (own_B fi1)), (.int (own_B fi0)), (.int c8)]) (rest := []) (W := 0) (lenOf own_pd47 rfl) (b at_620)
      obtain ⟨ou204, g204, ho204, rfl, Nq204, Kq204, Yq204, hl204, hf204⟩ := hQ204
      have N204 := Fr.app N198 Nq204
      have sf205_b192 := Safe.keep Kq204 (allS sf199_b192 all0) hC199 sf199_b192
      have hr205 := CHr.keep Kq204 (allS sf199_b192 all0) hC199
      have hA205 := hA199.trans hr205
      have hC205 := hr205.1
      have hk205 := Nat.le_trans hk199 hr205.2.1
      have od205 := od199.keep Kq204 (allS g_b192 all0)
      have f205_1 := f199_2.keep Kq204
      have u206_1 := u200_1.keep Kq204 (ninS ne_u24_b192 nin0) (ninS ne_t24_b192 nin0)
      have u206_2 := u200_2.keep Kq204 (ninS ne_u28_b192 nin0) (ninS ne_t28_b192 nin0)
      have Z204 : n0 ≤ T204.heap.size := Nat.le_trans Z198 Kq204.1
      have pre208 : Pr p e below s₁ E0 T204 (mkF m 628 #[vi i0, vi i1, vi i2, vi i3, vi i4, vi i5, vi (Int32.ofNat nn), vi c4, vi c8, vi c12, vi c16, vi c20, vr u24, vr u28, vB fw0, vB fw1, vB fw2, vB fw3, vB fw4, vB fb0, vB fb1, vB fb2, vB fb3, vB fb4, vB fb0, vB fl1, vB fl2, vB fl3, vB fl4, vB fb4, vB fr3, vB fr2, vB fr1, vB fr0, vB fi0, vB fi1, vB fi2, vB fi3, vB fi4, vr b192, vi (Int32.ofNat ou204.length)] [(.int (2 : Int32)), (.int (Int32.ofNat nn))]) := fun t k => pre203 t (by
        refine st204 _ ?_
        show Sp p e below T204 (mkF m 623 #[vi i0, vi i1, vi i2, vi i3, vi i4, vi i5, vi (Int32.ofNat nn), vi c4, vi c8, vi c12, vi c16, vi c20, vr u24, vr u28, vB fw0, vB fw1, vB fw2, vB fw3, vB fw4, vB fb0, vB fb1, vB fb2, vB fb3, vB fb4, vB fb0, vB fl1, vB fl2, vB fl3, vB fl4, vB fb4, vB fr3, vB fr2, vB fr1, vB fr0, vB fi0, vB fi1, vB fi2, vB fi3, vB fi4, vr b192, vi (Int32.ofNat ou198.length)] [(.int (Int32.ofNat ou204.length))]) t
        refine XS.istore X204.here hx rfl (b at_623) rfl (l' := #[vi i0, vi i1, vi i2, vi i3, vi i4, vi i5, vi (Int32.ofNat nn), vi c4, vi c8, vi c12, vi c16, vi c20, vr u24, vr u28, vB fw0, vB fw1, vB fw2, vB fw3, vB fw4, vB fb0, vB fb1, vB fb2, vB fb3, vB fb4, vB fb0, vB fl1, vB fl2, vB fl3, vB fl4, vB fb4, vB fr3, vB fr2, vB fr1, vB fr0, vB fi0, vB fi1, vB fi2, vB fi3, vB fi4, vr b192, vi (Int32.ofNat ou204.length)]) rfl ?_
        refine XS.iload X204.here hx rfl (b at_625) rfl ?_
        refine XS.iconst X204.here hx rfl (b at_627) ?_
        exact k)
      by_cases hc207 : 2 < nn
      · have pre209 : Pr p e below s₁ E0 T204 (mkF m 641 #[vi i0, vi i1, vi i2, vi i3, vi i4, vi i5, vi (Int32.ofNat nn), vi c4, vi c8, vi c12, vi c16, vi c20, vr u24, vr u28, vB fw0, vB fw1, vB fw2, vB fw3, vB fw4, vB fb0, vB fb1, vB fb2, vB fb3, vB fb4, vB fb0, vB fl1, vB fl2, vB fl3, vB fl4, vB fb4, vB fr3, vB fr2, vB fr1, vB fr0, vB fi0, vB fi1, vB fi2, vB fi3, vB fi4, vr b192, vi (Int32.ofNat ou204.length)] [(.int c12), (.int (own_B fi1)), (.int (own_B fi2)), (.int (Int32.ofNat ou204.length)), (.ref b192)]) := fun t k => pre208 t (by
          refine XS.icmpNo X204.here hx rfl (b at_628) rfl (tlt (own_ltT (a := 2) (b := nn) hc207 (by omega))).2.2.2 ?_
          refine XS.aload X204.here hx rfl (b at_631) rfl rfl ?_
          refine XS.iload X204.here hx rfl (b at_633) rfl ?_
          refine XS.iload X204.here hx rfl (b at_635) rfl ?_
          refine XS.iload X204.here hx rfl (b at_637) rfl ?_
          refine XS.iload X204.here hx rfl (b at_639) rfl ?_
          exact k)
        obtain ⟨_, T210, L210, X210, hQ210, st210⟩ := own_cS X204 hx hml hZ hown (rm_put l Z a0 hw b192 c12 ou204 fi2 fi1 g204 T204.heap n0 Z204 Yq204 g_b192 (by omega) hf204 hc12) (w 80 rfl) (w 81 rfl) (w 3 rfl) (w 82 rfl) rfl (g := (mkF m 641 #[vi i0, vi i1, vi i2, vi i3, vi i4, vi i5, vi (Int32.ofNat nn), vi c4, vi c8, vi c12, vi c16, vi c20, vr u24, vr u28, vB fw0, vB fw1, vB fw2, vB fw3, vB fw4, vB fb0, vB fb1, vB fb2, vB fb3, vB fb4, vB fb0, vB fl1, vB fl2, vB fl3, vB fl4, vB fb4, vB fr3, vB fr2, vB fr1, vB fr0, vB fi0, vB fi1, vB fi2, vB fi3, vB fi4, vr b192, vi (Int32.ofNat ou204.length)] [(.int c12), (.int (own_B fi1)), (.int (own_B fi2)), (.int (Int32.ofNat ou204.length)), (.ref b192)])) (argsL := [(.ref b192), (.int (Int32.ofNat ou204.length)), (.int (own_B fi2)), (.int (own_B fi1)), (.int c12)]) (rest := []) (W := 0) (lenOf own_pd47 rfl) (b at_641)
        obtain ⟨ou210, g210, ho210, rfl, Nq210, Kq210, Yq210, hl210, hf210⟩ := hQ210
        have N210 := Fr.app N204 Nq210
        have sf211_b192 := Safe.keep Kq210 (allS sf205_b192 all0) hC205 sf205_b192
        have hr211 := CHr.keep Kq210 (allS sf205_b192 all0) hC205
        have hA211 := hA205.trans hr211
        have hC211 := hr211.1
        have hk211 := Nat.le_trans hk205 hr211.2.1
        have od211 := od205.keep Kq210 (allS g_b192 all0)
        have f211_1 := f205_1.keep Kq210
        have u212_1 := u206_1.keep Kq210 (ninS ne_u24_b192 nin0) (ninS ne_t24_b192 nin0)
        have u212_2 := u206_2.keep Kq210 (ninS ne_u28_b192 nin0) (ninS ne_t28_b192 nin0)
        have Z210 : n0 ≤ T210.heap.size := Nat.le_trans Z204 Kq210.1
        have pre214 : Pr p e below s₁ E0 T210 (mkF m 649 #[vi i0, vi i1, vi i2, vi i3, vi i4, vi i5, vi (Int32.ofNat nn), vi c4, vi c8, vi c12, vi c16, vi c20, vr u24, vr u28, vB fw0, vB fw1, vB fw2, vB fw3, vB fw4, vB fb0, vB fb1, vB fb2, vB fb3, vB fb4, vB fb0, vB fl1, vB fl2, vB fl3, vB fl4, vB fb4, vB fr3, vB fr2, vB fr1, vB fr0, vB fi0, vB fi1, vB fi2, vB fi3, vB fi4, vr b192, vi (Int32.ofNat ou210.length)] [(.int (3 : Int32)), (.int (Int32.ofNat nn))]) := fun t k => pre209 t (by
          refine st210 _ ?_
          show Sp p e below T210 (mkF m 644 #[vi i0, vi i1, vi i2, vi i3, vi i4, vi i5, vi (Int32.ofNat nn), vi c4, vi c8, vi c12, vi c16, vi c20, vr u24, vr u28, vB fw0, vB fw1, vB fw2, vB fw3, vB fw4, vB fb0, vB fb1, vB fb2, vB fb3, vB fb4, vB fb0, vB fl1, vB fl2, vB fl3, vB fl4, vB fb4, vB fr3, vB fr2, vB fr1, vB fr0, vB fi0, vB fi1, vB fi2, vB fi3, vB fi4, vr b192, vi (Int32.ofNat ou204.length)] [(.int (Int32.ofNat ou210.length))]) t
          refine XS.istore X210.here hx rfl (b at_644) rfl (l' := #[vi i0, vi i1, vi i2, vi i3, vi i4, vi i5, vi (Int32.ofNat nn), vi c4, vi c8, vi c12, vi c16, vi c20, vr u24, vr u28, vB fw0, vB fw1, vB fw2, vB fw3, vB fw4, vB fb0, vB fb1, vB fb2, vB fb3, vB fb4, vB fb0, vB fl1, vB fl2, vB fl3, vB fl4, vB fb4, vB fr3, vB fr2, vB fr1, vB fr0, vB fi0, vB fi1, vB fi2, vB fi3, vB fi4, vr b192, vi (Int32.ofNat ou210.length)]) rfl ?_
          refine XS.iload X210.here hx rfl (b at_646) rfl ?_
          refine XS.iconst X210.here hx rfl (b at_648) ?_
          exact k)
        by_cases hc213 : 3 < nn
        · have pre215 : Pr p e below s₁ E0 T210 (mkF m 662 #[vi i0, vi i1, vi i2, vi i3, vi i4, vi i5, vi (Int32.ofNat nn), vi c4, vi c8, vi c12, vi c16, vi c20, vr u24, vr u28, vB fw0, vB fw1, vB fw2, vB fw3, vB fw4, vB fb0, vB fb1, vB fb2, vB fb3, vB fb4, vB fb0, vB fl1, vB fl2, vB fl3, vB fl4, vB fb4, vB fr3, vB fr2, vB fr1, vB fr0, vB fi0, vB fi1, vB fi2, vB fi3, vB fi4, vr b192, vi (Int32.ofNat ou210.length)] [(.int c16), (.int (own_B fi2)), (.int (own_B fi3)), (.int (Int32.ofNat ou210.length)), (.ref b192)]) := fun t k => pre214 t (by
            refine XS.icmpNo X210.here hx rfl (b at_649) rfl (tlt (own_ltT (a := 3) (b := nn) hc213 (by omega))).2.2.2 ?_
            refine XS.aload X210.here hx rfl (b at_652) rfl rfl ?_
            refine XS.iload X210.here hx rfl (b at_654) rfl ?_
            refine XS.iload X210.here hx rfl (b at_656) rfl ?_
            refine XS.iload X210.here hx rfl (b at_658) rfl ?_
            refine XS.iload X210.here hx rfl (b at_660) rfl ?_
            exact k)
          obtain ⟨_, T216, L216, X216, hQ216, st216⟩ := own_cS X210 hx hml hZ hown (rm_put l Z a0 hw b192 c16 ou210 fi3 fi2 g210 T210.heap n0 Z210 Yq210 g_b192 (by omega) hf210 hc16) (w 80 rfl) (w 81 rfl) (w 3 rfl) (w 82 rfl) rfl (g := (mkF m 662 #[vi i0, vi i1, vi i2, vi i3, vi i4, vi i5, vi (Int32.ofNat nn), vi c4, vi c8, vi c12, vi c16, vi c20, vr u24, vr u28, vB fw0, vB fw1, vB fw2, vB fw3, vB fw4, vB fb0, vB fb1, vB fb2, vB fb3, vB fb4, vB fb0, vB fl1, vB fl2, vB fl3, vB fl4, vB fb4, vB fr3, vB fr2, vB fr1, vB fr0, vB fi0, vB fi1, vB fi2, vB fi3, vB fi4, vr b192, vi (Int32.ofNat ou210.length)] [(.int c16), (.int (own_B fi2)), (.int (own_B fi3)), (.int (Int32.ofNat ou210.length)), (.ref b192)])) (argsL := [(.ref b192), (.int (Int32.ofNat ou210.length)), (.int (own_B fi3)), (.int (own_B fi2)), (.int c16)]) (rest := []) (W := 0) (lenOf own_pd47 rfl) (b at_662)
          obtain ⟨ou216, g216, ho216, rfl, Nq216, Kq216, Yq216, hl216, hf216⟩ := hQ216
          have N216 := Fr.app N210 Nq216
          have sf217_b192 := Safe.keep Kq216 (allS sf211_b192 all0) hC211 sf211_b192
          have hr217 := CHr.keep Kq216 (allS sf211_b192 all0) hC211
          have hA217 := hA211.trans hr217
          have hC217 := hr217.1
          have hk217 := Nat.le_trans hk211 hr217.2.1
          have od217 := od211.keep Kq216 (allS g_b192 all0)
          have f217_1 := f211_1.keep Kq216
          have u218_1 := u212_1.keep Kq216 (ninS ne_u24_b192 nin0) (ninS ne_t24_b192 nin0)
          have u218_2 := u212_2.keep Kq216 (ninS ne_u28_b192 nin0) (ninS ne_t28_b192 nin0)
          have Z216 : n0 ≤ T216.heap.size := Nat.le_trans Z210 Kq216.1
          have pre220 : Pr p e below s₁ E0 T216 (mkF m 670 #[vi i0, vi i1, vi i2, vi i3, vi i4, vi i5, vi (Int32.ofNat nn), vi c4, vi c8, vi c12, vi c16, vi c20, vr u24, vr u28, vB fw0, vB fw1, vB fw2, vB fw3, vB fw4, vB fb0, vB fb1, vB fb2, vB fb3, vB fb4, vB fb0, vB fl1, vB fl2, vB fl3, vB fl4, vB fb4, vB fr3, vB fr2, vB fr1, vB fr0, vB fi0, vB fi1, vB fi2, vB fi3, vB fi4, vr b192, vi (Int32.ofNat ou216.length)] [(.int (4 : Int32)), (.int (Int32.ofNat nn))]) := fun t k => pre215 t (by
            refine st216 _ ?_
            show Sp p e below T216 (mkF m 665 #[vi i0, vi i1, vi i2, vi i3, vi i4, vi i5, vi (Int32.ofNat nn), vi c4, vi c8, vi c12, vi c16, vi c20, vr u24, vr u28, vB fw0, vB fw1, vB fw2, vB fw3, vB fw4, vB fb0, vB fb1, vB fb2, vB fb3, vB fb4, vB fb0, vB fl1, vB fl2, vB fl3, vB fl4, vB fb4, vB fr3, vB fr2, vB fr1, vB fr0, vB fi0, vB fi1, vB fi2, vB fi3, vB fi4, vr b192, vi (Int32.ofNat ou210.length)] [(.int (Int32.ofNat ou216.length))]) t
            refine XS.istore X216.here hx rfl (b at_665) rfl (l' := #[vi i0, vi i1, vi i2, vi i3, vi i4, vi i5, vi (Int32.ofNat nn), vi c4, vi c8, vi c12, vi c16, vi c20, vr u24, vr u28, vB fw0, vB fw1, vB fw2, vB fw3, vB fw4, vB fb0, vB fb1, vB fb2, vB fb3, vB fb4, vB fb0, vB fl1, vB fl2, vB fl3, vB fl4, vB fb4, vB fr3, vB fr2, vB fr1, vB fr0, vB fi0, vB fi1, vB fi2, vB fi3, vB fi4, vr b192, vi (Int32.ofNat ou216.length)]) rfl ?_
            refine XS.iload X216.here hx rfl (b at_667) rfl ?_
            refine XS.iconst X216.here hx rfl (b at_669) ?_
            exact k)
          by_cases hc219 : 4 < nn
          · have pre221 : Pr p e below s₁ E0 T216 (mkF m 683 #[vi i0, vi i1, vi i2, vi i3, vi i4, vi i5, vi (Int32.ofNat nn), vi c4, vi c8, vi c12, vi c16, vi c20, vr u24, vr u28, vB fw0, vB fw1, vB fw2, vB fw3, vB fw4, vB fb0, vB fb1, vB fb2, vB fb3, vB fb4, vB fb0, vB fl1, vB fl2, vB fl3, vB fl4, vB fb4, vB fr3, vB fr2, vB fr1, vB fr0, vB fi0, vB fi1, vB fi2, vB fi3, vB fi4, vr b192, vi (Int32.ofNat ou216.length)] [(.int c20), (.int (own_B fi3)), (.int (own_B fi4)), (.int (Int32.ofNat ou216.length)), (.ref b192)]) := fun t k => pre220 t (by
              refine XS.icmpNo X216.here hx rfl (b at_670) rfl (tlt (own_ltT (a := 4) (b := nn) hc219 (by omega))).2.2.2 ?_
              refine XS.aload X216.here hx rfl (b at_673) rfl rfl ?_
              refine XS.iload X216.here hx rfl (b at_675) rfl ?_
              refine XS.iload X216.here hx rfl (b at_677) rfl ?_
              refine XS.iload X216.here hx rfl (b at_679) rfl ?_
              refine XS.iload X216.here hx rfl (b at_681) rfl ?_
              exact k)
            obtain ⟨_, T222, L222, X222, hQ222, st222⟩ := own_cS X216 hx hml hZ hown (rm_put l Z a0 hw b192 c20 ou216 fi4 fi3 g216 T216.heap n0 Z216 Yq216 g_b192 (by omega) hf216 hc20) (w 80 rfl) (w 81 rfl) (w 3 rfl) (w 82 rfl) rfl (g := (mkF m 683 #[vi i0, vi i1, vi i2, vi i3, vi i4, vi i5, vi (Int32.ofNat nn), vi c4, vi c8, vi c12, vi c16, vi c20, vr u24, vr u28, vB fw0, vB fw1, vB fw2, vB fw3, vB fw4, vB fb0, vB fb1, vB fb2, vB fb3, vB fb4, vB fb0, vB fl1, vB fl2, vB fl3, vB fl4, vB fb4, vB fr3, vB fr2, vB fr1, vB fr0, vB fi0, vB fi1, vB fi2, vB fi3, vB fi4, vr b192, vi (Int32.ofNat ou216.length)] [(.int c20), (.int (own_B fi3)), (.int (own_B fi4)), (.int (Int32.ofNat ou216.length)), (.ref b192)])) (argsL := [(.ref b192), (.int (Int32.ofNat ou216.length)), (.int (own_B fi4)), (.int (own_B fi3)), (.int c20)]) (rest := []) (W := 0) (lenOf own_pd47 rfl) (b at_683)
            obtain ⟨ou222, g222, ho222, rfl, Nq222, Kq222, Yq222, hl222, hf222⟩ := hQ222
            have N222 := Fr.app N216 Nq222
            have sf223_b192 := Safe.keep Kq222 (allS sf217_b192 all0) hC217 sf217_b192
            have hr223 := CHr.keep Kq222 (allS sf217_b192 all0) hC217
            have hA223 := hA217.trans hr223
            have hC223 := hr223.1
            have hk223 := Nat.le_trans hk217 hr223.2.1
            have od223 := od217.keep Kq222 (allS g_b192 all0)
            have f223_1 := f217_1.keep Kq222
            have u224_1 := u218_1.keep Kq222 (ninS ne_u24_b192 nin0) (ninS ne_t24_b192 nin0)
            have u224_2 := u218_2.keep Kq222 (ninS ne_u28_b192 nin0) (ninS ne_t28_b192 nin0)
            have Z222 : n0 ≤ T222.heap.size := Nat.le_trans Z216 Kq222.1
            have pre225 : Pr p e below s₁ E0 T222 (mkF m 694 #[vi i0, vi i1, vi i2, vi i3, vi i4, vi i5, vi (Int32.ofNat nn), vi c4, vi c8, vi c12, vi c16, vi c20, vr u24, vr u28, vB fw0, vB fw1, vB fw2, vB fw3, vB fw4, vB fb0, vB fb1, vB fb2, vB fb3, vB fb4, vB fb0, vB fl1, vB fl2, vB fl3, vB fl4, vB fb4, vB fr3, vB fr2, vB fr1, vB fr0, vB fi0, vB fi1, vB fi2, vB fi3, vB fi4, vr b192, vi (Int32.ofNat ou222.length)] [(.int (Int32.ofNat ou222.length)), (.ref b192), (.ref u28)]) := fun t k => pre221 t (by
              refine st222 _ ?_
              show Sp p e below T222 (mkF m 686 #[vi i0, vi i1, vi i2, vi i3, vi i4, vi i5, vi (Int32.ofNat nn), vi c4, vi c8, vi c12, vi c16, vi c20, vr u24, vr u28, vB fw0, vB fw1, vB fw2, vB fw3, vB fw4, vB fb0, vB fb1, vB fb2, vB fb3, vB fb4, vB fb0, vB fl1, vB fl2, vB fl3, vB fl4, vB fb4, vB fr3, vB fr2, vB fr1, vB fr0, vB fi0, vB fi1, vB fi2, vB fi3, vB fi4, vr b192, vi (Int32.ofNat ou216.length)] [(.int (Int32.ofNat ou222.length))]) t
              refine XS.istore X222.here hx rfl (b at_686) rfl (l' := #[vi i0, vi i1, vi i2, vi i3, vi i4, vi i5, vi (Int32.ofNat nn), vi c4, vi c8, vi c12, vi c16, vi c20, vr u24, vr u28, vB fw0, vB fw1, vB fw2, vB fw3, vB fw4, vB fb0, vB fb1, vB fb2, vB fb3, vB fb4, vB fb0, vB fl1, vB fl2, vB fl3, vB fl4, vB fb4, vB fr3, vB fr2, vB fr1, vB fr0, vB fi0, vB fi1, vB fi2, vB fi3, vB fi4, vr b192, vi (Int32.ofNat ou222.length)]) rfl ?_
              refine XS.aload X222.here hx rfl (b at_688) rfl rfl ?_
              refine XS.aload X222.here hx rfl (b at_690) rfl rfl ?_
              refine XS.iload X222.here hx rfl (b at_692) rfl ?_
              exact k)
            have hfin : own_of (own_mk nn c4 c8 c12 c16 c20) = ou222 := by
              have en : nn = 5 := by omega
              subst en
              subst ho222 ho216 ho210 ho204 ho198 hfi4 hfi3 hfi2 hfi1 hfi0 hfr0 hfr1 hfr2 hfr3 hfl4 hfl3 hfl2 hfl1 hfb4 hfb3 hfb2 hfb1 hfb0 hfw4 hfw3 hfw2 hfw1 hfw0
              exact own_plain (by decide) c4 c8 c12 c16 c20
            have Uf := u224_2
            rw [hfin] at Uf
            obtain ⟨_, T226, L226, X226, hQ226, st226⟩ := own_cS X222 hx hml hZ hown (rm_same l Z a0 hw u28 b192 ou222 t28 g222 T222.heap n0 Z222 hst od223 Uf Yq222 hf222 (by omega)) (w 83 rfl) (w 84 rfl) (w 3 rfl) (w 85 rfl) rfl (g := (mkF m 694 #[vi i0, vi i1, vi i2, vi i3, vi i4, vi i5, vi (Int32.ofNat nn), vi c4, vi c8, vi c12, vi c16, vi c20, vr u24, vr u28, vB fw0, vB fw1, vB fw2, vB fw3, vB fw4, vB fb0, vB fb1, vB fb2, vB fb3, vB fb4, vB fb0, vB fl1, vB fl2, vB fl3, vB fl4, vB fb4, vB fr3, vB fr2, vB fr1, vB fr0, vB fi0, vB fi1, vB fi2, vB fi3, vB fi4, vr b192, vi (Int32.ofNat ou222.length)] [(.int (Int32.ofNat ou222.length)), (.ref b192), (.ref u28)])) (argsL := [(.ref u28), (.ref b192), (.int (Int32.ofNat ou222.length))]) (rest := []) (W := 0) (lenOf own_pd48 rfl) (b at_694)
            obtain ⟨rfl, Nq226, e226⟩ := hQ226
            have N226 := Fr.app N222 Nq226
            obtain ⟨fs, hr, hrun, hended, hEnd⟩ := X226.leaveW hS24 (by rw [e226]; exact hk223) (v := some (.int (1 : Int32))) (fun h => by rw [hret] at h; cases h)
            have hAe := hA223.trans (CHv.at X226 hZ hEL hC223)
            refine ⟨_, _, pre225 _ ?_, hrun, hended, _, _, rfl, ?_, ?_, hEnd.1, hEnd.2.1, hEnd.2.2.1, hEnd.2.2.2.mono (by decide) (by decide)⟩
            · show Sp p e below T222 (mkF m 694 #[vi i0, vi i1, vi i2, vi i3, vi i4, vi i5, vi (Int32.ofNat nn), vi c4, vi c8, vi c12, vi c16, vi c20, vr u24, vr u28, vB fw0, vB fw1, vB fw2, vB fw3, vB fw4, vB fb0, vB fb1, vB fb2, vB fb3, vB fb4, vB fb0, vB fl1, vB fl2, vB fl3, vB fl4, vB fb4, vB fr3, vB fr2, vB fr1, vB fr0, vB fi0, vB fi1, vB fi2, vB fi3, vB fi4, vr b192, vi (Int32.ofNat ou222.length)] [(.int (Int32.ofNat ou222.length)), (.ref b192), (.ref u28)]) _
              refine st226 _ ?_
              show Sp p e below T226 (mkF m 697 #[vi i0, vi i1, vi i2, vi i3, vi i4, vi i5, vi (Int32.ofNat nn), vi c4, vi c8, vi c12, vi c16, vi c20, vr u24, vr u28, vB fw0, vB fw1, vB fw2, vB fw3, vB fw4, vB fb0, vB fb1, vB fb2, vB fb3, vB fb4, vB fb0, vB fl1, vB fl2, vB fl3, vB fl4, vB fb4, vB fr3, vB fr2, vB fr1, vB fr0, vB fi0, vB fi1, vB fi2, vB fi3, vB fi4, vr b192, vi (Int32.ofNat ou222.length)] [(.int (1 : Int32))]) _
              exact retN X226 hx (t := .boolean) hret (by simp) (b at_697) hr
            · show Q_law Z i0 i1 i2 i3 i4 i5 h0 n0 _ T226.heap _
              rw [e226]
              exact ⟨rfl, N226⟩
            · rw [hh]
              show CHr Z consts_1 s.vm h0 T226.vm T226.heap
              rw [e226]
              exact hAe
          · have pre227 : Pr p e below s₁ E0 T216 (mkF m 694 #[vi i0, vi i1, vi i2, vi i3, vi i4, vi i5, vi (Int32.ofNat nn), vi c4, vi c8, vi c12, vi c16, vi c20, vr u24, vr u28, vB fw0, vB fw1, vB fw2, vB fw3, vB fw4, vB fb0, vB fb1, vB fb2, vB fb3, vB fb4, vB fb0, vB fl1, vB fl2, vB fl3, vB fl4, vB fb4, vB fr3, vB fr2, vB fr1, vB fr0, vB fi0, vB fi1, vB fi2, vB fi3, vB fi4, vr b192, vi (Int32.ofNat ou216.length)] [(.int (Int32.ofNat ou216.length)), (.ref b192), (.ref u28)]) := fun t k => pre220 t (by
              refine XS.icmpYes X216.here hx rfl (pc0 := 670) (pc' := 688) rfl (b at_670) rfl (flt (own_ltF (a := 4) (b := nn) hc219 (by omega))).2.2.2 (by decide) (by decide) ?_
              refine XS.aload X216.here hx rfl (b at_688) rfl rfl ?_
              refine XS.aload X216.here hx rfl (b at_690) rfl rfl ?_
              refine XS.iload X216.here hx rfl (b at_692) rfl ?_
              exact k)
            have hfin : own_of (own_mk nn c4 c8 c12 c16 c20) = ou216 := by
              have en : nn = 4 := by omega
              subst en
              subst ho216 ho210 ho204 ho198 hfi4 hfi3 hfi2 hfi1 hfi0 hfr0 hfr1 hfr2 hfr3 hfl4 hfl3 hfl2 hfl1 hfb4 hfb3 hfb2 hfb1 hfb0 hfw4 hfw3 hfw2 hfw1 hfw0
              exact own_plain (by decide) c4 c8 c12 c16 c20
            have Uf := u218_2
            rw [hfin] at Uf
            obtain ⟨_, T228, L228, X228, hQ228, st228⟩ := own_cS X216 hx hml hZ hown (rm_same l Z a0 hw u28 b192 ou216 t28 g216 T216.heap n0 Z216 hst od217 Uf Yq216 hf216 (by omega)) (w 83 rfl) (w 84 rfl) (w 3 rfl) (w 85 rfl) rfl (g := (mkF m 694 #[vi i0, vi i1, vi i2, vi i3, vi i4, vi i5, vi (Int32.ofNat nn), vi c4, vi c8, vi c12, vi c16, vi c20, vr u24, vr u28, vB fw0, vB fw1, vB fw2, vB fw3, vB fw4, vB fb0, vB fb1, vB fb2, vB fb3, vB fb4, vB fb0, vB fl1, vB fl2, vB fl3, vB fl4, vB fb4, vB fr3, vB fr2, vB fr1, vB fr0, vB fi0, vB fi1, vB fi2, vB fi3, vB fi4, vr b192, vi (Int32.ofNat ou216.length)] [(.int (Int32.ofNat ou216.length)), (.ref b192), (.ref u28)])) (argsL := [(.ref u28), (.ref b192), (.int (Int32.ofNat ou216.length))]) (rest := []) (W := 0) (lenOf own_pd48 rfl) (b at_694)
            obtain ⟨rfl, Nq228, e228⟩ := hQ228
            have N228 := Fr.app N216 Nq228
            obtain ⟨fs, hr, hrun, hended, hEnd⟩ := X228.leaveW hS24 (by rw [e228]; exact hk217) (v := some (.int (1 : Int32))) (fun h => by rw [hret] at h; cases h)
            have hAe := hA217.trans (CHv.at X228 hZ hEL hC217)
            refine ⟨_, _, pre227 _ ?_, hrun, hended, _, _, rfl, ?_, ?_, hEnd.1, hEnd.2.1, hEnd.2.2.1, hEnd.2.2.2.mono (by decide) (by decide)⟩
            · show Sp p e below T216 (mkF m 694 #[vi i0, vi i1, vi i2, vi i3, vi i4, vi i5, vi (Int32.ofNat nn), vi c4, vi c8, vi c12, vi c16, vi c20, vr u24, vr u28, vB fw0, vB fw1, vB fw2, vB fw3, vB fw4, vB fb0, vB fb1, vB fb2, vB fb3, vB fb4, vB fb0, vB fl1, vB fl2, vB fl3, vB fl4, vB fb4, vB fr3, vB fr2, vB fr1, vB fr0, vB fi0, vB fi1, vB fi2, vB fi3, vB fi4, vr b192, vi (Int32.ofNat ou216.length)] [(.int (Int32.ofNat ou216.length)), (.ref b192), (.ref u28)]) _
              refine st228 _ ?_
              show Sp p e below T228 (mkF m 697 #[vi i0, vi i1, vi i2, vi i3, vi i4, vi i5, vi (Int32.ofNat nn), vi c4, vi c8, vi c12, vi c16, vi c20, vr u24, vr u28, vB fw0, vB fw1, vB fw2, vB fw3, vB fw4, vB fb0, vB fb1, vB fb2, vB fb3, vB fb4, vB fb0, vB fl1, vB fl2, vB fl3, vB fl4, vB fb4, vB fr3, vB fr2, vB fr1, vB fr0, vB fi0, vB fi1, vB fi2, vB fi3, vB fi4, vr b192, vi (Int32.ofNat ou216.length)] [(.int (1 : Int32))]) _
              exact retN X228 hx (t := .boolean) hret (by simp) (b at_697) hr
            · show Q_law Z i0 i1 i2 i3 i4 i5 h0 n0 _ T228.heap _
              rw [e228]
              exact ⟨rfl, N228⟩
            · rw [hh]
              show CHr Z consts_1 s.vm h0 T228.vm T228.heap
              rw [e228]
              exact hAe
        · have pre229 : Pr p e below s₁ E0 T210 (mkF m 694 #[vi i0, vi i1, vi i2, vi i3, vi i4, vi i5, vi (Int32.ofNat nn), vi c4, vi c8, vi c12, vi c16, vi c20, vr u24, vr u28, vB fw0, vB fw1, vB fw2, vB fw3, vB fw4, vB fb0, vB fb1, vB fb2, vB fb3, vB fb4, vB fb0, vB fl1, vB fl2, vB fl3, vB fl4, vB fb4, vB fr3, vB fr2, vB fr1, vB fr0, vB fi0, vB fi1, vB fi2, vB fi3, vB fi4, vr b192, vi (Int32.ofNat ou210.length)] [(.int (Int32.ofNat ou210.length)), (.ref b192), (.ref u28)]) := fun t k => pre214 t (by
            refine XS.icmpYes X210.here hx rfl (pc0 := 649) (pc' := 667) rfl (b at_649) rfl (flt (own_ltF (a := 3) (b := nn) hc213 (by omega))).2.2.2 (by decide) (by decide) ?_
            refine XS.iload X210.here hx rfl (b at_667) rfl ?_
            refine XS.iconst X210.here hx rfl (b at_669) ?_
            show Sp p e below T210 (mkF m 670 #[vi i0, vi i1, vi i2, vi i3, vi i4, vi i5, vi (Int32.ofNat nn), vi c4, vi c8, vi c12, vi c16, vi c20, vr u24, vr u28, vB fw0, vB fw1, vB fw2, vB fw3, vB fw4, vB fb0, vB fb1, vB fb2, vB fb3, vB fb4, vB fb0, vB fl1, vB fl2, vB fl3, vB fl4, vB fb4, vB fr3, vB fr2, vB fr1, vB fr0, vB fi0, vB fi1, vB fi2, vB fi3, vB fi4, vr b192, vi (Int32.ofNat ou210.length)] [(.int (4 : Int32)), (.int (Int32.ofNat nn))]) t
            refine XS.icmpYes X210.here hx rfl (pc0 := 670) (pc' := 688) rfl (b at_670) rfl (flt (own_ltF (a := 4) (b := nn) (show ¬ 4 < nn by omega) (by omega))).2.2.2 (by decide) (by decide) ?_
            refine XS.aload X210.here hx rfl (b at_688) rfl rfl ?_
            refine XS.aload X210.here hx rfl (b at_690) rfl rfl ?_
            refine XS.iload X210.here hx rfl (b at_692) rfl ?_
            exact k)
          have hfin : own_of (own_mk nn c4 c8 c12 c16 c20) = ou210 := by
            have en : nn = 3 := by omega
            subst en
            subst ho210 ho204 ho198 hfi4 hfi3 hfi2 hfi1 hfi0 hfr0 hfr1 hfr2 hfr3 hfl4 hfl3 hfl2 hfl1 hfb4 hfb3 hfb2 hfb1 hfb0 hfw4 hfw3 hfw2 hfw1 hfw0
            exact own_plain (by decide) c4 c8 c12 c16 c20
          have Uf := u212_2
          rw [hfin] at Uf
          obtain ⟨_, T230, L230, X230, hQ230, st230⟩ := own_cS X210 hx hml hZ hown (rm_same l Z a0 hw u28 b192 ou210 t28 g210 T210.heap n0 Z210 hst od211 Uf Yq210 hf210 (by omega)) (w 83 rfl) (w 84 rfl) (w 3 rfl) (w 85 rfl) rfl (g := (mkF m 694 #[vi i0, vi i1, vi i2, vi i3, vi i4, vi i5, vi (Int32.ofNat nn), vi c4, vi c8, vi c12, vi c16, vi c20, vr u24, vr u28, vB fw0, vB fw1, vB fw2, vB fw3, vB fw4, vB fb0, vB fb1, vB fb2, vB fb3, vB fb4, vB fb0, vB fl1, vB fl2, vB fl3, vB fl4, vB fb4, vB fr3, vB fr2, vB fr1, vB fr0, vB fi0, vB fi1, vB fi2, vB fi3, vB fi4, vr b192, vi (Int32.ofNat ou210.length)] [(.int (Int32.ofNat ou210.length)), (.ref b192), (.ref u28)])) (argsL := [(.ref u28), (.ref b192), (.int (Int32.ofNat ou210.length))]) (rest := []) (W := 0) (lenOf own_pd48 rfl) (b at_694)
          obtain ⟨rfl, Nq230, e230⟩ := hQ230
          have N230 := Fr.app N210 Nq230
          obtain ⟨fs, hr, hrun, hended, hEnd⟩ := X230.leaveW hS24 (by rw [e230]; exact hk211) (v := some (.int (1 : Int32))) (fun h => by rw [hret] at h; cases h)
          have hAe := hA211.trans (CHv.at X230 hZ hEL hC211)
          refine ⟨_, _, pre229 _ ?_, hrun, hended, _, _, rfl, ?_, ?_, hEnd.1, hEnd.2.1, hEnd.2.2.1, hEnd.2.2.2.mono (by decide) (by decide)⟩
          · show Sp p e below T210 (mkF m 694 #[vi i0, vi i1, vi i2, vi i3, vi i4, vi i5, vi (Int32.ofNat nn), vi c4, vi c8, vi c12, vi c16, vi c20, vr u24, vr u28, vB fw0, vB fw1, vB fw2, vB fw3, vB fw4, vB fb0, vB fb1, vB fb2, vB fb3, vB fb4, vB fb0, vB fl1, vB fl2, vB fl3, vB fl4, vB fb4, vB fr3, vB fr2, vB fr1, vB fr0, vB fi0, vB fi1, vB fi2, vB fi3, vB fi4, vr b192, vi (Int32.ofNat ou210.length)] [(.int (Int32.ofNat ou210.length)), (.ref b192), (.ref u28)]) _
            refine st230 _ ?_
            show Sp p e below T230 (mkF m 697 #[vi i0, vi i1, vi i2, vi i3, vi i4, vi i5, vi (Int32.ofNat nn), vi c4, vi c8, vi c12, vi c16, vi c20, vr u24, vr u28, vB fw0, vB fw1, vB fw2, vB fw3, vB fw4, vB fb0, vB fb1, vB fb2, vB fb3, vB fb4, vB fb0, vB fl1, vB fl2, vB fl3, vB fl4, vB fb4, vB fr3, vB fr2, vB fr1, vB fr0, vB fi0, vB fi1, vB fi2, vB fi3, vB fi4, vr b192, vi (Int32.ofNat ou210.length)] [(.int (1 : Int32))]) _
            exact retN X230 hx (t := .boolean) hret (by simp) (b at_697) hr
          · show Q_law Z i0 i1 i2 i3 i4 i5 h0 n0 _ T230.heap _
            rw [e230]
            exact ⟨rfl, N230⟩
          · rw [hh]
            show CHr Z consts_1 s.vm h0 T230.vm T230.heap
            rw [e230]
            exact hAe
      · have pre231 : Pr p e below s₁ E0 T204 (mkF m 694 #[vi i0, vi i1, vi i2, vi i3, vi i4, vi i5, vi (Int32.ofNat nn), vi c4, vi c8, vi c12, vi c16, vi c20, vr u24, vr u28, vB fw0, vB fw1, vB fw2, vB fw3, vB fw4, vB fb0, vB fb1, vB fb2, vB fb3, vB fb4, vB fb0, vB fl1, vB fl2, vB fl3, vB fl4, vB fb4, vB fr3, vB fr2, vB fr1, vB fr0, vB fi0, vB fi1, vB fi2, vB fi3, vB fi4, vr b192, vi (Int32.ofNat ou204.length)] [(.int (Int32.ofNat ou204.length)), (.ref b192), (.ref u28)]) := fun t k => pre208 t (by
          refine XS.icmpYes X204.here hx rfl (pc0 := 628) (pc' := 646) rfl (b at_628) rfl (flt (own_ltF (a := 2) (b := nn) hc207 (by omega))).2.2.2 (by decide) (by decide) ?_
          refine XS.iload X204.here hx rfl (b at_646) rfl ?_
          refine XS.iconst X204.here hx rfl (b at_648) ?_
          show Sp p e below T204 (mkF m 649 #[vi i0, vi i1, vi i2, vi i3, vi i4, vi i5, vi (Int32.ofNat nn), vi c4, vi c8, vi c12, vi c16, vi c20, vr u24, vr u28, vB fw0, vB fw1, vB fw2, vB fw3, vB fw4, vB fb0, vB fb1, vB fb2, vB fb3, vB fb4, vB fb0, vB fl1, vB fl2, vB fl3, vB fl4, vB fb4, vB fr3, vB fr2, vB fr1, vB fr0, vB fi0, vB fi1, vB fi2, vB fi3, vB fi4, vr b192, vi (Int32.ofNat ou204.length)] [(.int (3 : Int32)), (.int (Int32.ofNat nn))]) t
          refine XS.icmpYes X204.here hx rfl (pc0 := 649) (pc' := 667) rfl (b at_649) rfl (flt (own_ltF (a := 3) (b := nn) (show ¬ 3 < nn by omega) (by omega))).2.2.2 (by decide) (by decide) ?_
          refine XS.iload X204.here hx rfl (b at_667) rfl ?_
          refine XS.iconst X204.here hx rfl (b at_669) ?_
          show Sp p e below T204 (mkF m 670 #[vi i0, vi i1, vi i2, vi i3, vi i4, vi i5, vi (Int32.ofNat nn), vi c4, vi c8, vi c12, vi c16, vi c20, vr u24, vr u28, vB fw0, vB fw1, vB fw2, vB fw3, vB fw4, vB fb0, vB fb1, vB fb2, vB fb3, vB fb4, vB fb0, vB fl1, vB fl2, vB fl3, vB fl4, vB fb4, vB fr3, vB fr2, vB fr1, vB fr0, vB fi0, vB fi1, vB fi2, vB fi3, vB fi4, vr b192, vi (Int32.ofNat ou204.length)] [(.int (4 : Int32)), (.int (Int32.ofNat nn))]) t
          refine XS.icmpYes X204.here hx rfl (pc0 := 670) (pc' := 688) rfl (b at_670) rfl (flt (own_ltF (a := 4) (b := nn) (show ¬ 4 < nn by omega) (by omega))).2.2.2 (by decide) (by decide) ?_
          refine XS.aload X204.here hx rfl (b at_688) rfl rfl ?_
          refine XS.aload X204.here hx rfl (b at_690) rfl rfl ?_
          refine XS.iload X204.here hx rfl (b at_692) rfl ?_
          exact k)
        have hfin : own_of (own_mk nn c4 c8 c12 c16 c20) = ou204 := by
          have en : nn = 2 := by omega
          subst en
          subst ho204 ho198 hfi4 hfi3 hfi2 hfi1 hfi0 hfr0 hfr1 hfr2 hfr3 hfl4 hfl3 hfl2 hfl1 hfb4 hfb3 hfb2 hfb1 hfb0 hfw4 hfw3 hfw2 hfw1 hfw0
          exact own_plain (by decide) c4 c8 c12 c16 c20
        have Uf := u206_2
        rw [hfin] at Uf
        obtain ⟨_, T232, L232, X232, hQ232, st232⟩ := own_cS X204 hx hml hZ hown (rm_same l Z a0 hw u28 b192 ou204 t28 g204 T204.heap n0 Z204 hst od205 Uf Yq204 hf204 (by omega)) (w 83 rfl) (w 84 rfl) (w 3 rfl) (w 85 rfl) rfl (g := (mkF m 694 #[vi i0, vi i1, vi i2, vi i3, vi i4, vi i5, vi (Int32.ofNat nn), vi c4, vi c8, vi c12, vi c16, vi c20, vr u24, vr u28, vB fw0, vB fw1, vB fw2, vB fw3, vB fw4, vB fb0, vB fb1, vB fb2, vB fb3, vB fb4, vB fb0, vB fl1, vB fl2, vB fl3, vB fl4, vB fb4, vB fr3, vB fr2, vB fr1, vB fr0, vB fi0, vB fi1, vB fi2, vB fi3, vB fi4, vr b192, vi (Int32.ofNat ou204.length)] [(.int (Int32.ofNat ou204.length)), (.ref b192), (.ref u28)])) (argsL := [(.ref u28), (.ref b192), (.int (Int32.ofNat ou204.length))]) (rest := []) (W := 0) (lenOf own_pd48 rfl) (b at_694)
        obtain ⟨rfl, Nq232, e232⟩ := hQ232
        have N232 := Fr.app N204 Nq232
        obtain ⟨fs, hr, hrun, hended, hEnd⟩ := X232.leaveW hS24 (by rw [e232]; exact hk205) (v := some (.int (1 : Int32))) (fun h => by rw [hret] at h; cases h)
        have hAe := hA205.trans (CHv.at X232 hZ hEL hC205)
        refine ⟨_, _, pre231 _ ?_, hrun, hended, _, _, rfl, ?_, ?_, hEnd.1, hEnd.2.1, hEnd.2.2.1, hEnd.2.2.2.mono (by decide) (by decide)⟩
        · show Sp p e below T204 (mkF m 694 #[vi i0, vi i1, vi i2, vi i3, vi i4, vi i5, vi (Int32.ofNat nn), vi c4, vi c8, vi c12, vi c16, vi c20, vr u24, vr u28, vB fw0, vB fw1, vB fw2, vB fw3, vB fw4, vB fb0, vB fb1, vB fb2, vB fb3, vB fb4, vB fb0, vB fl1, vB fl2, vB fl3, vB fl4, vB fb4, vB fr3, vB fr2, vB fr1, vB fr0, vB fi0, vB fi1, vB fi2, vB fi3, vB fi4, vr b192, vi (Int32.ofNat ou204.length)] [(.int (Int32.ofNat ou204.length)), (.ref b192), (.ref u28)]) _
          refine st232 _ ?_
          show Sp p e below T232 (mkF m 697 #[vi i0, vi i1, vi i2, vi i3, vi i4, vi i5, vi (Int32.ofNat nn), vi c4, vi c8, vi c12, vi c16, vi c20, vr u24, vr u28, vB fw0, vB fw1, vB fw2, vB fw3, vB fw4, vB fb0, vB fb1, vB fb2, vB fb3, vB fb4, vB fb0, vB fl1, vB fl2, vB fl3, vB fl4, vB fb4, vB fr3, vB fr2, vB fr1, vB fr0, vB fi0, vB fi1, vB fi2, vB fi3, vB fi4, vr b192, vi (Int32.ofNat ou204.length)] [(.int (1 : Int32))]) _
          exact retN X232 hx (t := .boolean) hret (by simp) (b at_697) hr
        · show Q_law Z i0 i1 i2 i3 i4 i5 h0 n0 _ T232.heap _
          rw [e232]
          exact ⟨rfl, N232⟩
        · rw [hh]
          show CHr Z consts_1 s.vm h0 T232.vm T232.heap
          rw [e232]
          exact hAe
    · have pre233 : Pr p e below s₁ E0 T198 (mkF m 694 #[vi i0, vi i1, vi i2, vi i3, vi i4, vi i5, vi (Int32.ofNat nn), vi c4, vi c8, vi c12, vi c16, vi c20, vr u24, vr u28, vB fw0, vB fw1, vB fw2, vB fw3, vB fw4, vB fb0, vB fb1, vB fb2, vB fb3, vB fb4, vB fb0, vB fl1, vB fl2, vB fl3, vB fl4, vB fb4, vB fr3, vB fr2, vB fr1, vB fr0, vB fi0, vB fi1, vB fi2, vB fi3, vB fi4, vr b192, vi (Int32.ofNat ou198.length)] [(.int (Int32.ofNat ou198.length)), (.ref b192), (.ref u28)]) := fun t k => pre202 t (by
        refine XS.icmpYes X198.here hx rfl (pc0 := 607) (pc' := 625) rfl (b at_607) rfl (flt (own_ltF (a := 1) (b := nn) hc201 (by omega))).2.2.2 (by decide) (by decide) ?_
        refine XS.iload X198.here hx rfl (b at_625) rfl ?_
        refine XS.iconst X198.here hx rfl (b at_627) ?_
        show Sp p e below T198 (mkF m 628 #[vi i0, vi i1, vi i2, vi i3, vi i4, vi i5, vi (Int32.ofNat nn), vi c4, vi c8, vi c12, vi c16, vi c20, vr u24, vr u28, vB fw0, vB fw1, vB fw2, vB fw3, vB fw4, vB fb0, vB fb1, vB fb2, vB fb3, vB fb4, vB fb0, vB fl1, vB fl2, vB fl3, vB fl4, vB fb4, vB fr3, vB fr2, vB fr1, vB fr0, vB fi0, vB fi1, vB fi2, vB fi3, vB fi4, vr b192, vi (Int32.ofNat ou198.length)] [(.int (2 : Int32)), (.int (Int32.ofNat nn))]) t
        refine XS.icmpYes X198.here hx rfl (pc0 := 628) (pc' := 646) rfl (b at_628) rfl (flt (own_ltF (a := 2) (b := nn) (show ¬ 2 < nn by omega) (by omega))).2.2.2 (by decide) (by decide) ?_
        refine XS.iload X198.here hx rfl (b at_646) rfl ?_
        refine XS.iconst X198.here hx rfl (b at_648) ?_
        show Sp p e below T198 (mkF m 649 #[vi i0, vi i1, vi i2, vi i3, vi i4, vi i5, vi (Int32.ofNat nn), vi c4, vi c8, vi c12, vi c16, vi c20, vr u24, vr u28, vB fw0, vB fw1, vB fw2, vB fw3, vB fw4, vB fb0, vB fb1, vB fb2, vB fb3, vB fb4, vB fb0, vB fl1, vB fl2, vB fl3, vB fl4, vB fb4, vB fr3, vB fr2, vB fr1, vB fr0, vB fi0, vB fi1, vB fi2, vB fi3, vB fi4, vr b192, vi (Int32.ofNat ou198.length)] [(.int (3 : Int32)), (.int (Int32.ofNat nn))]) t
        refine XS.icmpYes X198.here hx rfl (pc0 := 649) (pc' := 667) rfl (b at_649) rfl (flt (own_ltF (a := 3) (b := nn) (show ¬ 3 < nn by omega) (by omega))).2.2.2 (by decide) (by decide) ?_
        refine XS.iload X198.here hx rfl (b at_667) rfl ?_
        refine XS.iconst X198.here hx rfl (b at_669) ?_
        show Sp p e below T198 (mkF m 670 #[vi i0, vi i1, vi i2, vi i3, vi i4, vi i5, vi (Int32.ofNat nn), vi c4, vi c8, vi c12, vi c16, vi c20, vr u24, vr u28, vB fw0, vB fw1, vB fw2, vB fw3, vB fw4, vB fb0, vB fb1, vB fb2, vB fb3, vB fb4, vB fb0, vB fl1, vB fl2, vB fl3, vB fl4, vB fb4, vB fr3, vB fr2, vB fr1, vB fr0, vB fi0, vB fi1, vB fi2, vB fi3, vB fi4, vr b192, vi (Int32.ofNat ou198.length)] [(.int (4 : Int32)), (.int (Int32.ofNat nn))]) t
        refine XS.icmpYes X198.here hx rfl (pc0 := 670) (pc' := 688) rfl (b at_670) rfl (flt (own_ltF (a := 4) (b := nn) (show ¬ 4 < nn by omega) (by omega))).2.2.2 (by decide) (by decide) ?_
        refine XS.aload X198.here hx rfl (b at_688) rfl rfl ?_
        refine XS.aload X198.here hx rfl (b at_690) rfl rfl ?_
        refine XS.iload X198.here hx rfl (b at_692) rfl ?_
        exact k)
      have hfin : own_of (own_mk nn c4 c8 c12 c16 c20) = ou198 := by
        have en : nn = 1 := by omega
        subst en
        subst ho198 hfi4 hfi3 hfi2 hfi1 hfi0 hfr0 hfr1 hfr2 hfr3 hfl4 hfl3 hfl2 hfl1 hfb4 hfb3 hfb2 hfb1 hfb0 hfw4 hfw3 hfw2 hfw1 hfw0
        exact own_plain (by decide) c4 c8 c12 c16 c20
      have Uf := u200_2
      rw [hfin] at Uf
      obtain ⟨_, T234, L234, X234, hQ234, st234⟩ := own_cS X198 hx hml hZ hown (rm_same l Z a0 hw u28 b192 ou198 t28 g198 T198.heap n0 Z198 hst od199 Uf Yq198 hf198 (by omega)) (w 83 rfl) (w 84 rfl) (w 3 rfl) (w 85 rfl) rfl (g := (mkF m 694 #[vi i0, vi i1, vi i2, vi i3, vi i4, vi i5, vi (Int32.ofNat nn), vi c4, vi c8, vi c12, vi c16, vi c20, vr u24, vr u28, vB fw0, vB fw1, vB fw2, vB fw3, vB fw4, vB fb0, vB fb1, vB fb2, vB fb3, vB fb4, vB fb0, vB fl1, vB fl2, vB fl3, vB fl4, vB fb4, vB fr3, vB fr2, vB fr1, vB fr0, vB fi0, vB fi1, vB fi2, vB fi3, vB fi4, vr b192, vi (Int32.ofNat ou198.length)] [(.int (Int32.ofNat ou198.length)), (.ref b192), (.ref u28)])) (argsL := [(.ref u28), (.ref b192), (.int (Int32.ofNat ou198.length))]) (rest := []) (W := 0) (lenOf own_pd48 rfl) (b at_694)
      obtain ⟨rfl, Nq234, e234⟩ := hQ234
      have N234 := Fr.app N198 Nq234
      obtain ⟨fs, hr, hrun, hended, hEnd⟩ := X234.leaveW hS24 (by rw [e234]; exact hk199) (v := some (.int (1 : Int32))) (fun h => by rw [hret] at h; cases h)
      have hAe := hA199.trans (CHv.at X234 hZ hEL hC199)
      refine ⟨_, _, pre233 _ ?_, hrun, hended, _, _, rfl, ?_, ?_, hEnd.1, hEnd.2.1, hEnd.2.2.1, hEnd.2.2.2.mono (by decide) (by decide)⟩
      · show Sp p e below T198 (mkF m 694 #[vi i0, vi i1, vi i2, vi i3, vi i4, vi i5, vi (Int32.ofNat nn), vi c4, vi c8, vi c12, vi c16, vi c20, vr u24, vr u28, vB fw0, vB fw1, vB fw2, vB fw3, vB fw4, vB fb0, vB fb1, vB fb2, vB fb3, vB fb4, vB fb0, vB fl1, vB fl2, vB fl3, vB fl4, vB fb4, vB fr3, vB fr2, vB fr1, vB fr0, vB fi0, vB fi1, vB fi2, vB fi3, vB fi4, vr b192, vi (Int32.ofNat ou198.length)] [(.int (Int32.ofNat ou198.length)), (.ref b192), (.ref u28)]) _
        refine st234 _ ?_
        show Sp p e below T234 (mkF m 697 #[vi i0, vi i1, vi i2, vi i3, vi i4, vi i5, vi (Int32.ofNat nn), vi c4, vi c8, vi c12, vi c16, vi c20, vr u24, vr u28, vB fw0, vB fw1, vB fw2, vB fw3, vB fw4, vB fb0, vB fb1, vB fb2, vB fb3, vB fb4, vB fb0, vB fl1, vB fl2, vB fl3, vB fl4, vB fb4, vB fr3, vB fr2, vB fr1, vB fr0, vB fi0, vB fi1, vB fi2, vB fi3, vB fi4, vr b192, vi (Int32.ofNat ou198.length)] [(.int (1 : Int32))]) _
        exact retN X234 hx (t := .boolean) hret (by simp) (b at_697) hr
      · show Q_law Z i0 i1 i2 i3 i4 i5 h0 n0 _ T234.heap _
        rw [e234]
        exact ⟨rfl, N234⟩
      · rw [hh]
        show CHr Z consts_1 s.vm h0 T234.vm T234.heap
        rw [e234]
        exact hAe
  · have pre235 : Pr p e below s₁ E0 T192 (mkF m 694 #[vi i0, vi i1, vi i2, vi i3, vi i4, vi i5, vi (Int32.ofNat nn), vi c4, vi c8, vi c12, vi c16, vi c20, vr u24, vr u28, vB fw0, vB fw1, vB fw2, vB fw3, vB fw4, vB fb0, vB fb1, vB fb2, vB fb3, vB fb4, vB fb0, vB fl1, vB fl2, vB fl3, vB fl4, vB fb4, vB fr3, vB fr2, vB fr1, vB fr0, vB fi0, vB fi1, vB fi2, vB fi3, vB fi4, vr b192, vi (0 : Int32)] [(.int (0 : Int32)), (.ref b192), (.ref u28)]) := fun t k => pre196 t (by
      refine XS.ifYes X192.here hx rfl (pc0 := 587) (pc' := 604) rfl (b at_587) rfl ((if0 _ _).trans (flt (own_ltF (a := 0) (b := nn) hc195 (by omega))).2.2.2) (by decide) (by decide) ?_
      refine XS.iload X192.here hx rfl (b at_604) rfl ?_
      refine XS.iconst X192.here hx rfl (b at_606) ?_
      show Sp p e below T192 (mkF m 607 #[vi i0, vi i1, vi i2, vi i3, vi i4, vi i5, vi (Int32.ofNat nn), vi c4, vi c8, vi c12, vi c16, vi c20, vr u24, vr u28, vB fw0, vB fw1, vB fw2, vB fw3, vB fw4, vB fb0, vB fb1, vB fb2, vB fb3, vB fb4, vB fb0, vB fl1, vB fl2, vB fl3, vB fl4, vB fb4, vB fr3, vB fr2, vB fr1, vB fr0, vB fi0, vB fi1, vB fi2, vB fi3, vB fi4, vr b192, vi (0 : Int32)] [(.int (1 : Int32)), (.int (Int32.ofNat nn))]) t
      refine XS.icmpYes X192.here hx rfl (pc0 := 607) (pc' := 625) rfl (b at_607) rfl (flt (own_ltF (a := 1) (b := nn) (show ¬ 1 < nn by omega) (by omega))).2.2.2 (by decide) (by decide) ?_
      refine XS.iload X192.here hx rfl (b at_625) rfl ?_
      refine XS.iconst X192.here hx rfl (b at_627) ?_
      show Sp p e below T192 (mkF m 628 #[vi i0, vi i1, vi i2, vi i3, vi i4, vi i5, vi (Int32.ofNat nn), vi c4, vi c8, vi c12, vi c16, vi c20, vr u24, vr u28, vB fw0, vB fw1, vB fw2, vB fw3, vB fw4, vB fb0, vB fb1, vB fb2, vB fb3, vB fb4, vB fb0, vB fl1, vB fl2, vB fl3, vB fl4, vB fb4, vB fr3, vB fr2, vB fr1, vB fr0, vB fi0, vB fi1, vB fi2, vB fi3, vB fi4, vr b192, vi (0 : Int32)] [(.int (2 : Int32)), (.int (Int32.ofNat nn))]) t
      refine XS.icmpYes X192.here hx rfl (pc0 := 628) (pc' := 646) rfl (b at_628) rfl (flt (own_ltF (a := 2) (b := nn) (show ¬ 2 < nn by omega) (by omega))).2.2.2 (by decide) (by decide) ?_
      refine XS.iload X192.here hx rfl (b at_646) rfl ?_
      refine XS.iconst X192.here hx rfl (b at_648) ?_
      show Sp p e below T192 (mkF m 649 #[vi i0, vi i1, vi i2, vi i3, vi i4, vi i5, vi (Int32.ofNat nn), vi c4, vi c8, vi c12, vi c16, vi c20, vr u24, vr u28, vB fw0, vB fw1, vB fw2, vB fw3, vB fw4, vB fb0, vB fb1, vB fb2, vB fb3, vB fb4, vB fb0, vB fl1, vB fl2, vB fl3, vB fl4, vB fb4, vB fr3, vB fr2, vB fr1, vB fr0, vB fi0, vB fi1, vB fi2, vB fi3, vB fi4, vr b192, vi (0 : Int32)] [(.int (3 : Int32)), (.int (Int32.ofNat nn))]) t
      refine XS.icmpYes X192.here hx rfl (pc0 := 649) (pc' := 667) rfl (b at_649) rfl (flt (own_ltF (a := 3) (b := nn) (show ¬ 3 < nn by omega) (by omega))).2.2.2 (by decide) (by decide) ?_
      refine XS.iload X192.here hx rfl (b at_667) rfl ?_
      refine XS.iconst X192.here hx rfl (b at_669) ?_
      show Sp p e below T192 (mkF m 670 #[vi i0, vi i1, vi i2, vi i3, vi i4, vi i5, vi (Int32.ofNat nn), vi c4, vi c8, vi c12, vi c16, vi c20, vr u24, vr u28, vB fw0, vB fw1, vB fw2, vB fw3, vB fw4, vB fb0, vB fb1, vB fb2, vB fb3, vB fb4, vB fb0, vB fl1, vB fl2, vB fl3, vB fl4, vB fb4, vB fr3, vB fr2, vB fr1, vB fr0, vB fi0, vB fi1, vB fi2, vB fi3, vB fi4, vr b192, vi (0 : Int32)] [(.int (4 : Int32)), (.int (Int32.ofNat nn))]) t
      refine XS.icmpYes X192.here hx rfl (pc0 := 670) (pc' := 688) rfl (b at_670) rfl (flt (own_ltF (a := 4) (b := nn) (show ¬ 4 < nn by omega) (by omega))).2.2.2 (by decide) (by decide) ?_
      refine XS.aload X192.here hx rfl (b at_688) rfl rfl ?_
      refine XS.aload X192.here hx rfl (b at_690) rfl rfl ?_
      refine XS.iload X192.here hx rfl (b at_692) rfl ?_
      exact k)
    have hfin : own_of (own_mk nn c4 c8 c12 c16 c20) = ([] : List Int32) := by
      have en : nn = 0 := by omega
      subst en
      subst hfi4 hfi3 hfi2 hfi1 hfi0 hfr0 hfr1 hfr2 hfr3 hfl4 hfl3 hfl2 hfl1 hfb4 hfb3 hfb2 hfb1 hfb0 hfw4 hfw3 hfw2 hfw1 hfw0
      exact own_plain (by decide) c4 c8 c12 c16 c20
    have Uf := u194_2
    rw [hfin] at Uf
    obtain ⟨_, T236, L236, X236, hQ236, st236⟩ := own_cS X192 hx hml hZ hown (rm_same l Z a0 hw u28 b192 ([] : List Int32) t28 (fun _ => 0) h192 n0 Z192 hst od193 Uf Y192 (fun j hj => absurd hj (Nat.not_lt_zero _)) (by decide)) (w 83 rfl) (w 84 rfl) (w 3 rfl) (w 85 rfl) e192 (g := (mkF m 694 #[vi i0, vi i1, vi i2, vi i3, vi i4, vi i5, vi (Int32.ofNat nn), vi c4, vi c8, vi c12, vi c16, vi c20, vr u24, vr u28, vB fw0, vB fw1, vB fw2, vB fw3, vB fw4, vB fb0, vB fb1, vB fb2, vB fb3, vB fb4, vB fb0, vB fl1, vB fl2, vB fl3, vB fl4, vB fb4, vB fr3, vB fr2, vB fr1, vB fr0, vB fi0, vB fi1, vB fi2, vB fi3, vB fi4, vr b192, vi (0 : Int32)] [(.int (0 : Int32)), (.ref b192), (.ref u28)])) (argsL := [(.ref u28), (.ref b192), (.int (0 : Int32))]) (rest := []) (W := 0) (lenOf own_pd48 rfl) (b at_694)
    obtain ⟨rfl, Nq236, e236⟩ := hQ236
    have N236 := Fr.app N188 Nq236
    obtain ⟨fs, hr, hrun, hended, hEnd⟩ := X236.leaveW hS24 (by rw [e236]; exact hk193) (v := some (.int (1 : Int32))) (fun h => by rw [hret] at h; cases h)
    have hAe := hA193.trans (CHv.at X236 hZ hEL hC193)
    refine ⟨_, _, pre235 _ ?_, hrun, hended, _, _, rfl, ?_, ?_, hEnd.1, hEnd.2.1, hEnd.2.2.1, hEnd.2.2.2.mono (by decide) (by decide)⟩
    · show Sp p e below T192 (mkF m 694 #[vi i0, vi i1, vi i2, vi i3, vi i4, vi i5, vi (Int32.ofNat nn), vi c4, vi c8, vi c12, vi c16, vi c20, vr u24, vr u28, vB fw0, vB fw1, vB fw2, vB fw3, vB fw4, vB fb0, vB fb1, vB fb2, vB fb3, vB fb4, vB fb0, vB fl1, vB fl2, vB fl3, vB fl4, vB fb4, vB fr3, vB fr2, vB fr1, vB fr0, vB fi0, vB fi1, vB fi2, vB fi3, vB fi4, vr b192, vi (0 : Int32)] [(.int (0 : Int32)), (.ref b192), (.ref u28)]) _
      refine st236 _ ?_
      show Sp p e below T236 (mkF m 697 #[vi i0, vi i1, vi i2, vi i3, vi i4, vi i5, vi (Int32.ofNat nn), vi c4, vi c8, vi c12, vi c16, vi c20, vr u24, vr u28, vB fw0, vB fw1, vB fw2, vB fw3, vB fw4, vB fb0, vB fb1, vB fb2, vB fb3, vB fb4, vB fb0, vB fl1, vB fl2, vB fl3, vB fl4, vB fb4, vB fr3, vB fr2, vB fr1, vB fr0, vB fi0, vB fi1, vB fi2, vB fi3, vB fi4, vr b192, vi (0 : Int32)] [(.int (1 : Int32))]) _
      exact retN X236 hx (t := .boolean) hret (by simp) (b at_697) hr
    · show Q_law Z i0 i1 i2 i3 i4 i5 h0 n0 _ T236.heap _
      rw [e236]
      exact ⟨rfl, N236⟩
    · rw [hh]
      show CHr Z consts_1 s.vm h0 T236.vm T236.heap
      rw [e236]
      exact hAe
theorem own_fitR {c : String} {v : Value} (h : fits (.object c) v = true) : v.isRef = true := by cases v <;> simp [fits, Value.isRef] at h ⊢
set_option maxRecDepth 65536 in
set_option maxHeartbeats 40000000 in
theorem comes_1 {Post : Tables → Env → Array Value → State → Outcome → State → Prop} (hpost : ∀ tb e args s v u, (limb_1_1.after args s (.returned v) u = true ∧ limb_1_2.after args s (.returned v) u = true ∧ True) → ReturnedEndW s (.returned v) u (Jvm.fieldLocs frame_1_writes args s ++ Jvm.arrayLocs frame_1_arrays args s ++ Jvm.staticLocs frame_1_statics s) 40 1280 → Post tb e args s (.returned v) u) :
    ArmFor flags0 classFile x code maxLocals ret World_1 tables_1 room_1 Calls_1 rest_1 Pre_1 Post := by
  intro l hfl _ _ p e ha hc hk s m args below hf hA hF happ hP
  obtain ⟨hcalls, hrest, hpre⟩ := hP
  obtain ⟨-, -, -, hnamed, -, -, -, hat⟩ := (Spec.applies_iff hf).mp happ
  obtain ⟨hg, hn⟩ := and_e (Cond.before_iff.mp (show (Jvm.Cond.and given_1 narrow_1).before args s = true from hpre))
  obtain ⟨hcnt, hg0⟩ := and_e hg
  obtain ⟨ha0, hg1⟩ := and_e hg0
  obtain ⟨ha1, hg2⟩ := and_e hg1
  obtain ⟨ha2, hg3⟩ := and_e hg2
  obtain ⟨ha3, hg4⟩ := and_e hg3
  obtain ⟨ha4, hg5⟩ := and_e hg4
  have ha5 := hg5
  obtain ⟨w0, w1, w2, w3, w4, w5, rfl⟩ : ∃ w0 w1 w2 w3 w4 w5 : Value, args = #[w0, w1, w2, w3, w4, w5] := by
    have hs : args.size = 6 := by simpa [Cond.value, given_1] using hcnt
    obtain ⟨L⟩ := args
    match L, hs with
    | [w0, w1, w2, w3, w4, w5], _ => exact ⟨w0, w1, w2, w3, w4, w5, rfl⟩
  have hw := fun d (hd : d ∈ tables_1) => atoms_spec (ws := Jvm.Cond.code x code maxLocals ret :: tables_1) hat d (List.mem_cons_of_mem _ hd)
  have hfit : Fit s := fun {y c} hc i hi => by
    obtain ⟨ha, rfl⟩ := Array.getElem?_eq_some_iff.mp hc
    have q := List.all_eq_true.mp ((Array.all_eq_true_iff_forall_mem.mp hF) _ (Array.getElem_mem ha)) i (List.mem_range.mpr hi)
    simpa [Array.getElem?_eq_getElem hi] using q
  obtain ⟨hsets, hown0⟩ := atoms_of _ (rest_1_c_eq ▸ (show rest_1_c.before _ s = true from hrest))
  have hr0 := Cond.before_iff.mp hown0
  obtain ⟨i0, ei0⟩ := is_v ha0
  obtain rfl : w0 = (.int i0) := Option.some.inj ei0
  obtain ⟨i1, ei1⟩ := is_v ha1
  obtain rfl : w1 = (.int i1) := Option.some.inj ei1
  obtain ⟨i2, ei2⟩ := is_v ha2
  obtain rfl : w2 = (.int i2) := Option.some.inj ei2
  obtain ⟨i3, ei3⟩ := is_v ha3
  obtain rfl : w3 = (.int i3) := Option.some.inj ei3
  obtain ⟨i4, ei4⟩ := is_v ha4
  obtain rfl : w4 = (.int i4) := Option.some.inj ei4
  obtain ⟨i5, ei5⟩ := is_v ha5
  obtain rfl : w5 = (.int i5) := Option.some.inj ei5
  have w := own_w hw
  have n3 := not_v (Cond.before_iff.mp (hsets _ (List.mem_of_getElem? (i := 2) rfl)))
  obtain ⟨G1, e6⟩ := is_v (Cond.before_iff.mp (hsets _ (List.mem_of_getElem? (i := 1) rfl)))
  have O1 : Sta s s.heap "java/lang/String" "COMPACT_STRINGS" "Z" (.int G1) := Sta.start e6 (Or.inl (hsets _ (List.mem_of_getElem? (i := 0) rfl)))
  have P1 : ¬ (G1 = (0 : Int32)) := gotF (Cond.eq_ints e6 (Term.int_eval (0))) n3
  obtain ⟨v2, q2, r2⟩ := isR_v (Cond.before_iff.mp (hsets _ (List.mem_of_getElem? (i := 8) rfl)))
  have O2 := Sta.start q2 (Or.inl (hsets _ (List.mem_of_getElem? (i := 7) rfl)))
  obtain ⟨v3, q3, f3⟩ := static_fit hfit (w 124 rfl) (ty := .object "java/util/function/BiFunction") (by decide)
  have O3 := Sta.start q3 (Or.inr ⟨(w 70 rfl), (w 124 rfl)⟩)
  obtain ⟨u4, q4, f4⟩ := static_fit hfit (hsets _ (List.mem_of_getElem? (i := 10) rfl)) (ty := .boolean) (by decide)
  obtain ⟨x4, rfl⟩ := fit_I f4 (by simp)
  have y4 := gotT (Cond.eq_ints q4 (Term.int_eval (1))) (Cond.before_iff.mp (hsets _ (List.mem_of_getElem? (i := 12) rfl)))
  subst y4
  have O4 := Sta.start q4 (Or.inl (hsets _ (List.mem_of_getElem? (i := 11) rfl)))
  obtain ⟨u5, q5, f5⟩ := static_fit hfit (hsets _ (List.mem_of_getElem? (i := 13) rfl)) (ty := .int) (by decide)
  obtain ⟨x5, rfl⟩ := fit_I f5 (by simp)
  have y5 := gotT (Cond.eq_ints q5 (Term.int_eval (0))) (Cond.before_iff.mp (hsets _ (List.mem_of_getElem? (i := 15) rfl)))
  subst y5
  have O5 := Sta.start q5 (Or.inl (hsets _ (List.mem_of_getElem? (i := 14) rfl)))
  obtain ⟨u6, q6, f6⟩ := static_fit hfit (hsets _ (List.mem_of_getElem? (i := 16) rfl)) (ty := .int) (by decide)
  obtain ⟨x6, rfl⟩ := fit_I f6 (by simp)
  have y6 := gotT (Cond.eq_ints q6 (Term.int_eval (8))) (Cond.before_iff.mp (hsets _ (List.mem_of_getElem? (i := 18) rfl)))
  subst y6
  have O6 := Sta.start q6 (Or.inl (hsets _ (List.mem_of_getElem? (i := 17) rfl)))
  have hst : own_St s := ⟨G1, v2, v3, P1, r2, own_fitR f3, O1, O2, O3, O4, O5, O6⟩
  have hC0 : CHv s consts_1 s.vm s.heap := CHv.start (own_EW hw) hcalls.1 (hsets _ (List.mem_of_getElem? (i := 2) rfl)) (w 27 rfl) (w 10 rfl)
  obtain ⟨n, o, h1, h2, h3, _, L, rfl, ⟨rfl, N⟩, -, hq⟩ := rm_law l s _ hw tables_1 i0 i1 i2 i3 i4 i5 s.heap s.heap.size (Nat.le_refl _) hst (Old.start s) p e ha hc hk s m _ below hf ((Spec.applies_iff_loose hf).mp happ).1 ⟨rfl, State.Warmed39.refl s, rfl, hC0⟩ trivial
  refine ⟨n, _, h1, h2, h3, hpost _ _ _ _ _ _ ⟨Cond.after_iff.mpr rfl, Cond.after_iff.mpr (eq_i res_at (Term.int_eval (1)) rfl), trivial⟩ ⟨hq.1, hq.2.1, hq.2.2.1, (hq.2.2.2.sift fun y hy => Or.inr (N y hy)).mono (by decide) (by decide)⟩⟩
theorem main_1_1 : Claimed_1_1 := comes_1 fun _ _ _ _ _ _ h hF => ⟨h.1, hF⟩
theorem main_1_2 : Claimed_1_2 := comes_1 fun _ _ _ _ _ _ h hF => ⟨h.2.1, hF⟩
end Jvm.Pilot.@@N@@
namespace Jvm.Pilot.@@N@@
open Jvm Jvm.ClassFile Sem Op Lib Jvm.Free Jvm.Stand Jvm.Pilot.@@N@@.Jvm.D
/-! MADE BY PROGRAM (witnessworld.py) out of the Statement's table words and the real class files: 26 classes; the members and pool entries that the words name. The judged class is class 1, her method 1. -/
namespace start1
open Jvm.ClassFile
def u (s : String) : CpInfo := .utf8 (stringToUtf16 s)
/-- a pool by its gaps: so many unusable entries, then the entry; so many at the end -/
def gap : Nat → List CpInfo → List CpInfo
  | 0, r => r
  | n + 1, r => .unusable :: gap n r
def poolList (es : List (Nat × CpInfo)) (last : Nat) : List CpInfo := es.foldr (fun e r => gap e.1 (e.2 :: r)) (gap last [])
def pool (es : List (Nat × CpInfo)) (last : Nat) : Array CpInfo := ⟨poolList es last⟩
def fileOf (pool : Array CpInfo) (this : Nat) (attrs : Array Attribute := #[]) (ms : Array MethodInfo := #[]) (fl : Nat := 33) (sup : Nat := 0) (ifs : Array Nat := #[]) (fds : Array FieldInfo := #[]) : ClassFile where
  minorVersion := 0
  majorVersion := 65
  constantPool := pool
  accessFlags := fl
  thisClass := this
  superClass := sup
  interfaces := ifs
  fields := fds
  methods := ms
  attributes := attrs
def plain (name : String) (sup : Option ClassId) : Class where
  name := name
  kind := .ordinary
  loader := none
  accessFlags := 33
  super := sup
  interfaces := #[]
  cf := none
  fields := #[]
  methods := #[]
  instanceTypes := #[]
  staticTypes := #[]
  resolved := #[]
  callSites := []
  init := .initialized
  statics := none
  mirror := none

def pool0 : Array CpInfo := pool [(5, u "<init>"), (0, u "()V"), (1, .class_ 10), (1, u "java/lang/Object"), (85, u "clone"), (0, u "()Ljava/lang/Object;")] 26

def k0c0 : Code := { maxStack := 0, maxLocals := 1, code := object_method_1_code, exceptionTable := #[], attributes := #[] }
def k0m0 : Method := { name := "<init>", desc := "()V", sig := { parameters := [], returnType := none }, accessFlags := 1, code := some k0c0 }
def k0m1 : Method := { name := "clone", desc := "()Ljava/lang/Object;", sig := { parameters := [], returnType := some (.object "java/lang/Object") }, accessFlags := 260, code := none }
/-- java/lang/Object -/
def k0 : Class := { plain "java/lang/Object" none with
  accessFlags := 33
  interfaces := #[]
  cf := some (fileOf pool0 8 #[] #[{ accessFlags := 1, nameIndex := 5, descriptorIndex := 6, attributes := #[] }, { accessFlags := 260, nameIndex := 96, descriptorIndex := 97, attributes := #[] }] 33 0 #[] #[])
  fields := #[]
  methods := #[k0m0, k0m1]
  instanceTypes := #[]
  staticTypes := #[]
  resolved := Array.replicate 124 none
  statics := none }

def pool1 : Array CpInfo := pool [(2, .class_ 4), (1, u "java/lang/Object"), (0, u "<init>"), (0, u "()V"), (0, .integer 2147483647), (0, .methodref 9 10), (0, .class_ 11), (0, .nameAndType 12 13), (0, u "org/interpunct/marc/OneLineOfPinLaw"), (0, u "ch"), (0, u "(I)C"), (0, .methodref 9 15), (0, .nameAndType 16 17), (0, u "make"), (0, u "(ICCCCC)Ljava/lang/String;"), (0, .methodref 19 20), (0, .class_ 21), (0, .nameAndType 22 23), (0, u "org/interpunct/marc/OneLine"), (0, u "of"), (0, u "(Ljava/lang/String;)Ljava/lang/String;"), (0, .methodref 9 25), (0, .nameAndType 26 27), (0, u "br"), (0, u "(C)Z"), (0, .methodref 9 29), (0, .nameAndType 30 31), (0, u "put"), (0, u "([CIZZC)I"), (0, .methodref 9 33), (0, .nameAndType 34 35), (0, u "same"), (0, u "(Ljava/lang/String;[CI)Z"), (0, .class_ 37), (0, u "java/lang/String"), (0, .methodref 36 39), (0, .nameAndType 5 40), (0, u "([C)V"), (0, .methodref 36 42), (0, .nameAndType 43 44), (0, u "length"), (0, u "()I"), (0, .methodref 36 46), (0, .nameAndType 47 13), (0, u "charAt"), (2, u "law"), (0, u "(IIIIII)Z")] 5

def k1m0 : Method := { name := "<init>", desc := "()V", sig := { parameters := [], returnType := none }, accessFlags := 1, code := none }
def k1c1 : Code := { maxStack := 6, maxLocals := 41, code := code, exceptionTable := #[], attributes := #[] }
def k1m1 : Method := { name := "law", desc := "(IIIIII)Z", sig := { parameters := [.int, .int, .int, .int, .int, .int], returnType := some .boolean }, accessFlags := 9, code := some k1c1 }
def k1c2 : Code := { maxStack := 4, maxLocals := 4, code := method_3_code, exceptionTable := #[], attributes := #[] }
def k1m2 : Method := { name := "ch", desc := "(I)C", sig := { parameters := [.int], returnType := some .char }, accessFlags := 10, code := some k1c2 }
def k1c3 : Code := { maxStack := 2, maxLocals := 1, code := method_4_code, exceptionTable := #[], attributes := #[] }
def k1m3 : Method := { name := "br", desc := "(C)Z", sig := { parameters := [.char], returnType := some .boolean }, accessFlags := 10, code := some k1c3 }
def k1c4 : Code := { maxStack := 6, maxLocals := 6, code := method_5_code, exceptionTable := #[], attributes := #[] }
def k1m4 : Method := { name := "make", desc := "(ICCCCC)Ljava/lang/String;", sig := { parameters := [.int, .char, .char, .char, .char, .char], returnType := some (.object "java/lang/String") }, accessFlags := 10, code := some k1c4 }
def k1c5 : Code := { maxStack := 3, maxLocals := 5, code := method_6_code, exceptionTable := #[], attributes := #[] }
def k1m5 : Method := { name := "put", desc := "([CIZZC)I", sig := { parameters := [(.array .char), .int, .boolean, .boolean, .char], returnType := some .int }, accessFlags := 10, code := some k1c5 }
def k1c6 : Code := { maxStack := 3, maxLocals := 3, code := method_7_code, exceptionTable := #[], attributes := #[] }
def k1m6 : Method := { name := "same", desc := "(Ljava/lang/String;[CI)Z", sig := { parameters := [(.object "java/lang/String"), (.array .char), .int], returnType := some .boolean }, accessFlags := 10, code := some k1c6 }
/-- org/interpunct/marc/OneLineOfPinLaw -/
def k1 : Class := { plain "org/interpunct/marc/OneLineOfPinLaw" (some 0) with
  accessFlags := 49
  interfaces := #[]
  cf := some (fileOf pool1 9 #[] #[{ accessFlags := 1, nameIndex := 5, descriptorIndex := 6, attributes := #[] }, { accessFlags := 9, nameIndex := 50, descriptorIndex := 51, attributes := #[] }, { accessFlags := 10, nameIndex := 12, descriptorIndex := 13, attributes := #[] }, { accessFlags := 10, nameIndex := 26, descriptorIndex := 27, attributes := #[] }, { accessFlags := 10, nameIndex := 16, descriptorIndex := 17, attributes := #[] }, { accessFlags := 10, nameIndex := 30, descriptorIndex := 31, attributes := #[] }, { accessFlags := 10, nameIndex := 34, descriptorIndex := 35, attributes := #[] }] 49 2 #[] #[])
  fields := #[]
  methods := #[k1m0, k1m1, k1m2, k1m3, k1m4, k1m5, k1m6]
  instanceTypes := #[]
  staticTypes := #[]
  resolved := Array.replicate 57 none
  statics := none }

def pool2 : Array CpInfo := pool [(1, .class_ 2), (0, u "java/io/Serializable"), (0, .class_ 4), (0, u "java/lang/Object")] 2

/-- java/io/Serializable -/
def k2 : Class := { plain "java/io/Serializable" (some 0) with
  accessFlags := 1537
  interfaces := #[]
  cf := some (fileOf pool2 1 #[] #[] 1537 3 #[] #[])
  fields := #[]
  methods := #[]
  instanceTypes := #[]
  staticTypes := #[]
  resolved := Array.replicate 7 none
  statics := none }

def pool3 : Array CpInfo := pool [(1, .class_ 2), (0, u "java/lang/Comparable"), (0, .class_ 4), (0, u "java/lang/Object")] 7

/-- java/lang/Comparable -/
def k3 : Class := { plain "java/lang/Comparable" (some 0) with
  accessFlags := 1537
  interfaces := #[]
  cf := some (fileOf pool3 1 #[] #[] 1537 3 #[] #[])
  fields := #[]
  methods := #[]
  instanceTypes := #[]
  staticTypes := #[]
  resolved := Array.replicate 12 none
  statics := none }

def pool4 : Array CpInfo := pool [(2, .class_ 4), (1, u "java/lang/CharSequence"), (0, u "length"), (0, u "()I"), (40, .class_ 48), (0, u "java/lang/CharSequence$1CodePointIterator"), (10, .class_ 60), (0, u "java/lang/CharSequence$1CharIterator"), (5, .class_ 67), (0, u "java/lang/Object")] 63

def k4m0 : Method := { name := "length", desc := "()I", sig := { parameters := [], returnType := some .int }, accessFlags := 1025, code := none }
/-- java/lang/CharSequence -/
def k4 : Class := { plain "java/lang/CharSequence" (some 0) with
  accessFlags := 1537
  interfaces := #[]
  cf := some (fileOf pool4 2 #[.nestMembers #[47, 59]] #[{ accessFlags := 1025, nameIndex := 5, descriptorIndex := 6, attributes := #[] }] 1537 66 #[] #[])
  fields := #[]
  methods := #[k4m0]
  instanceTypes := #[]
  staticTypes := #[]
  resolved := Array.replicate 131 none
  statics := none }

def pool5 : Array CpInfo := pool [(1, .class_ 2), (0, u "java/lang/constant/Constable"), (0, .class_ 4), (0, u "java/lang/Object")] 6

/-- java/lang/constant/Constable -/
def k5 : Class := { plain "java/lang/constant/Constable" (some 0) with
  accessFlags := 1537
  interfaces := #[]
  cf := some (fileOf pool5 1 #[] #[] 1537 3 #[] #[])
  fields := #[]
  methods := #[]
  instanceTypes := #[]
  staticTypes := #[]
  resolved := Array.replicate 11 none
  statics := none }

def pool6 : Array CpInfo := pool [(1, .class_ 2), (0, u "java/lang/constant/ConstantDesc"), (0, .class_ 4), (0, u "java/lang/Object")] 32

/-- java/lang/constant/ConstantDesc -/
def k6 : Class := { plain "java/lang/constant/ConstantDesc" (some 0) with
  accessFlags := 1537
  interfaces := #[]
  cf := some (fileOf pool6 1 #[] #[] 1537 3 #[] #[])
  fields := #[]
  methods := #[]
  instanceTypes := #[]
  staticTypes := #[]
  resolved := Array.replicate 37 none
  statics := none }

def pool7 : Array CpInfo := pool [(1, .methodref 2 3), (0, .class_ 4), (0, .nameAndType 5 6), (0, u "java/lang/Object"), (0, u "<init>"), (0, u "()V"), (0, .string 8), (0, u ""), (0, .fieldref 10 11), (0, .class_ 12), (0, .nameAndType 13 14), (0, u "java/lang/String"), (0, u "value"), (0, u "[B"), (0, .fieldref 10 16), (0, .nameAndType 17 18), (0, u "coder"), (0, u "B"), (2, u "hash"), (0, u "I"), (2, u "hashIsZero"), (0, u "Z"), (0, .methodref 10 28), (0, .nameAndType 5 29), (0, u "([CIILjava/lang/Void;)V"), (6, u "checkBoundsOffCount"), (0, u "(III)I"), (0, .fieldref 10 39), (0, .nameAndType 40 26), (0, u "COMPACT_STRINGS"), (1, .class_ 44), (1, u "java/lang/StringUTF16"), (0, u "compress"), (1, .methodref 42 48), (0, .nameAndType 49 50), (0, u "coderFromArrayLen"), (0, u "([BI)B"), (3, .methodref 55 56), (0, .class_ 57), (0, .nameAndType 58 59), (0, u "java/util/Arrays"), (0, u "copyOfRange"), (0, u "([BII)[B"), (47, .class_ 109), (1, u "java/lang/StringLatin1"), (32, u "()Z"), (34, .methodref 42 178), (0, .nameAndType 45 179), (0, u "([CII)[B"), (154, u "()I"), (0, .methodref 10 336), (0, .nameAndType 17 337), (0, u "()B"), (2, u "()[B"), (22, u "([BI)C"), (27, u "(II)V"), (35, u "(I)C"), (61, .methodref 10 490), (0, .nameAndType 5 491), (0, u "(Ljava/lang/AbstractStringBuilder;Ljava/lang/Void;)V"), (0, .methodref 10 493), (0, .nameAndType 494 142), (0, u "isLatin1"), (0, .methodref 107 496), (0, .nameAndType 497 363), (0, u "charAt"), (0, .methodref 42 496), (2, u "checkIndex"), (4, .nameAndType 507 334), (0, u "length"), (41, .methodref 550 506), (0, .class_ 551), (0, u "java/lang/AbstractStringBuilder"), (0, .methodref 550 553), (0, .nameAndType 554 340), (0, u "getValue"), (20, .class_ 576), (0, u "java/lang/CharSequence"), (22, u "CASE_INSENSITIVE_ORDER"), (0, u "Ljava/util/Comparator;"), (409, u "([C)V"), (36, .methodref 550 493), (0, .fieldref 550 1049), (0, .nameAndType 1050 26), (0, u "maybeLatin1"), (0, .methodref 42 1052), (0, .nameAndType 45 59), (0, .fieldref 1054 1055), (0, .class_ 1056), (0, .nameAndType 1057 1058), (0, u "jdk/internal/util/Preconditions"), (0, u "SIOOBE_FORMATTER"), (0, u "Ljava/util/function/BiFunction;"), (0, .methodref 1054 1060), (0, .nameAndType 501 1061), (0, u "(IILjava/util/function/BiFunction;)I"), (2, u "(IIILjava/util/function/BiFunction;)I"), (0, .methodref 1054 1066), (0, .nameAndType 1067 1064), (0, u "checkFromIndexSize"), (33, u "serialPersistentFields"), (0, u "[Ljava/io/ObjectStreamField;"), (0, .class_ 1104), (0, u "java/lang/String$CaseInsensitiveComparator"), (1, .class_ 1107), (0, u "java/io/Serializable"), (0, .class_ 1109), (0, u "java/lang/Comparable"), (0, .class_ 1111), (0, u "java/lang/constant/Constable"), (0, .class_ 1113), (0, u "java/lang/constant/ConstantDesc"), (2, u "serialVersionUID"), (0, u "J"), (3, u "REPL"), (0, u "C"), (2, u "LATIN1"), (1, u "UTF16"), (105, u "(Ljava/lang/StringBuilder;)V")] 217

def k7m0 : Method := { name := "<init>", desc := "()V", sig := { parameters := [], returnType := none }, accessFlags := 1, code := none }
def k7c1 : Code := { maxStack := 5, maxLocals := 2, code := jdk_42_method_3_code, exceptionTable := #[], attributes := #[] }
def k7m1 : Method := { name := "<init>", desc := "([C)V", sig := { parameters := [(.array .char)], returnType := none }, accessFlags := 1, code := some k7c1 }
def k7c2 : Code := { maxStack := 3, maxLocals := 2, code := jdk_42_method_53_code, exceptionTable := #[], attributes := #[] }
def k7m2 : Method := { name := "<init>", desc := "(Ljava/lang/StringBuilder;)V", sig := { parameters := [(.object "java/lang/StringBuilder")], returnType := none }, accessFlags := 1, code := some k7c2 }
def k7c3 : Code := { maxStack := 2, maxLocals := 1, code := jdk_42_method_54_code, exceptionTable := #[], attributes := #[] }
def k7m3 : Method := { name := "length", desc := "()I", sig := { parameters := [], returnType := some .int }, accessFlags := 1, code := some k7c3 }
def k7c4 : Code := { maxStack := 2, maxLocals := 2, code := jdk_42_method_56_code, exceptionTable := #[], attributes := #[] }
def k7m4 : Method := { name := "charAt", desc := "(I)C", sig := { parameters := [.int], returnType := some .char }, accessFlags := 1, code := some k7c4 }
def k7c5 : Code := { maxStack := 4, maxLocals := 6, code := jdk_42_method_149_code, exceptionTable := #[], attributes := #[] }
def k7m5 : Method := { name := "<init>", desc := "([CIILjava/lang/Void;)V", sig := { parameters := [(.array .char), .int, .int, (.object "java/lang/Void")], returnType := none }, accessFlags := 2, code := some k7c5 }
def k7c6 : Code := { maxStack := 5, maxLocals := 5, code := jdk_42_method_150_code, exceptionTable := #[], attributes := #[] }
def k7m6 : Method := { name := "<init>", desc := "(Ljava/lang/AbstractStringBuilder;Ljava/lang/Void;)V", sig := { parameters := [(.object "java/lang/AbstractStringBuilder"), (.object "java/lang/Void")], returnType := none }, accessFlags := 0, code := some k7c6 }
def k7c7 : Code := { maxStack := 1, maxLocals := 1, code := jdk_42_method_152_code, exceptionTable := #[], attributes := #[] }
def k7m7 : Method := { name := "coder", desc := "()B", sig := { parameters := [], returnType := some .byte }, accessFlags := 0, code := some k7c7 }
def k7c8 : Code := { maxStack := 1, maxLocals := 1, code := jdk_42_method_153_code, exceptionTable := #[], attributes := #[] }
def k7m8 : Method := { name := "value", desc := "()[B", sig := { parameters := [], returnType := some (.array .byte) }, accessFlags := 0, code := some k7c8 }
def k7c9 : Code := { maxStack := 1, maxLocals := 1, code := jdk_42_method_154_code, exceptionTable := #[], attributes := #[] }
def k7m9 : Method := { name := "isLatin1", desc := "()Z", sig := { parameters := [], returnType := some .boolean }, accessFlags := 0, code := some k7c9 }
def k7c10 : Code := { maxStack := 3, maxLocals := 2, code := jdk_42_method_155_code, exceptionTable := #[], attributes := #[] }
def k7m10 : Method := { name := "checkIndex", desc := "(II)V", sig := { parameters := [.int, .int], returnType := none }, accessFlags := 8, code := some k7c10 }
def k7c11 : Code := { maxStack := 4, maxLocals := 3, code := jdk_42_method_157_code, exceptionTable := #[], attributes := #[] }
def k7m11 : Method := { name := "checkBoundsOffCount", desc := "(III)I", sig := { parameters := [.int, .int, .int], returnType := some .int }, accessFlags := 8, code := some k7c11 }
/-- java/lang/String -/
def k7 : Class := { plain "java/lang/String" (some 0) with
  accessFlags := 49
  interfaces := #[2, 3, 4, 5, 6]
  cf := some (fileOf pool7 10 #[.nestMembers #[1103]] #[{ accessFlags := 1, nameIndex := 5, descriptorIndex := 6, attributes := #[] }, { accessFlags := 1, nameIndex := 5, descriptorIndex := 1010, attributes := #[] }, { accessFlags := 1, nameIndex := 5, descriptorIndex := 1233, attributes := #[] }, { accessFlags := 1, nameIndex := 507, descriptorIndex := 334, attributes := #[] }, { accessFlags := 1, nameIndex := 497, descriptorIndex := 427, attributes := #[] }, { accessFlags := 2, nameIndex := 5, descriptorIndex := 29, attributes := #[] }, { accessFlags := 0, nameIndex := 5, descriptorIndex := 491, attributes := #[] }, { accessFlags := 0, nameIndex := 17, descriptorIndex := 337, attributes := #[] }, { accessFlags := 0, nameIndex := 13, descriptorIndex := 340, attributes := #[] }, { accessFlags := 0, nameIndex := 494, descriptorIndex := 142, attributes := #[] }, { accessFlags := 8, nameIndex := 501, descriptorIndex := 391, attributes := #[] }, { accessFlags := 8, nameIndex := 36, descriptorIndex := 37, attributes := #[] }] 49 2 #[1106, 1108, 575, 1110, 1112] #[{ accessFlags := 18, nameIndex := 13, descriptorIndex := 14, attributes := #[] }, { accessFlags := 18, nameIndex := 17, descriptorIndex := 18, attributes := #[] }, { accessFlags := 2, nameIndex := 21, descriptorIndex := 22, attributes := #[] }, { accessFlags := 2, nameIndex := 25, descriptorIndex := 26, attributes := #[] }, { accessFlags := 26, nameIndex := 1116, descriptorIndex := 1117, attributes := #[] }, { accessFlags := 24, nameIndex := 40, descriptorIndex := 26, attributes := #[] }, { accessFlags := 26, nameIndex := 1101, descriptorIndex := 1102, attributes := #[] }, { accessFlags := 26, nameIndex := 1121, descriptorIndex := 1122, attributes := #[] }, { accessFlags := 25, nameIndex := 599, descriptorIndex := 600, attributes := #[] }, { accessFlags := 24, nameIndex := 1125, descriptorIndex := 18, attributes := #[] }, { accessFlags := 24, nameIndex := 1127, descriptorIndex := 18, attributes := #[] }])
  fields := #[{ name := "value", type := (.array .byte), accessFlags := 18, slot := 0, constantValue := 0 }, { name := "coder", type := .byte, accessFlags := 18, slot := 1, constantValue := 0 }, { name := "hash", type := .int, accessFlags := 2, slot := 2, constantValue := 0 }, { name := "hashIsZero", type := .boolean, accessFlags := 2, slot := 3, constantValue := 0 }, { name := "serialVersionUID", type := .long, accessFlags := 26, slot := 0, constantValue := 0 }, { name := "COMPACT_STRINGS", type := .boolean, accessFlags := 24, slot := 1, constantValue := 0 }, { name := "serialPersistentFields", type := (.array (.object "java/io/ObjectStreamField")), accessFlags := 26, slot := 2, constantValue := 0 }, { name := "REPL", type := .char, accessFlags := 26, slot := 3, constantValue := 0 }, { name := "CASE_INSENSITIVE_ORDER", type := (.object "java/util/Comparator"), accessFlags := 25, slot := 4, constantValue := 0 }, { name := "LATIN1", type := .byte, accessFlags := 24, slot := 5, constantValue := 0 }, { name := "UTF16", type := .byte, accessFlags := 24, slot := 6, constantValue := 0 }]
  methods := #[k7m0, k7m1, k7m2, k7m3, k7m4, k7m5, k7m6, k7m7, k7m8, k7m9, k7m10, k7m11]
  instanceTypes := #[(.array .byte), .byte, .int, .boolean]
  staticTypes := #[.long, .boolean, (.array (.object "java/io/ObjectStreamField")), .char, (.object "java/util/Comparator"), .byte, .byte]
  resolved := Array.replicate 1451 none
  statics := some 0 }

def pool8 : Array CpInfo := pool [(3, .class_ 4), (0, u "java/lang/String"), (1, .class_ 8), (1, u "java/lang/Object"), (0, u "<init>"), (0, u "()V"), (0, .methodref 12 13), (0, .class_ 14), (0, .nameAndType 15 16), (0, u "java/lang/StringUTF16"), (0, u "newBytesLength"), (0, u "(I)I"), (3, .integer 1073741823), (23, .fieldref 12 45), (0, .nameAndType 46 47), (0, u "$assertionsDisabled"), (0, u "Z"), (0, .methodref 12 49), (0, .nameAndType 50 51), (0, u "length"), (0, u "([B)I"), (7, .fieldref 12 60), (0, .nameAndType 61 62), (0, u "HI_BYTE_SHIFT"), (0, u "I"), (0, .fieldref 12 64), (0, .nameAndType 65 62), (0, u "LO_BYTE_SHIFT"), (1, .methodref 12 68), (0, .nameAndType 69 70), (0, u "checkIndex"), (0, u "(I[B)V"), (0, .methodref 12 72), (0, .nameAndType 73 74), (0, u "getChar"), (0, u "([BI)C"), (24, u "(II[B)V"), (7, .methodref 12 108), (0, .nameAndType 109 110), (0, u "newBytesFor"), (0, u "(I)[B"), (0, .methodref 12 112), (0, .nameAndType 113 114), (0, u "putChar"), (0, u "([BII)V"), (0, .methodref 12 116), (0, .nameAndType 117 118), (0, u "compress"), (0, u "([CI[BII)I"), (0, .methodref 12 120), (0, .nameAndType 121 122), (0, u "toBytes"), (0, u "([CII)[B"), (0, .methodref 12 124), (0, .nameAndType 117 125), (0, u "([BI[BII)I"), (0, .methodref 127 128), (0, .class_ 129), (0, .nameAndType 130 131), (0, u "java/util/Arrays"), (0, u "copyOfRange"), (0, u "([BII)[B"), (8, u "inflate"), (0, u "([BI[BII)V"), (31, .methodref 12 174), (0, .nameAndType 175 99), (0, u "checkBoundsOffCount"), (85, u "coderFromArrayLen"), (0, u "([BI)B"), (18, u "(III)I"), (87, .class_ 371), (1, u "java/lang/StringUTF16$LinesSpliterator"), (20, u "charAt"), (21, .methodref 3 415), (0, .nameAndType 69 416), (0, u "(II)V"), (2, .methodref 3 420), (0, .nameAndType 175 281), (9, u "MAX_LENGTH"), (155, u "putCharSB"), (40, .class_ 628), (0, u "java/lang/StringUTF16$CodePointsSpliterator"), (0, .class_ 630), (0, u "java/lang/StringUTF16$CharsSpliterator")] 4

def k8m0 : Method := { name := "<init>", desc := "()V", sig := { parameters := [], returnType := none }, accessFlags := 0, code := none }
def k8c1 : Code := { maxStack := 1, maxLocals := 1, code := jdk_52_method_2_code, exceptionTable := #[], attributes := #[] }
def k8m1 : Method := { name := "newBytesFor", desc := "(I)[B", sig := { parameters := [.int], returnType := some (.array .byte) }, accessFlags := 9, code := some k8c1 }
def k8c2 : Code := { maxStack := 4, maxLocals := 1, code := jdk_52_method_3_code, exceptionTable := #[], attributes := #[] }
def k8m2 : Method := { name := "newBytesLength", desc := "(I)I", sig := { parameters := [.int], returnType := some .int }, accessFlags := 9, code := some k8c2 }
def k8c3 : Code := { maxStack := 4, maxLocals := 3, code := jdk_52_method_4_code, exceptionTable := #[], attributes := #[] }
def k8m3 : Method := { name := "putChar", desc := "([BII)V", sig := { parameters := [(.array .byte), .int, .int], returnType := none }, accessFlags := 8, code := some k8c3 }
def k8c4 : Code := { maxStack := 3, maxLocals := 2, code := jdk_52_method_5_code, exceptionTable := #[], attributes := #[] }
def k8m4 : Method := { name := "getChar", desc := "([BI)C", sig := { parameters := [(.array .byte), .int], returnType := some .char }, accessFlags := 8, code := some k8c4 }
def k8c5 : Code := { maxStack := 2, maxLocals := 1, code := jdk_52_method_6_code, exceptionTable := #[], attributes := #[] }
def k8m5 : Method := { name := "length", desc := "([B)I", sig := { parameters := [(.array .byte)], returnType := some .int }, accessFlags := 9, code := some k8c5 }
def k8c6 : Code := { maxStack := 4, maxLocals := 5, code := jdk_52_method_14_code, exceptionTable := #[], attributes := #[] }
def k8m6 : Method := { name := "toBytes", desc := "([CII)[B", sig := { parameters := [(.array .char), .int, .int], returnType := some (.array .byte) }, accessFlags := 9, code := some k8c6 }
def k8c7 : Code := { maxStack := 2, maxLocals := 2, code := jdk_52_method_15_code, exceptionTable := #[], attributes := #[] }
def k8m7 : Method := { name := "coderFromArrayLen", desc := "([BI)B", sig := { parameters := [(.array .byte), .int], returnType := some .byte }, accessFlags := 8, code := some k8c7 }
def k8c8 : Code := { maxStack := 5, maxLocals := 6, code := jdk_52_method_16_code, exceptionTable := #[], attributes := #[] }
def k8m8 : Method := { name := "compress", desc := "([CII)[B", sig := { parameters := [(.array .char), .int, .int], returnType := some (.array .byte) }, accessFlags := 9, code := some k8c8 }
def k8c9 : Code := { maxStack := 5, maxLocals := 6, code := jdk_52_method_17_code, exceptionTable := #[], attributes := #[] }
def k8m9 : Method := { name := "compress", desc := "([BII)[B", sig := { parameters := [(.array .byte), .int, .int], returnType := some (.array .byte) }, accessFlags := 9, code := some k8c9 }
def k8c10 : Code := { maxStack := 3, maxLocals := 7, code := jdk_52_method_21_code, exceptionTable := #[], attributes := #[] }
def k8m10 : Method := { name := "compress", desc := "([CI[BII)I", sig := { parameters := [(.array .char), .int, (.array .byte), .int, .int], returnType := some .int }, accessFlags := 9, code := some k8c10 }
def k8c11 : Code := { maxStack := 3, maxLocals := 7, code := jdk_52_method_22_code, exceptionTable := #[], attributes := #[] }
def k8m11 : Method := { name := "compress", desc := "([BI[BII)I", sig := { parameters := [(.array .byte), .int, (.array .byte), .int, .int], returnType := some .int }, accessFlags := 9, code := some k8c11 }
def k8c12 : Code := { maxStack := 3, maxLocals := 3, code := jdk_52_method_71_code, exceptionTable := #[], attributes := #[] }
def k8m12 : Method := { name := "putCharSB", desc := "([BII)V", sig := { parameters := [(.array .byte), .int, .int], returnType := none }, accessFlags := 9, code := some k8c12 }
def k8c13 : Code := { maxStack := 2, maxLocals := 2, code := jdk_52_method_83_code, exceptionTable := #[], attributes := #[] }
def k8m13 : Method := { name := "charAt", desc := "([BI)C", sig := { parameters := [(.array .byte), .int], returnType := some .char }, accessFlags := 9, code := some k8c13 }
def k8c14 : Code := { maxStack := 4, maxLocals := 6, code := jdk_52_method_86_code, exceptionTable := #[], attributes := #[] }
def k8m14 : Method := { name := "inflate", desc := "([BI[BII)V", sig := { parameters := [(.array .byte), .int, (.array .byte), .int, .int], returnType := none }, accessFlags := 9, code := some k8c14 }
def k8c15 : Code := { maxStack := 2, maxLocals := 2, code := jdk_52_method_91_code, exceptionTable := #[], attributes := #[] }
def k8m15 : Method := { name := "checkIndex", desc := "(I[B)V", sig := { parameters := [.int, (.array .byte)], returnType := none }, accessFlags := 9, code := some k8c15 }
def k8c16 : Code := { maxStack := 3, maxLocals := 3, code := jdk_52_method_94_code, exceptionTable := #[], attributes := #[] }
def k8m16 : Method := { name := "checkBoundsOffCount", desc := "(II[B)V", sig := { parameters := [.int, .int, (.array .byte)], returnType := none }, accessFlags := 9, code := some k8c16 }
/-- java/lang/StringUTF16 -/
def k8 : Class := { plain "java/lang/StringUTF16" (some 0) with
  accessFlags := 48
  interfaces := #[]
  cf := some (fileOf pool8 12 #[.nestMembers #[627, 629, 369]] #[{ accessFlags := 0, nameIndex := 9, descriptorIndex := 10, attributes := #[] }, { accessFlags := 9, nameIndex := 109, descriptorIndex := 110, attributes := #[] }, { accessFlags := 9, nameIndex := 15, descriptorIndex := 16, attributes := #[] }, { accessFlags := 8, nameIndex := 113, descriptorIndex := 114, attributes := #[] }, { accessFlags := 8, nameIndex := 73, descriptorIndex := 74, attributes := #[] }, { accessFlags := 9, nameIndex := 50, descriptorIndex := 51, attributes := #[] }, { accessFlags := 9, nameIndex := 121, descriptorIndex := 122, attributes := #[] }, { accessFlags := 8, nameIndex := 261, descriptorIndex := 262, attributes := #[] }, { accessFlags := 9, nameIndex := 117, descriptorIndex := 122, attributes := #[] }, { accessFlags := 9, nameIndex := 117, descriptorIndex := 131, attributes := #[] }, { accessFlags := 9, nameIndex := 117, descriptorIndex := 118, attributes := #[] }, { accessFlags := 9, nameIndex := 117, descriptorIndex := 125, attributes := #[] }, { accessFlags := 9, nameIndex := 586, descriptorIndex := 114, attributes := #[] }, { accessFlags := 9, nameIndex := 392, descriptorIndex := 74, attributes := #[] }, { accessFlags := 9, nameIndex := 140, descriptorIndex := 141, attributes := #[] }, { accessFlags := 9, nameIndex := 69, descriptorIndex := 70, attributes := #[] }, { accessFlags := 9, nameIndex := 175, descriptorIndex := 99, attributes := #[] }] 48 6 #[] #[{ accessFlags := 26, nameIndex := 61, descriptorIndex := 62, attributes := #[] }, { accessFlags := 26, nameIndex := 65, descriptorIndex := 62, attributes := #[] }, { accessFlags := 24, nameIndex := 430, descriptorIndex := 62, attributes := #[] }, { accessFlags := 4120, nameIndex := 46, descriptorIndex := 47, attributes := #[] }])
  fields := #[{ name := "HI_BYTE_SHIFT", type := .int, accessFlags := 26, slot := 0, constantValue := 0 }, { name := "LO_BYTE_SHIFT", type := .int, accessFlags := 26, slot := 1, constantValue := 0 }, { name := "MAX_LENGTH", type := .int, accessFlags := 24, slot := 2, constantValue := 0 }, { name := "$assertionsDisabled", type := .boolean, accessFlags := 4120, slot := 3, constantValue := 0 }]
  methods := #[k8m0, k8m1, k8m2, k8m3, k8m4, k8m5, k8m6, k8m7, k8m8, k8m9, k8m10, k8m11, k8m12, k8m13, k8m14, k8m15, k8m16]
  instanceTypes := #[]
  staticTypes := #[.int, .int, .int, .boolean]
  resolved := Array.replicate 635 none
  statics := some 1 }

def pool9 : Array CpInfo := pool [(2, .class_ 4), (1, u "java/lang/Object"), (0, u "<init>"), (0, u "()V"), (0, .methodref 8 9), (0, .class_ 10), (0, .nameAndType 11 12), (0, u "java/lang/String"), (0, u "length"), (0, u "()I"), (0, .methodref 8 14), (0, .nameAndType 15 16), (0, u "charAt"), (0, u "(I)C"), (0, .methodref 18 19), (0, .class_ 20), (0, .nameAndType 21 22), (0, u "org/interpunct/marc/OneLine"), (0, u "isLineBreak"), (0, u "(C)Z"), (0, .class_ 24), (0, u "java/lang/StringBuilder"), (0, .methodref 23 26), (0, .nameAndType 5 27), (0, u "(I)V"), (0, .methodref 23 29), (0, .nameAndType 30 31), (0, u "append"), (0, u "(Ljava/lang/CharSequence;II)Ljava/lang/StringBuilder;"), (0, .methodref 23 9), (0, .methodref 23 14), (0, .methodref 23 35), (0, .nameAndType 36 27), (0, u "setLength"), (0, .methodref 23 38), (0, .nameAndType 30 39), (0, u "(C)Ljava/lang/StringBuilder;"), (0, .methodref 23 41), (0, .nameAndType 42 43), (0, u "toString"), (0, u "()Ljava/lang/String;"), (2, u "of"), (0, u "(Ljava/lang/String;)Ljava/lang/String;")] 3

def k9m0 : Method := { name := "<init>", desc := "()V", sig := { parameters := [], returnType := none }, accessFlags := 2, code := none }
def k9c1 : Code := { maxStack := 4, maxLocals := 3, code := prog_5_method_2_code, exceptionTable := #[], attributes := #[] }
def k9m1 : Method := { name := "of", desc := "(Ljava/lang/String;)Ljava/lang/String;", sig := { parameters := [(.object "java/lang/String")], returnType := some (.object "java/lang/String") }, accessFlags := 9, code := some k9c1 }
def k9c2 : Code := { maxStack := 1, maxLocals := 1, code := prog_5_method_3_code, exceptionTable := #[], attributes := #[] }
def k9m2 : Method := { name := "isLineBreak", desc := "(C)Z", sig := { parameters := [.char], returnType := some .boolean }, accessFlags := 9, code := some k9c2 }
/-- org/interpunct/marc/OneLine -/
def k9 : Class := { plain "org/interpunct/marc/OneLine" (some 0) with
  accessFlags := 49
  interfaces := #[]
  cf := some (fileOf pool9 18 #[] #[{ accessFlags := 2, nameIndex := 5, descriptorIndex := 6, attributes := #[] }, { accessFlags := 9, nameIndex := 46, descriptorIndex := 47, attributes := #[] }, { accessFlags := 9, nameIndex := 21, descriptorIndex := 22, attributes := #[] }] 49 2 #[] #[])
  fields := #[]
  methods := #[k9m0, k9m1, k9m2]
  instanceTypes := #[]
  staticTypes := #[]
  resolved := Array.replicate 51 none
  statics := none }

def pool10 : Array CpInfo := pool [(1, .class_ 2), (0, u "java/lang/String"), (1, .class_ 6), (1, u "java/lang/Object"), (0, u "<init>"), (0, u "()V"), (0, .methodref 1 10), (0, .nameAndType 11 12), (0, u "checkIndex"), (0, u "(II)V"), (1, .class_ 16), (1, u "java/lang/StringLatin1"), (0, u "inflate"), (2, .class_ 22), (1, u "java/lang/StringUTF16"), (3, .nameAndType 17 27), (0, u "([BI[BII)V"), (25, u "([BI)C"), (36, u "canEncode"), (14, u "(C)Z"), (15, u "$assertionsDisabled"), (0, u "Z"), (98, .class_ 223), (1, u "java/lang/StringLatin1$LinesSpliterator"), (16, .methodref 20 26), (11, u "charAt"), (137, .class_ 391), (0, u "java/lang/StringLatin1$CharsSpliterator")] 3

def k10m0 : Method := { name := "<init>", desc := "()V", sig := { parameters := [], returnType := none }, accessFlags := 0, code := none }
def k10c1 : Code := { maxStack := 2, maxLocals := 2, code := jdk_43_method_2_code, exceptionTable := #[], attributes := #[] }
def k10m1 : Method := { name := "charAt", desc := "([BI)C", sig := { parameters := [(.array .byte), .int], returnType := some .char }, accessFlags := 9, code := some k10c1 }
def k10c2 : Code := { maxStack := 2, maxLocals := 1, code := jdk_43_method_3_code, exceptionTable := #[], attributes := #[] }
def k10m2 : Method := { name := "canEncode", desc := "(C)Z", sig := { parameters := [.char], returnType := some .boolean }, accessFlags := 9, code := some k10c2 }
def k10c3 : Code := { maxStack := 5, maxLocals := 5, code := jdk_43_method_50_code, exceptionTable := #[], attributes := #[] }
def k10m3 : Method := { name := "inflate", desc := "([BI[BII)V", sig := { parameters := [(.array .byte), .int, (.array .byte), .int, .int], returnType := none }, accessFlags := 9, code := some k10c3 }
/-- java/lang/StringLatin1 -/
def k10 : Class := { plain "java/lang/StringLatin1" (some 0) with
  accessFlags := 48
  interfaces := #[]
  cf := some (fileOf pool10 14 #[.nestMembers #[390, 221]] #[{ accessFlags := 0, nameIndex := 7, descriptorIndex := 8, attributes := #[] }, { accessFlags := 9, nameIndex := 252, descriptorIndex := 53, attributes := #[] }, { accessFlags := 9, nameIndex := 90, descriptorIndex := 105, attributes := #[] }, { accessFlags := 9, nameIndex := 17, descriptorIndex := 27, attributes := #[] }] 48 4 #[] #[{ accessFlags := 4120, nameIndex := 121, descriptorIndex := 122, attributes := #[] }])
  fields := #[{ name := "$assertionsDisabled", type := .boolean, accessFlags := 4120, slot := 0, constantValue := 0 }]
  methods := #[k10m0, k10m1, k10m2, k10m3]
  instanceTypes := #[]
  staticTypes := #[.boolean]
  resolved := Array.replicate 395 none
  statics := none }

def pool11 : Array CpInfo := pool [(2, .class_ 4), (1, u "java/lang/Object"), (0, u "<init>"), (0, u "()V"), (17, .class_ 26), (1, u "jdk/internal/util/Preconditions"), (6, u "checkIndex"), (13, u "checkFromToIndex"), (1, u "checkFromIndexSize"), (5, .class_ 56), (0, u "jdk/internal/util/Preconditions$4"), (57, .class_ 115), (0, u "jdk/internal/util/Preconditions$1"), (7, u "SIOOBE_FORMATTER"), (0, u "Ljava/util/function/BiFunction;"), (0, .class_ 126), (0, u "jdk/internal/util/Preconditions$2"), (3, u "AIOOBE_FORMATTER"), (0, .class_ 132), (0, u "jdk/internal/util/Preconditions$3"), (3, u "IOOBE_FORMATTER"), (41, u "(IILjava/util/function/BiFunction;)I"), (4, u "(IIILjava/util/function/BiFunction;)I")] 10

def k11m0 : Method := { name := "<init>", desc := "()V", sig := { parameters := [], returnType := none }, accessFlags := 1, code := none }
def k11c1 : Code := { maxStack := 3, maxLocals := 3, code := jdk_41_method_11_code, exceptionTable := #[], attributes := #[] }
def k11m1 : Method := { name := "checkIndex", desc := "(IILjava/util/function/BiFunction;)I", sig := { parameters := [.int, .int, (.object "java/util/function/BiFunction")], returnType := some .int }, accessFlags := 9, code := some k11c1 }
def k11c2 : Code := { maxStack := 4, maxLocals := 4, code := jdk_41_method_12_code, exceptionTable := #[], attributes := #[] }
def k11m2 : Method := { name := "checkFromToIndex", desc := "(IIILjava/util/function/BiFunction;)I", sig := { parameters := [.int, .int, .int, (.object "java/util/function/BiFunction")], returnType := some .int }, accessFlags := 9, code := some k11c2 }
def k11c3 : Code := { maxStack := 4, maxLocals := 4, code := jdk_41_method_13_code, exceptionTable := #[], attributes := #[] }
def k11m3 : Method := { name := "checkFromIndexSize", desc := "(IIILjava/util/function/BiFunction;)I", sig := { parameters := [.int, .int, .int, (.object "java/util/function/BiFunction")], returnType := some .int }, accessFlags := 9, code := some k11c3 }
/-- jdk/internal/util/Preconditions -/
def k11 : Class := { plain "jdk/internal/util/Preconditions" (some 0) with
  accessFlags := 33
  interfaces := #[]
  cf := some (fileOf pool11 24 #[.nestMembers #[55, 131, 125, 114]] #[{ accessFlags := 1, nameIndex := 5, descriptorIndex := 6, attributes := #[] }, { accessFlags := 9, nameIndex := 33, descriptorIndex := 178, attributes := #[] }, { accessFlags := 9, nameIndex := 47, descriptorIndex := 183, attributes := #[] }, { accessFlags := 9, nameIndex := 49, descriptorIndex := 183, attributes := #[] }] 33 2 #[] #[{ accessFlags := 25, nameIndex := 123, descriptorIndex := 124, attributes := #[] }, { accessFlags := 25, nameIndex := 130, descriptorIndex := 124, attributes := #[] }, { accessFlags := 25, nameIndex := 136, descriptorIndex := 124, attributes := #[] }])
  fields := #[{ name := "SIOOBE_FORMATTER", type := (.object "java/util/function/BiFunction"), accessFlags := 25, slot := 0, constantValue := 0 }, { name := "AIOOBE_FORMATTER", type := (.object "java/util/function/BiFunction"), accessFlags := 25, slot := 1, constantValue := 0 }, { name := "IOOBE_FORMATTER", type := (.object "java/util/function/BiFunction"), accessFlags := 25, slot := 2, constantValue := 0 }]
  methods := #[k11m0, k11m1, k11m2, k11m3]
  instanceTypes := #[]
  staticTypes := #[(.object "java/util/function/BiFunction"), (.object "java/util/function/BiFunction"), (.object "java/util/function/BiFunction")]
  resolved := Array.replicate 194 none
  statics := some 2 }

def pool12 : Array CpInfo := pool [(1, .class_ 2), (0, u "java/lang/Appendable"), (0, .class_ 4), (0, u "java/lang/Object")] 9

/-- java/lang/Appendable -/
def k12 : Class := { plain "java/lang/Appendable" (some 0) with
  accessFlags := 1537
  interfaces := #[]
  cf := some (fileOf pool12 1 #[] #[] 1537 3 #[] #[])
  fields := #[]
  methods := #[]
  instanceTypes := #[]
  staticTypes := #[]
  resolved := Array.replicate 14 none
  statics := none }

def pool13 : Array CpInfo := pool [(1, .class_ 2), (0, u "java/lang/String"), (0, .methodref 4 5), (0, .class_ 6), (0, .nameAndType 7 8), (0, u "java/lang/Object"), (0, u "<init>"), (0, u "()V"), (1, .class_ 12), (1, u "java/lang/AbstractStringBuilder"), (0, u "EMPTYVALUE"), (0, u "[B"), (0, .fieldref 10 16), (0, .nameAndType 17 14), (0, u "value"), (0, .fieldref 1 19), (0, .nameAndType 20 21), (0, u "COMPACT_STRINGS"), (0, u "Z"), (0, .fieldref 10 23), (0, .nameAndType 24 25), (0, u "coder"), (0, u "B"), (0, .methodref 27 28), (0, .class_ 29), (0, .nameAndType 30 31), (0, u "java/lang/StringUTF16"), (0, u "newBytesFor"), (0, u "(I)[B"), (1, .nameAndType 34 35), (0, u "length"), (0, u "()I"), (9, u "append"), (1, .interfaceMethodref 48 33), (0, .class_ 49), (0, u "java/lang/CharSequence"), (23, .fieldref 10 74), (0, .nameAndType 75 21), (0, u "maybeLatin1"), (3, .fieldref 10 80), (0, .nameAndType 81 82), (0, u "count"), (0, u "I"), (0, .methodref 10 84), (0, .nameAndType 85 86), (0, u "isLatin1"), (0, u "()Z"), (1, .class_ 90), (1, u "java/lang/StringLatin1"), (9, .methodref 10 101), (0, .nameAndType 102 103), (0, u "ensureCapacityInternal"), (0, u "(I)V"), (21, .methodref 88 126), (0, .nameAndType 127 128), (0, u "inflate"), (0, u "([BI[BII)V"), (7, u "([BII)V"), (1, .methodref 139 140), (0, .class_ 141), (0, .nameAndType 142 143), (0, u "java/lang/Math"), (0, u "min"), (0, u "(II)I"), (0, .methodref 1 145), (0, .nameAndType 146 147), (0, u "checkIndex"), (0, u "(II)V"), (0, .methodref 27 149), (0, .nameAndType 150 151), (0, u "getChar"), (0, u "([BI)C"), (9, .methodref 162 163), (0, .class_ 164), (0, .nameAndType 165 166), (0, u "jdk/internal/util/Preconditions"), (0, u "checkFromToIndex"), (0, u "(IIILjava/util/function/BiFunction;)I"), (15, u "Ljava/util/function/BiFunction;"), (0, .fieldref 162 184), (0, .nameAndType 185 182), (0, u "IOOBE_FORMATTER"), (5, .methodref 88 192), (0, .nameAndType 193 194), (0, u "canEncode"), (0, u "(C)Z"), (0, .methodref 10 196), (0, .nameAndType 127 8), (0, .methodref 27 198), (0, .nameAndType 199 136), (0, u "putCharSB"), (25, u "(Ljava/lang/CharSequence;II)Ljava/lang/AbstractStringBuilder;"), (6, .methodref 10 233), (0, .nameAndType 234 235), (0, u "appendChars"), (0, u "(Ljava/lang/String;II)V"), (56, u "(C)Ljava/lang/AbstractStringBuilder;"), (16, .methodref 310 311), (0, .class_ 312), (0, .nameAndType 313 314), (0, u "java/lang/System"), (0, u "arraycopy"), (0, u "(Ljava/lang/Object;ILjava/lang/Object;II)V"), (76, .nameAndType 392 393), (0, u "charAt"), (0, u "(I)C"), (6, .methodref 1 84), (0, .methodref 1 402), (0, .nameAndType 17 403), (0, u "()[B"), (0, .methodref 1 391), (39, .class_ 445), (0, u "java/lang/Appendable"), (30, u "setLength"), (75, u "getValue")] 56

def k13m0 : Method := { name := "<init>", desc := "()V", sig := { parameters := [], returnType := none }, accessFlags := 0, code := none }
def k13c1 : Code := { maxStack := 2, maxLocals := 2, code := jdk_68_method_2_code, exceptionTable := #[], attributes := #[] }
def k13m1 : Method := { name := "<init>", desc := "(I)V", sig := { parameters := [.int], returnType := none }, accessFlags := 0, code := some k13c1 }
def k13c2 : Code := { maxStack := 1, maxLocals := 1, code := jdk_68_method_6_code, exceptionTable := #[], attributes := #[] }
def k13m2 : Method := { name := "length", desc := "()I", sig := { parameters := [], returnType := some .int }, accessFlags := 1, code := some k13c2 }
def k13c3 : Code := { maxStack := 4, maxLocals := 3, code := jdk_68_method_9_code, exceptionTable := #[], attributes := #[] }
def k13m3 : Method := { name := "ensureCapacityInternal", desc := "(I)V", sig := { parameters := [.int], returnType := none }, accessFlags := 2, code := some k13c3 }
def k13c4 : Code := { maxStack := 5, maxLocals := 2, code := jdk_68_method_11_code, exceptionTable := #[], attributes := #[] }
def k13m4 : Method := { name := "inflate", desc := "()V", sig := { parameters := [], returnType := none }, accessFlags := 2, code := some k13c4 }
def k13c5 : Code := { maxStack := 3, maxLocals := 2, code := jdk_68_method_13_code, exceptionTable := #[], attributes := #[] }
def k13m5 : Method := { name := "setLength", desc := "(I)V", sig := { parameters := [.int], returnType := none }, accessFlags := 1, code := some k13c5 }
def k13c6 : Code := { maxStack := 3, maxLocals := 5, code := jdk_68_method_14_code, exceptionTable := #[], attributes := #[] }
def k13m6 : Method := { name := "charAt", desc := "(I)C", sig := { parameters := [.int], returnType := some .char }, accessFlags := 1, code := some k13c6 }
def k13c7 : Code := { maxStack := 4, maxLocals := 5, code := jdk_68_method_27_code, exceptionTable := #[], attributes := #[] }
def k13m7 : Method := { name := "append", desc := "(Ljava/lang/CharSequence;II)Ljava/lang/AbstractStringBuilder;", sig := { parameters := [(.object "java/lang/CharSequence"), .int, .int], returnType := some (.object "java/lang/AbstractStringBuilder") }, accessFlags := 1, code := some k13c7 }
def k13c8 : Code := { maxStack := 5, maxLocals := 2, code := jdk_68_method_31_code, exceptionTable := #[], attributes := #[] }
def k13m8 : Method := { name := "append", desc := "(C)Ljava/lang/AbstractStringBuilder;", sig := { parameters := [.char], returnType := some (.object "java/lang/AbstractStringBuilder") }, accessFlags := 1, code := some k13c8 }
def k13c9 : Code := { maxStack := 1, maxLocals := 1, code := jdk_68_method_64_code, exceptionTable := #[], attributes := #[] }
def k13m9 : Method := { name := "getValue", desc := "()[B", sig := { parameters := [], returnType := some (.array .byte) }, accessFlags := 16, code := some k13c9 }
def k13c10 : Code := { maxStack := 1, maxLocals := 1, code := jdk_68_method_68_code, exceptionTable := #[], attributes := #[] }
def k13m10 : Method := { name := "isLatin1", desc := "()Z", sig := { parameters := [], returnType := some .boolean }, accessFlags := 16, code := some k13c10 }
def k13c11 : Code := { maxStack := 6, maxLocals := 8, code := jdk_68_method_75_code, exceptionTable := #[], attributes := #[] }
def k13m11 : Method := { name := "appendChars", desc := "(Ljava/lang/String;II)V", sig := { parameters := [(.object "java/lang/String"), .int, .int], returnType := none }, accessFlags := 18, code := some k13c11 }
/-- java/lang/AbstractStringBuilder -/
def k13 : Class := { plain "java/lang/AbstractStringBuilder" (some 0) with
  accessFlags := 1056
  interfaces := #[12, 4]
  cf := some (fileOf pool13 10 #[] #[{ accessFlags := 0, nameIndex := 7, descriptorIndex := 8, attributes := #[] }, { accessFlags := 0, nameIndex := 7, descriptorIndex := 103, attributes := #[] }, { accessFlags := 1, nameIndex := 34, descriptorIndex := 35, attributes := #[] }, { accessFlags := 2, nameIndex := 102, descriptorIndex := 103, attributes := #[] }, { accessFlags := 2, nameIndex := 127, descriptorIndex := 8, attributes := #[] }, { accessFlags := 1, nameIndex := 476, descriptorIndex := 103, attributes := #[] }, { accessFlags := 1, nameIndex := 392, descriptorIndex := 393, attributes := #[] }, { accessFlags := 1, nameIndex := 45, descriptorIndex := 225, attributes := #[] }, { accessFlags := 1, nameIndex := 45, descriptorIndex := 292, attributes := #[] }, { accessFlags := 16, nameIndex := 552, descriptorIndex := 403, attributes := #[] }, { accessFlags := 16, nameIndex := 85, descriptorIndex := 86, attributes := #[] }, { accessFlags := 18, nameIndex := 234, descriptorIndex := 235, attributes := #[] }] 1056 4 #[444, 48] #[{ accessFlags := 0, nameIndex := 17, descriptorIndex := 14, attributes := #[] }, { accessFlags := 0, nameIndex := 24, descriptorIndex := 25, attributes := #[] }, { accessFlags := 0, nameIndex := 75, descriptorIndex := 21, attributes := #[] }, { accessFlags := 0, nameIndex := 81, descriptorIndex := 82, attributes := #[] }, { accessFlags := 26, nameIndex := 13, descriptorIndex := 14, attributes := #[] }])
  fields := #[{ name := "value", type := (.array .byte), accessFlags := 0, slot := 0, constantValue := 0 }, { name := "coder", type := .byte, accessFlags := 0, slot := 1, constantValue := 0 }, { name := "maybeLatin1", type := .boolean, accessFlags := 0, slot := 2, constantValue := 0 }, { name := "count", type := .int, accessFlags := 0, slot := 3, constantValue := 0 }, { name := "EMPTYVALUE", type := (.array .byte), accessFlags := 26, slot := 0, constantValue := 0 }]
  methods := #[k13m0, k13m1, k13m2, k13m3, k13m4, k13m5, k13m6, k13m7, k13m8, k13m9, k13m10, k13m11]
  instanceTypes := #[(.array .byte), .byte, .boolean, .int]
  staticTypes := #[(.array .byte)]
  resolved := Array.replicate 609 none
  statics := none }

def pool14 : Array CpInfo := pool [(1, .methodref 2 3), (0, .class_ 4), (0, .nameAndType 5 6), (0, u "java/lang/AbstractStringBuilder"), (0, u "<init>"), (0, u "(I)V"), (11, .class_ 20), (1, u "java/lang/String"), (3, .class_ 26), (1, u "java/lang/StringBuilder"), (0, u "append"), (10, .methodref 2 39), (0, .nameAndType 27 40), (0, u "(Ljava/lang/CharSequence;II)Ljava/lang/AbstractStringBuilder;"), (9, .methodref 2 51), (0, .nameAndType 27 52), (0, u "(C)Ljava/lang/AbstractStringBuilder;"), (84, .methodref 18 138), (0, .nameAndType 5 139), (0, u "(Ljava/lang/StringBuilder;)V"), (5, u "()V"), (10, u "()I"), (129, u "(C)Ljava/lang/StringBuilder;"), (11, u "(Ljava/lang/CharSequence;II)Ljava/lang/StringBuilder;"), (30, .methodref 2 330), (0, .nameAndType 331 332), (0, u "charAt"), (0, u "(I)C"), (0, .methodref 2 334), (0, .nameAndType 335 6), (0, u "setLength"), (7, .methodref 2 344), (0, .nameAndType 345 156), (0, u "length"), (3, .class_ 350), (0, u "java/lang/Appendable"), (0, .class_ 352), (0, u "java/io/Serializable"), (0, .class_ 354), (0, u "java/lang/Comparable"), (0, .class_ 356), (0, u "java/lang/CharSequence"), (0, u "serialVersionUID"), (0, u "J"), (40, u "toString"), (0, u "()Ljava/lang/String;")] 21

def k14m0 : Method := { name := "<init>", desc := "()V", sig := { parameters := [], returnType := none }, accessFlags := 1, code := none }
def k14c1 : Code := { maxStack := 2, maxLocals := 2, code := jdk_67_method_2_code, exceptionTable := #[], attributes := #[] }
def k14m1 : Method := { name := "<init>", desc := "(I)V", sig := { parameters := [.int], returnType := none }, accessFlags := 1, code := some k14c1 }
def k14c2 : Code := { maxStack := 4, maxLocals := 4, code := jdk_67_method_10_code, exceptionTable := #[], attributes := #[] }
def k14m2 : Method := { name := "append", desc := "(Ljava/lang/CharSequence;II)Ljava/lang/StringBuilder;", sig := { parameters := [(.object "java/lang/CharSequence"), .int, .int], returnType := some (.object "java/lang/StringBuilder") }, accessFlags := 1, code := some k14c2 }
def k14c3 : Code := { maxStack := 2, maxLocals := 2, code := jdk_67_method_14_code, exceptionTable := #[], attributes := #[] }
def k14m3 : Method := { name := "append", desc := "(C)Ljava/lang/StringBuilder;", sig := { parameters := [.char], returnType := some (.object "java/lang/StringBuilder") }, accessFlags := 1, code := some k14c3 }
def k14c4 : Code := { maxStack := 3, maxLocals := 1, code := jdk_67_method_42_code, exceptionTable := #[], attributes := #[] }
def k14m4 : Method := { name := "toString", desc := "()Ljava/lang/String;", sig := { parameters := [], returnType := some (.object "java/lang/String") }, accessFlags := 1, code := some k14c4 }
def k14c5 : Code := { maxStack := 2, maxLocals := 2, code := jdk_67_method_88_code, exceptionTable := #[], attributes := #[] }
def k14m5 : Method := { name := "charAt", desc := "(I)C", sig := { parameters := [.int], returnType := some .char }, accessFlags := 4161, code := some k14c5 }
def k14c6 : Code := { maxStack := 2, maxLocals := 2, code := jdk_67_method_89_code, exceptionTable := #[], attributes := #[] }
def k14m6 : Method := { name := "setLength", desc := "(I)V", sig := { parameters := [.int], returnType := none }, accessFlags := 4161, code := some k14c6 }
def k14c7 : Code := { maxStack := 1, maxLocals := 1, code := jdk_67_method_93_code, exceptionTable := #[], attributes := #[] }
def k14m7 : Method := { name := "length", desc := "()I", sig := { parameters := [], returnType := some .int }, accessFlags := 4161, code := some k14c7 }
/-- java/lang/StringBuilder -/
def k14 : Class := { plain "java/lang/StringBuilder" (some 13) with
  accessFlags := 49
  interfaces := #[12, 2, 3, 4]
  cf := some (fileOf pool14 24 #[] #[{ accessFlags := 1, nameIndex := 5, descriptorIndex := 145, attributes := #[] }, { accessFlags := 1, nameIndex := 5, descriptorIndex := 6, attributes := #[] }, { accessFlags := 1, nameIndex := 27, descriptorIndex := 298, attributes := #[] }, { accessFlags := 1, nameIndex := 27, descriptorIndex := 286, attributes := #[] }, { accessFlags := 1, nameIndex := 399, descriptorIndex := 400, attributes := #[] }, { accessFlags := 4161, nameIndex := 331, descriptorIndex := 332, attributes := #[] }, { accessFlags := 4161, nameIndex := 335, descriptorIndex := 6, attributes := #[] }, { accessFlags := 4161, nameIndex := 345, descriptorIndex := 156, attributes := #[] }] 49 2 #[349, 351, 353, 355] #[{ accessFlags := 24, nameIndex := 357, descriptorIndex := 358, attributes := #[] }])
  fields := #[{ name := "serialVersionUID", type := .long, accessFlags := 24, slot := 0, constantValue := 0 }]
  methods := #[k14m0, k14m1, k14m2, k14m3, k14m4, k14m5, k14m6, k14m7]
  instanceTypes := #[(.array .byte), .byte, .boolean, .int]
  staticTypes := #[.long]
  resolved := Array.replicate 422 none
  statics := none }

def pool15 : Array CpInfo := pool [(2, .class_ 4), (1, u "java/lang/Object"), (0, u "<init>"), (0, u "()V"), (1, .class_ 10), (1, u "java/lang/System"), (0, u "allowSecurityManager"), (0, u "I"), (16, u "cons"), (0, u "Ljava/io/Console;"), (77, .class_ 110), (1, u "java/lang/System$CallersHolder"), (43, u "initialErrStream"), (0, u "Ljava/io/PrintStream;"), (19, u "security"), (0, u "Ljava/lang/SecurityManager;"), (31, .class_ 209), (0, u "java/lang/System$1"), (7, u "props"), (0, u "Ljava/util/Properties;"), (2, u "lineSeparator"), (0, u "Ljava/lang/String;"), (96, .class_ 321), (1, u "java/lang/System$LoggerFinder"), (5, .class_ 328), (0, u "java/lang/System$Logger"), (67, u "err"), (2, u "out"), (91, u "notSupportedJnuEncoding"), (15, u "in"), (17, u "initialIn"), (0, u "Ljava/io/InputStream;"), (35, u "bootLayer"), (0, u "Ljava/lang/ModuleLayer;"), (99, .class_ 664), (0, u "java/lang/System$2"), (9, u "NEVER"), (2, u "MAYBE"), (49, u "arraycopy"), (0, u "(Ljava/lang/Object;ILjava/lang/Object;II)V"), (72, .class_ 802), (0, u "java/lang/System$Logger$Level")] 31

def k15m0 : Method := { name := "<init>", desc := "()V", sig := { parameters := [], returnType := none }, accessFlags := 2, code := none }
def k15m1 : Method := { name := "arraycopy", desc := "(Ljava/lang/Object;ILjava/lang/Object;II)V", sig := { parameters := [(.object "java/lang/Object"), .int, (.object "java/lang/Object"), .int, .int], returnType := none }, accessFlags := 265, code := none }
/-- java/lang/System -/
def k15 : Class := { plain "java/lang/System" (some 0) with
  accessFlags := 49
  interfaces := #[]
  cf := some (fileOf pool15 8 #[.nestMembers #[319, 327, 801, 108, 663, 208]] #[{ accessFlags := 2, nameIndex := 5, descriptorIndex := 6, attributes := #[] }, { accessFlags := 265, nameIndex := 727, descriptorIndex := 728, attributes := #[] }] 49 2 #[] #[{ accessFlags := 25, nameIndex := 507, descriptorIndex := 526, attributes := #[] }, { accessFlags := 25, nameIndex := 399, descriptorIndex := 155, attributes := #[] }, { accessFlags := 25, nameIndex := 396, descriptorIndex := 155, attributes := #[] }, { accessFlags := 10, nameIndex := 525, descriptorIndex := 526, attributes := #[] }, { accessFlags := 26, nameIndex := 674, descriptorIndex := 12, attributes := #[] }, { accessFlags := 26, nameIndex := 677, descriptorIndex := 12, attributes := #[] }, { accessFlags := 10, nameIndex := 11, descriptorIndex := 12, attributes := #[] }, { accessFlags := 74, nameIndex := 175, descriptorIndex := 176, attributes := #[] }, { accessFlags := 10, nameIndex := 491, descriptorIndex := 222, attributes := #[] }, { accessFlags := 74, nameIndex := 29, descriptorIndex := 30, attributes := #[] }, { accessFlags := 74, nameIndex := 154, descriptorIndex := 155, attributes := #[] }, { accessFlags := 10, nameIndex := 217, descriptorIndex := 218, attributes := #[] }, { accessFlags := 10, nameIndex := 221, descriptorIndex := 222, attributes := #[] }, { accessFlags := 8, nameIndex := 562, descriptorIndex := 563, attributes := #[] }])
  fields := #[{ name := "in", type := (.object "java/io/InputStream"), accessFlags := 25, slot := 0, constantValue := 0 }, { name := "out", type := (.object "java/io/PrintStream"), accessFlags := 25, slot := 1, constantValue := 0 }, { name := "err", type := (.object "java/io/PrintStream"), accessFlags := 25, slot := 2, constantValue := 0 }, { name := "initialIn", type := (.object "java/io/InputStream"), accessFlags := 10, slot := 3, constantValue := 0 }, { name := "NEVER", type := .int, accessFlags := 26, slot := 4, constantValue := 0 }, { name := "MAYBE", type := .int, accessFlags := 26, slot := 5, constantValue := 0 }, { name := "allowSecurityManager", type := .int, accessFlags := 10, slot := 6, constantValue := 0 }, { name := "security", type := (.object "java/lang/SecurityManager"), accessFlags := 74, slot := 7, constantValue := 0 }, { name := "notSupportedJnuEncoding", type := (.object "java/lang/String"), accessFlags := 10, slot := 8, constantValue := 0 }, { name := "cons", type := (.object "java/io/Console"), accessFlags := 74, slot := 9, constantValue := 0 }, { name := "initialErrStream", type := (.object "java/io/PrintStream"), accessFlags := 74, slot := 10, constantValue := 0 }, { name := "props", type := (.object "java/util/Properties"), accessFlags := 10, slot := 11, constantValue := 0 }, { name := "lineSeparator", type := (.object "java/lang/String"), accessFlags := 10, slot := 12, constantValue := 0 }, { name := "bootLayer", type := (.object "java/lang/ModuleLayer"), accessFlags := 8, slot := 13, constantValue := 0 }]
  methods := #[k15m0, k15m1]
  instanceTypes := #[]
  staticTypes := #[(.object "java/io/InputStream"), (.object "java/io/PrintStream"), (.object "java/io/PrintStream"), (.object "java/io/InputStream"), .int, .int, .int, (.object "java/lang/SecurityManager"), (.object "java/lang/String"), (.object "java/io/Console"), (.object "java/io/PrintStream"), (.object "java/util/Properties"), (.object "java/lang/String"), (.object "java/lang/ModuleLayer")]
  resolved := Array.replicate 834 none
  statics := none }

def pool16 : Array CpInfo := pool [(1, .class_ 2), (0, u "java/lang/Math"), (1, .class_ 6), (1, u "java/lang/Object"), (0, u "<init>"), (0, u "()V"), (89, .class_ 100), (1, u "java/lang/Math$RandomNumberGeneratorHolder"), (71, u "negativeZeroFloatBits"), (0, u "J"), (2, u "negativeZeroDoubleBits"), (24, u "min"), (43, u "$assertionsDisabled"), (0, u "Z"), (88, u "(II)I"), (2, u "twoToTheDoubleScaleDown"), (0, u "D"), (4, u "twoToTheDoubleScaleUp"), (9, u "E"), (3, u "PI"), (2, u "TAU"), (2, u "DEGREES_TO_RADIANS"), (0, u "RADIANS_TO_DEGREES")] 94

def k16m0 : Method := { name := "<init>", desc := "()V", sig := { parameters := [], returnType := none }, accessFlags := 2, code := none }
def k16c1 : Code := { maxStack := 2, maxLocals := 2, code := jdk_29_method_69_code, exceptionTable := #[], attributes := #[] }
def k16m1 : Method := { name := "min", desc := "(II)I", sig := { parameters := [.int, .int], returnType := some .int }, accessFlags := 9, code := some k16c1 }
/-- java/lang/Math -/
def k16 : Class := { plain "java/lang/Math" (some 0) with
  accessFlags := 49
  interfaces := #[]
  cf := some (fileOf pool16 1 #[.nestMembers #[98]] #[{ accessFlags := 2, nameIndex := 7, descriptorIndex := 8, attributes := #[] }, { accessFlags := 9, nameIndex := 201, descriptorIndex := 335, attributes := #[] }] 49 4 #[] #[{ accessFlags := 25, nameIndex := 354, descriptorIndex := 339, attributes := #[] }, { accessFlags := 25, nameIndex := 358, descriptorIndex := 339, attributes := #[] }, { accessFlags := 25, nameIndex := 361, descriptorIndex := 339, attributes := #[] }, { accessFlags := 26, nameIndex := 364, descriptorIndex := 339, attributes := #[] }, { accessFlags := 26, nameIndex := 365, descriptorIndex := 339, attributes := #[] }, { accessFlags := 26, nameIndex := 172, descriptorIndex := 173, attributes := #[] }, { accessFlags := 26, nameIndex := 176, descriptorIndex := 173, attributes := #[] }, { accessFlags := 8, nameIndex := 344, descriptorIndex := 339, attributes := #[] }, { accessFlags := 8, nameIndex := 338, descriptorIndex := 339, attributes := #[] }, { accessFlags := 4120, nameIndex := 245, descriptorIndex := 246, attributes := #[] }])
  fields := #[{ name := "E", type := .double, accessFlags := 25, slot := 0, constantValue := 0 }, { name := "PI", type := .double, accessFlags := 25, slot := 1, constantValue := 0 }, { name := "TAU", type := .double, accessFlags := 25, slot := 2, constantValue := 0 }, { name := "DEGREES_TO_RADIANS", type := .double, accessFlags := 26, slot := 3, constantValue := 0 }, { name := "RADIANS_TO_DEGREES", type := .double, accessFlags := 26, slot := 4, constantValue := 0 }, { name := "negativeZeroFloatBits", type := .long, accessFlags := 26, slot := 5, constantValue := 0 }, { name := "negativeZeroDoubleBits", type := .long, accessFlags := 26, slot := 6, constantValue := 0 }, { name := "twoToTheDoubleScaleUp", type := .double, accessFlags := 8, slot := 7, constantValue := 0 }, { name := "twoToTheDoubleScaleDown", type := .double, accessFlags := 8, slot := 8, constantValue := 0 }, { name := "$assertionsDisabled", type := .boolean, accessFlags := 4120, slot := 9, constantValue := 0 }]
  methods := #[k16m0, k16m1]
  instanceTypes := #[]
  staticTypes := #[.double, .double, .double, .double, .double, .long, .long, .double, .double, .boolean]
  resolved := Array.replicate 460 none
  statics := none }

def pool17 : Array CpInfo := pool [(2, .class_ 4), (1, u "java/lang/Object"), (0, u "<init>"), (0, u "()V"), (7, .class_ 16), (1, u "java/util/Arrays"), (57, .class_ 76), (1, u "java/util/Arrays$NaturalOrder"), (32, u "()Ljava/lang/Object;"), (3, .class_ 115), (1, u "java/util/Arrays$LegacyMergeSort"), (1, u "Z"), (10, .nameAndType 129 109), (0, u "clone"), (9, u "copyOfRange"), (10, .methodref 151 152), (0, .class_ 153), (0, .nameAndType 154 155), (0, u "java/lang/System"), (0, u "arraycopy"), (0, u "(Ljava/lang/Object;ILjava/lang/Object;II)V"), (148, .methodref 305 306), (0, .class_ 307), (0, .nameAndType 308 309), (0, u "java/lang/Math"), (0, u "min"), (0, u "(II)I"), (0, .methodref 311 128), (0, .class_ 312), (0, u "[B"), (26, .methodref 14 340), (0, .nameAndType 341 342), (0, u "copyOfRangeByte"), (0, u "([BII)[B"), (0, .methodref 14 344), (0, .nameAndType 345 346), (0, u "checkLength"), (0, u "(II)V"), (28, .class_ 376), (0, u "java/util/Arrays$ArrayList"), (68, u "$assertionsDisabled"), (269, u "MIN_ARRAY_SORT_GRAN"), (0, u "I"), (2, u "INSERTIONSORT_THRESHOLD"), (255, .class_ 976), (0, u "java/util/Arrays$ArrayItr")] 52

def k17m0 : Method := { name := "<init>", desc := "()V", sig := { parameters := [], returnType := none }, accessFlags := 2, code := none }
def k17c1 : Code := { maxStack := 4, maxLocals := 2, code := jdk_65_method_131_code, exceptionTable := #[], attributes := #[] }
def k17m1 : Method := { name := "checkLength", desc := "(II)V", sig := { parameters := [.int, .int], returnType := none }, accessFlags := 10, code := some k17c1 }
def k17c2 : Code := { maxStack := 3, maxLocals := 3, code := jdk_65_method_132_code, exceptionTable := #[], attributes := #[] }
def k17m2 : Method := { name := "copyOfRange", desc := "([BII)[B", sig := { parameters := [(.array .byte), .int, .int], returnType := some (.array .byte) }, accessFlags := 9, code := some k17c2 }
def k17c3 : Code := { maxStack := 6, maxLocals := 5, code := jdk_65_method_133_code, exceptionTable := #[], attributes := #[] }
def k17m3 : Method := { name := "copyOfRangeByte", desc := "([BII)[B", sig := { parameters := [(.array .byte), .int, .int], returnType := some (.array .byte) }, accessFlags := 10, code := some k17c3 }
/-- java/util/Arrays -/
def k17 : Class := { plain "java/util/Arrays" (some 0) with
  accessFlags := 49
  interfaces := #[]
  cf := some (fileOf pool17 14 #[.nestMembers #[975, 375, 113, 74]] #[{ accessFlags := 2, nameIndex := 5, descriptorIndex := 6, attributes := #[] }, { accessFlags := 10, nameIndex := 345, descriptorIndex := 346, attributes := #[] }, { accessFlags := 9, nameIndex := 139, descriptorIndex := 342, attributes := #[] }, { accessFlags := 10, nameIndex := 341, descriptorIndex := 342, attributes := #[] }] 49 2 #[] #[{ accessFlags := 26, nameIndex := 715, descriptorIndex := 716, attributes := #[] }, { accessFlags := 26, nameIndex := 719, descriptorIndex := 716, attributes := #[] }, { accessFlags := 4120, nameIndex := 445, descriptorIndex := 117, attributes := #[] }])
  fields := #[{ name := "MIN_ARRAY_SORT_GRAN", type := .int, accessFlags := 26, slot := 0, constantValue := 0 }, { name := "INSERTIONSORT_THRESHOLD", type := .int, accessFlags := 26, slot := 1, constantValue := 0 }, { name := "$assertionsDisabled", type := .boolean, accessFlags := 4120, slot := 2, constantValue := 0 }]
  methods := #[k17m0, k17m1, k17m2, k17m3]
  instanceTypes := #[]
  staticTypes := #[.int, .int, .boolean]
  resolved := Array.replicate 1029 none
  statics := none }

def pool18 : Array CpInfo := pool [(1, .class_ 2), (0, u "java/lang/Cloneable"), (0, .class_ 4), (0, u "java/lang/Object")] 2

/-- java/lang/Cloneable -/
def k18 : Class := { plain "java/lang/Cloneable" (some 0) with
  accessFlags := 1537
  interfaces := #[]
  cf := some (fileOf pool18 1 #[] #[] 1537 3 #[] #[])
  fields := #[]
  methods := #[]
  instanceTypes := #[]
  staticTypes := #[]
  resolved := Array.replicate 7 none
  statics := none }

def pool19 : Array CpInfo := pool [(9, u "<init>"), (6, .class_ 18), (1, u "java/lang/Object"), (0, u "()V"), (1, .class_ 23), (1, u "jdk/internal/util/ArraysSupport"), (0, u "LOG2_ARRAY_LONG_INDEX_SCALE"), (0, u "I"), (2, u "U"), (0, u "Ljdk/internal/misc/Unsafe;"), (8, u "BIG_ENDIAN"), (0, u "Z"), (8, u "LOG2_BYTE_BIT_SIZE"), (4, u "LOG2_ARRAY_INT_INDEX_SCALE"), (54, u "JLA"), (0, u "Ljdk/internal/access/JavaLangAccess;"), (11, u "LOG2_ARRAY_BOOLEAN_INDEX_SCALE"), (9, u "LOG2_ARRAY_BYTE_INDEX_SCALE"), (5, u "LOG2_ARRAY_CHAR_INDEX_SCALE"), (5, u "LOG2_ARRAY_SHORT_INDEX_SCALE"), (18, u "LOG2_ARRAY_FLOAT_INDEX_SCALE"), (24, u "LOG2_ARRAY_DOUBLE_INDEX_SCALE"), (89, u "T_BOOLEAN"), (2, u "T_CHAR"), (1, u "T_FLOAT"), (1, u "T_DOUBLE"), (1, u "T_BYTE"), (1, u "T_SHORT"), (1, u "T_INT"), (1, u "T_LONG"), (1, u "SOFT_MAX_ARRAY_LENGTH")] 83

def k19m0 : Method := { name := "<init>", desc := "()V", sig := { parameters := [], returnType := none }, accessFlags := 2, code := none }
/-- jdk/internal/util/ArraysSupport -/
def k19 : Class := { plain "jdk/internal/util/ArraysSupport" (some 0) with
  accessFlags := 33
  interfaces := #[]
  cf := some (fileOf pool19 21 #[] #[{ accessFlags := 2, nameIndex := 9, descriptorIndex := 19, attributes := #[] }] 33 16 #[] #[{ accessFlags := 24, nameIndex := 28, descriptorIndex := 29, attributes := #[] }, { accessFlags := 26, nameIndex := 38, descriptorIndex := 39, attributes := #[] }, { accessFlags := 25, nameIndex := 121, descriptorIndex := 25, attributes := #[] }, { accessFlags := 25, nameIndex := 131, descriptorIndex := 25, attributes := #[] }, { accessFlags := 25, nameIndex := 137, descriptorIndex := 25, attributes := #[] }, { accessFlags := 25, nameIndex := 143, descriptorIndex := 25, attributes := #[] }, { accessFlags := 25, nameIndex := 53, descriptorIndex := 25, attributes := #[] }, { accessFlags := 25, nameIndex := 24, descriptorIndex := 25, attributes := #[] }, { accessFlags := 25, nameIndex := 162, descriptorIndex := 25, attributes := #[] }, { accessFlags := 25, nameIndex := 187, descriptorIndex := 25, attributes := #[] }, { accessFlags := 26, nameIndex := 48, descriptorIndex := 25, attributes := #[] }, { accessFlags := 25, nameIndex := 277, descriptorIndex := 25, attributes := #[] }, { accessFlags := 25, nameIndex := 280, descriptorIndex := 25, attributes := #[] }, { accessFlags := 25, nameIndex := 282, descriptorIndex := 25, attributes := #[] }, { accessFlags := 25, nameIndex := 284, descriptorIndex := 25, attributes := #[] }, { accessFlags := 25, nameIndex := 286, descriptorIndex := 25, attributes := #[] }, { accessFlags := 25, nameIndex := 288, descriptorIndex := 25, attributes := #[] }, { accessFlags := 25, nameIndex := 290, descriptorIndex := 25, attributes := #[] }, { accessFlags := 25, nameIndex := 292, descriptorIndex := 25, attributes := #[] }, { accessFlags := 26, nameIndex := 108, descriptorIndex := 109, attributes := #[] }, { accessFlags := 25, nameIndex := 294, descriptorIndex := 25, attributes := #[] }])
  fields := #[{ name := "U", type := (.object "jdk/internal/misc/Unsafe"), accessFlags := 24, slot := 0, constantValue := 0 }, { name := "BIG_ENDIAN", type := .boolean, accessFlags := 26, slot := 1, constantValue := 0 }, { name := "LOG2_ARRAY_BOOLEAN_INDEX_SCALE", type := .int, accessFlags := 25, slot := 2, constantValue := 0 }, { name := "LOG2_ARRAY_BYTE_INDEX_SCALE", type := .int, accessFlags := 25, slot := 3, constantValue := 0 }, { name := "LOG2_ARRAY_CHAR_INDEX_SCALE", type := .int, accessFlags := 25, slot := 4, constantValue := 0 }, { name := "LOG2_ARRAY_SHORT_INDEX_SCALE", type := .int, accessFlags := 25, slot := 5, constantValue := 0 }, { name := "LOG2_ARRAY_INT_INDEX_SCALE", type := .int, accessFlags := 25, slot := 6, constantValue := 0 }, { name := "LOG2_ARRAY_LONG_INDEX_SCALE", type := .int, accessFlags := 25, slot := 7, constantValue := 0 }, { name := "LOG2_ARRAY_FLOAT_INDEX_SCALE", type := .int, accessFlags := 25, slot := 8, constantValue := 0 }, { name := "LOG2_ARRAY_DOUBLE_INDEX_SCALE", type := .int, accessFlags := 25, slot := 9, constantValue := 0 }, { name := "LOG2_BYTE_BIT_SIZE", type := .int, accessFlags := 26, slot := 10, constantValue := 0 }, { name := "T_BOOLEAN", type := .int, accessFlags := 25, slot := 11, constantValue := 0 }, { name := "T_CHAR", type := .int, accessFlags := 25, slot := 12, constantValue := 0 }, { name := "T_FLOAT", type := .int, accessFlags := 25, slot := 13, constantValue := 0 }, { name := "T_DOUBLE", type := .int, accessFlags := 25, slot := 14, constantValue := 0 }, { name := "T_BYTE", type := .int, accessFlags := 25, slot := 15, constantValue := 0 }, { name := "T_SHORT", type := .int, accessFlags := 25, slot := 16, constantValue := 0 }, { name := "T_INT", type := .int, accessFlags := 25, slot := 17, constantValue := 0 }, { name := "T_LONG", type := .int, accessFlags := 25, slot := 18, constantValue := 0 }, { name := "JLA", type := (.object "jdk/internal/access/JavaLangAccess"), accessFlags := 26, slot := 19, constantValue := 0 }, { name := "SOFT_MAX_ARRAY_LENGTH", type := .int, accessFlags := 25, slot := 20, constantValue := 0 }]
  methods := #[k19m0]
  instanceTypes := #[]
  staticTypes := #[(.object "jdk/internal/misc/Unsafe"), .boolean, .int, .int, .int, .int, .int, .int, .int, .int, .int, .int, .int, .int, .int, .int, .int, .int, .int, (.object "jdk/internal/access/JavaLangAccess"), .int]
  resolved := Array.replicate 378 none
  statics := none }

/-- the primitive byte -/
def k20 : Class := { plain "byte" none with kind := .primitive 'B', accessFlags := 0x411 }
/-- [B -/
def k21 : Class := { plain "[B" (some 0) with kind := .array 20 .byte, interfaces := #[18, 2], accessFlags := 1041 }

/-- the primitive char -/
def k22 : Class := { plain "char" none with kind := .primitive 'C', accessFlags := 0x411 }
/-- [C -/
def k23 : Class := { plain "[C" (some 0) with kind := .array 22 .char, interfaces := #[18, 2], accessFlags := 1041 }

/-- the primitive int -/
def k24 : Class := { plain "int" none with kind := .primitive 'I', accessFlags := 0x411 }
/-- [I -/
def k25 : Class := { plain "[I" (some 0) with kind := .array 24 .int, interfaces := #[18, 2], accessFlags := 1041 }

def heap : Heap := #[{ cls := 7, slots := #[.long 0, .int 1, .null, .int 0, .null, .int 0, .int 0], vm := .statics 7 },
  { cls := 8, slots := #[.int 0, .int 8, .int 0, .int 1], vm := .statics 8 },
  { cls := 11, slots := #[.null, .null, .null], vm := .statics 11 }]
def classes : Array Class := #[k0, k1, k2, k3, k4, k5, k6, k7, k8, k9, k10, k11, k12, k13, k14, k15, k16, k17, k18, k19, k20, k21, k22, k23, k24, k25]
def interned : List (Array UInt16 × Addr) := []
def slotsUsed : Nat := 14
def theMethod : MethodId := ⟨1, 1⟩
def args0 : Array Value := #[.int 0, .int 1, .int 2, .int 3, .int 4, .int 5]
def aboutOver (below : List Frame) : State where
  vm := { classes := classes, interned := interned.toArray }
  heap := heap
  slotsUsed := slotsUsed
  threads := #[{ frames := .invoking theMethod args0 :: below }]
def below0 : List Frame := [.native { method := ⟨0, 0⟩, args := #[] }]
def about1 : State := aboutOver below0
def p0 : Program := .bare "" "" ""
def e0 : Env := launch0.env 0 0 0
theorem w_frames : about1.frames = Frame.invoking theMethod args0 :: below0 := rfl
set_option maxRecDepth 65536 in
theorem w_args : argsFit about1.vm theMethod args0 = true := by decide +kernel
set_option maxRecDepth 65536 in
theorem w_heap : heapFits about1 = true := by decide +kernel
set_option maxRecDepth 65536 in
theorem w_runnable : about1.curStatus? = some .runnable := by decide +kernel
set_option maxRecDepth 65536 in
theorem w_alone : about1.alone = true := by decide +kernel
set_option maxRecDepth 65536 in
theorem w_named : about1.methodNamed? x = some theMethod := by decide +kernel
set_option maxRecDepth 65536 in
theorem w_hears : about1.hears theMethod below0 = true := by decide +kernel
set_option maxRecDepth 65536 in
theorem w_ripe : about1.ripe theMethod args0 below0 = true := by decide +kernel
theorem w_running : about1.status = .running := rfl
set_option maxRecDepth 65536 in
theorem w_room : about1.hasRoom e0.platform room_1 = true :=
  launch0.hasRoom_least _ room_1 (by decide +kernel) (by decide +kernel) (by decide +kernel) (by decide +kernel) (by decide +kernel) (by decide +kernel)
theorem allAtoms_all (ts : List Jvm.Cond) (a : Array Jvm.Value) (st : Jvm.State) : (allAtoms ts).before a st = ts.all (fun c => c.before a st) := by
  induction ts with
  | nil => rfl
  | cons c t ih =>
    show (Jvm.Cond.and c (allAtoms t)).before a st = _
    rw [Jvm.Cond.before_and, ih, List.all_cons]
def words1 : List Jvm.Cond := Jvm.Cond.code x code maxLocals ret :: tables_1
/-- a 'code' word, met by the world's own term for the bytes: nothing is compared byte by byte -/
theorem code_word {y : MethodName} {bytes : ByteArray} {mx : Nat} {rt : Option FieldType} {a : Array Value} {s : State} {m : MethodId} {meth : Method} {c : Code} (h1 : s.methodNamed? y = some m) (h2 : s.vm.method? m = some meth) (h3 : meth.code = some c) (h4 : c.code = bytes)
    (h5 : (c.maxLocals == mx && c.exceptionTable.isEmpty && decide (c.maxStack ≤ mostOperands) && decide (meth.sig.returnType = rt) && !meth.locks && decide (parseMethodDescriptor y.desc = some meth.sig)) = true) : (Jvm.Cond.code y bytes mx rt).before a s = true := by
  simp only [Bool.and_eq_true, beq_iff_eq, Bool.not_eq_true', decide_eq_true_eq] at h5
  obtain ⟨⟨⟨⟨⟨g1, g2⟩, g3⟩, g4⟩, g5⟩, g6⟩ := h5
  simp [Cond.before, Cond.holds, Cond.value, h1, h2, h3, h4, g1, g2, g3, g4, g5, g6]
def isCode : Jvm.Cond → Bool
  | .code _ _ _ _ => true
  | _ => false
theorem all_split {L : List Jvm.Cond} {P : Jvm.Cond → Bool} (h1 : L.all (fun c => isCode c || P c) = true) (h2 : ∀ c ∈ L.filter isCode, P c = true) : L.all P = true := by
  refine List.all_eq_true.mpr fun c hc => ?_
  have h := List.all_eq_true.mp h1 c hc
  rcases Bool.eq_false_or_eq_true (isCode c) with hi | hi
  · exact h2 c (List.mem_filter.mpr ⟨hc, hi⟩)
  · simpa [hi] using h
set_option maxRecDepth 65536 in
theorem w_c0 : (Jvm.Cond.code x code maxLocals ret).before args0 about1 = true := code_word (m := ⟨1, 1⟩) (meth := k1m1) (c := k1c1) (by decide +kernel) rfl rfl rfl (by decide +kernel)
set_option maxRecDepth 65536 in
theorem w_c1 : (Jvm.Cond.code ({ cls := "org/interpunct/marc/OneLineOfPinLaw", name := "ch", desc := "(I)C" } : Jvm.MethodName) method_3_code (4 : Nat) (Option.some Jvm.ClassFile.FieldType.char)).before args0 about1 = true := code_word (m := ⟨1, 2⟩) (meth := k1m2) (c := k1c2) (by decide +kernel) rfl rfl rfl (by decide +kernel)
set_option maxRecDepth 65536 in
theorem w_c2 : (Jvm.Cond.code ({ cls := "org/interpunct/marc/OneLineOfPinLaw", name := "make", desc := "(ICCCCC)Ljava/lang/String;" } : Jvm.MethodName) method_5_code (6 : Nat) (Option.some (Jvm.ClassFile.FieldType.object "java/lang/String"))).before args0 about1 = true := code_word (m := ⟨1, 4⟩) (meth := k1m4) (c := k1c4) (by decide +kernel) rfl rfl rfl (by decide +kernel)
set_option maxRecDepth 65536 in
theorem w_c3 : (Jvm.Cond.code ({ cls := "java/lang/String", name := "<init>", desc := "([C)V" } : Jvm.MethodName) jdk_42_method_3_code (2 : Nat) (Option.none : Option Jvm.ClassFile.FieldType)).before args0 about1 = true := code_word (m := ⟨7, 1⟩) (meth := k7m1) (c := k7c1) (by decide +kernel) rfl rfl rfl (by decide +kernel)
set_option maxRecDepth 65536 in
theorem w_c4 : (Jvm.Cond.code ({ cls := "java/lang/String", name := "<init>", desc := "([CIILjava/lang/Void;)V" } : Jvm.MethodName) jdk_42_method_149_code (6 : Nat) (Option.none : Option Jvm.ClassFile.FieldType)).before args0 about1 = true := code_word (m := ⟨7, 5⟩) (meth := k7m5) (c := k7c5) (by decide +kernel) rfl rfl rfl (by decide +kernel)
set_option maxRecDepth 65536 in
theorem w_c5 : (Jvm.Cond.code ({ cls := "java/lang/Object", name := "<init>", desc := "()V" } : Jvm.MethodName) object_method_1_code (1 : Nat) (Option.none : Option Jvm.ClassFile.FieldType)).before args0 about1 = true := code_word (m := ⟨0, 0⟩) (meth := k0m0) (c := k0c0) (by decide +kernel) rfl rfl rfl (by decide +kernel)
set_option maxRecDepth 65536 in
theorem w_c6 : (Jvm.Cond.code ({ cls := "java/lang/StringUTF16", name := "compress", desc := "([CII)[B" } : Jvm.MethodName) jdk_52_method_16_code (6 : Nat) (Option.some (Jvm.ClassFile.FieldType.array Jvm.ClassFile.FieldType.byte))).before args0 about1 = true := code_word (m := ⟨8, 8⟩) (meth := k8m8) (c := k8c8) (by decide +kernel) rfl rfl rfl (by decide +kernel)
set_option maxRecDepth 65536 in
theorem w_c7 : (Jvm.Cond.code ({ cls := "java/lang/StringUTF16", name := "compress", desc := "([CI[BII)I" } : Jvm.MethodName) jdk_52_method_21_code (7 : Nat) (Option.some Jvm.ClassFile.FieldType.int)).before args0 about1 = true := code_word (m := ⟨8, 10⟩) (meth := k8m10) (c := k8c10) (by decide +kernel) rfl rfl rfl (by decide +kernel)
set_option maxRecDepth 65536 in
theorem w_c8 : (Jvm.Cond.code ({ cls := "java/lang/StringUTF16", name := "coderFromArrayLen", desc := "([BI)B" } : Jvm.MethodName) jdk_52_method_15_code (2 : Nat) (Option.some Jvm.ClassFile.FieldType.byte)).before args0 about1 = true := code_word (m := ⟨8, 7⟩) (meth := k8m7) (c := k8c7) (by decide +kernel) rfl rfl rfl (by decide +kernel)
set_option maxRecDepth 65536 in
theorem w_c9 : (Jvm.Cond.code ({ cls := "org/interpunct/marc/OneLine", name := "of", desc := "(Ljava/lang/String;)Ljava/lang/String;" } : Jvm.MethodName) prog_5_method_2_code (3 : Nat) (Option.some (Jvm.ClassFile.FieldType.object "java/lang/String"))).before args0 about1 = true := code_word (m := ⟨9, 1⟩) (meth := k9m1) (c := k9c1) (by decide +kernel) rfl rfl rfl (by decide +kernel)
set_option maxRecDepth 65536 in
theorem w_c10 : (Jvm.Cond.code ({ cls := "java/lang/String", name := "length", desc := "()I" } : Jvm.MethodName) jdk_42_method_54_code (1 : Nat) (Option.some Jvm.ClassFile.FieldType.int)).before args0 about1 = true := code_word (m := ⟨7, 3⟩) (meth := k7m3) (c := k7c3) (by decide +kernel) rfl rfl rfl (by decide +kernel)
set_option maxRecDepth 65536 in
theorem w_c11 : (Jvm.Cond.code ({ cls := "java/lang/String", name := "coder", desc := "()B" } : Jvm.MethodName) jdk_42_method_152_code (1 : Nat) (Option.some Jvm.ClassFile.FieldType.byte)).before args0 about1 = true := code_word (m := ⟨7, 7⟩) (meth := k7m7) (c := k7c7) (by decide +kernel) rfl rfl rfl (by decide +kernel)
set_option maxRecDepth 65536 in
theorem w_c12 : (Jvm.Cond.code ({ cls := "java/lang/String", name := "charAt", desc := "(I)C" } : Jvm.MethodName) jdk_42_method_56_code (2 : Nat) (Option.some Jvm.ClassFile.FieldType.char)).before args0 about1 = true := code_word (m := ⟨7, 4⟩) (meth := k7m4) (c := k7c4) (by decide +kernel) rfl rfl rfl (by decide +kernel)
set_option maxRecDepth 65536 in
theorem w_c13 : (Jvm.Cond.code ({ cls := "java/lang/String", name := "isLatin1", desc := "()Z" } : Jvm.MethodName) jdk_42_method_154_code (1 : Nat) (Option.some Jvm.ClassFile.FieldType.boolean)).before args0 about1 = true := code_word (m := ⟨7, 9⟩) (meth := k7m9) (c := k7c9) (by decide +kernel) rfl rfl rfl (by decide +kernel)
set_option maxRecDepth 65536 in
theorem w_c14 : (Jvm.Cond.code ({ cls := "java/lang/StringLatin1", name := "charAt", desc := "([BI)C" } : Jvm.MethodName) jdk_43_method_2_code (2 : Nat) (Option.some Jvm.ClassFile.FieldType.char)).before args0 about1 = true := code_word (m := ⟨10, 1⟩) (meth := k10m1) (c := k10c1) (by decide +kernel) rfl rfl rfl (by decide +kernel)
set_option maxRecDepth 65536 in
theorem w_c15 : (Jvm.Cond.code ({ cls := "java/lang/String", name := "checkIndex", desc := "(II)V" } : Jvm.MethodName) jdk_42_method_155_code (2 : Nat) (Option.none : Option Jvm.ClassFile.FieldType)).before args0 about1 = true := code_word (m := ⟨7, 10⟩) (meth := k7m10) (c := k7c10) (by decide +kernel) rfl rfl rfl (by decide +kernel)
set_option maxRecDepth 65536 in
theorem w_c16 : (Jvm.Cond.code ({ cls := "jdk/internal/util/Preconditions", name := "checkIndex", desc := "(IILjava/util/function/BiFunction;)I" } : Jvm.MethodName) jdk_41_method_11_code (3 : Nat) (Option.some Jvm.ClassFile.FieldType.int)).before args0 about1 = true := code_word (m := ⟨11, 1⟩) (meth := k11m1) (c := k11c1) (by decide +kernel) rfl rfl rfl (by decide +kernel)
set_option maxRecDepth 65536 in
theorem w_c17 : (Jvm.Cond.code ({ cls := "org/interpunct/marc/OneLine", name := "isLineBreak", desc := "(C)Z" } : Jvm.MethodName) prog_5_method_3_code (1 : Nat) (Option.some Jvm.ClassFile.FieldType.boolean)).before args0 about1 = true := code_word (m := ⟨9, 2⟩) (meth := k9m2) (c := k9c2) (by decide +kernel) rfl rfl rfl (by decide +kernel)
set_option maxRecDepth 65536 in
theorem w_c18 : (Jvm.Cond.code ({ cls := "org/interpunct/marc/OneLineOfPinLaw", name := "br", desc := "(C)Z" } : Jvm.MethodName) method_4_code (1 : Nat) (Option.some Jvm.ClassFile.FieldType.boolean)).before args0 about1 = true := code_word (m := ⟨1, 3⟩) (meth := k1m3) (c := k1c3) (by decide +kernel) rfl rfl rfl (by decide +kernel)
set_option maxRecDepth 65536 in
theorem w_c19 : (Jvm.Cond.code ({ cls := "org/interpunct/marc/OneLineOfPinLaw", name := "put", desc := "([CIZZC)I" } : Jvm.MethodName) method_6_code (5 : Nat) (Option.some Jvm.ClassFile.FieldType.int)).before args0 about1 = true := code_word (m := ⟨1, 5⟩) (meth := k1m5) (c := k1c5) (by decide +kernel) rfl rfl rfl (by decide +kernel)
set_option maxRecDepth 65536 in
theorem w_c20 : (Jvm.Cond.code ({ cls := "org/interpunct/marc/OneLineOfPinLaw", name := "same", desc := "(Ljava/lang/String;[CI)Z" } : Jvm.MethodName) method_7_code (3 : Nat) (Option.some Jvm.ClassFile.FieldType.boolean)).before args0 about1 = true := code_word (m := ⟨1, 6⟩) (meth := k1m6) (c := k1c6) (by decide +kernel) rfl rfl rfl (by decide +kernel)
set_option maxRecDepth 65536 in
theorem w_c21 : (Jvm.Cond.code ({ cls := "java/lang/StringBuilder", name := "<init>", desc := "(I)V" } : Jvm.MethodName) jdk_67_method_2_code (2 : Nat) (Option.none : Option Jvm.ClassFile.FieldType)).before args0 about1 = true := code_word (m := ⟨14, 1⟩) (meth := k14m1) (c := k14c1) (by decide +kernel) rfl rfl rfl (by decide +kernel)
set_option maxRecDepth 65536 in
theorem w_c22 : (Jvm.Cond.code ({ cls := "java/lang/AbstractStringBuilder", name := "<init>", desc := "(I)V" } : Jvm.MethodName) jdk_68_method_2_code (2 : Nat) (Option.none : Option Jvm.ClassFile.FieldType)).before args0 about1 = true := code_word (m := ⟨13, 1⟩) (meth := k13m1) (c := k13c1) (by decide +kernel) rfl rfl rfl (by decide +kernel)
set_option maxRecDepth 65536 in
theorem w_c23 : (Jvm.Cond.code ({ cls := "java/lang/StringBuilder", name := "append", desc := "(Ljava/lang/CharSequence;II)Ljava/lang/StringBuilder;" } : Jvm.MethodName) jdk_67_method_10_code (4 : Nat) (Option.some (Jvm.ClassFile.FieldType.object "java/lang/StringBuilder"))).before args0 about1 = true := code_word (m := ⟨14, 2⟩) (meth := k14m2) (c := k14c2) (by decide +kernel) rfl rfl rfl (by decide +kernel)
set_option maxRecDepth 65536 in
theorem w_c24 : (Jvm.Cond.code ({ cls := "java/lang/AbstractStringBuilder", name := "append", desc := "(Ljava/lang/CharSequence;II)Ljava/lang/AbstractStringBuilder;" } : Jvm.MethodName) jdk_68_method_27_code (5 : Nat) (Option.some (Jvm.ClassFile.FieldType.object "java/lang/AbstractStringBuilder"))).before args0 about1 = true := code_word (m := ⟨13, 7⟩) (meth := k13m7) (c := k13c7) (by decide +kernel) rfl rfl rfl (by decide +kernel)
set_option maxRecDepth 65536 in
theorem w_c25 : (Jvm.Cond.code ({ cls := "jdk/internal/util/Preconditions", name := "checkFromToIndex", desc := "(IIILjava/util/function/BiFunction;)I" } : Jvm.MethodName) jdk_41_method_12_code (4 : Nat) (Option.some Jvm.ClassFile.FieldType.int)).before args0 about1 = true := code_word (m := ⟨11, 2⟩) (meth := k11m2) (c := k11c2) (by decide +kernel) rfl rfl rfl (by decide +kernel)
set_option maxRecDepth 65536 in
theorem w_c26 : (Jvm.Cond.code ({ cls := "java/lang/AbstractStringBuilder", name := "ensureCapacityInternal", desc := "(I)V" } : Jvm.MethodName) jdk_68_method_9_code (3 : Nat) (Option.none : Option Jvm.ClassFile.FieldType)).before args0 about1 = true := code_word (m := ⟨13, 3⟩) (meth := k13m3) (c := k13c3) (by decide +kernel) rfl rfl rfl (by decide +kernel)
set_option maxRecDepth 65536 in
theorem w_c27 : (Jvm.Cond.code ({ cls := "java/lang/AbstractStringBuilder", name := "appendChars", desc := "(Ljava/lang/String;II)V" } : Jvm.MethodName) jdk_68_method_75_code (8 : Nat) (Option.none : Option Jvm.ClassFile.FieldType)).before args0 about1 = true := code_word (m := ⟨13, 11⟩) (meth := k13m11) (c := k13c11) (by decide +kernel) rfl rfl rfl (by decide +kernel)
set_option maxRecDepth 65536 in
theorem w_c28 : (Jvm.Cond.code ({ cls := "java/lang/AbstractStringBuilder", name := "isLatin1", desc := "()Z" } : Jvm.MethodName) jdk_68_method_68_code (1 : Nat) (Option.some Jvm.ClassFile.FieldType.boolean)).before args0 about1 = true := code_word (m := ⟨13, 10⟩) (meth := k13m10) (c := k13c10) (by decide +kernel) rfl rfl rfl (by decide +kernel)
set_option maxRecDepth 65536 in
theorem w_c29 : (Jvm.Cond.code ({ cls := "java/lang/String", name := "value", desc := "()[B" } : Jvm.MethodName) jdk_42_method_153_code (1 : Nat) (Option.some (Jvm.ClassFile.FieldType.array Jvm.ClassFile.FieldType.byte))).before args0 about1 = true := code_word (m := ⟨7, 8⟩) (meth := k7m8) (c := k7c8) (by decide +kernel) rfl rfl rfl (by decide +kernel)
set_option maxRecDepth 65536 in
theorem w_c30 : (Jvm.Cond.code ({ cls := "java/lang/StringBuilder", name := "length", desc := "()I" } : Jvm.MethodName) jdk_67_method_93_code (1 : Nat) (Option.some Jvm.ClassFile.FieldType.int)).before args0 about1 = true := code_word (m := ⟨14, 7⟩) (meth := k14m7) (c := k14c7) (by decide +kernel) rfl rfl rfl (by decide +kernel)
set_option maxRecDepth 65536 in
theorem w_c31 : (Jvm.Cond.code ({ cls := "java/lang/AbstractStringBuilder", name := "length", desc := "()I" } : Jvm.MethodName) jdk_68_method_6_code (1 : Nat) (Option.some Jvm.ClassFile.FieldType.int)).before args0 about1 = true := code_word (m := ⟨13, 2⟩) (meth := k13m2) (c := k13c2) (by decide +kernel) rfl rfl rfl (by decide +kernel)
set_option maxRecDepth 65536 in
theorem w_c32 : (Jvm.Cond.code ({ cls := "java/lang/StringBuilder", name := "append", desc := "(C)Ljava/lang/StringBuilder;" } : Jvm.MethodName) jdk_67_method_14_code (2 : Nat) (Option.some (Jvm.ClassFile.FieldType.object "java/lang/StringBuilder"))).before args0 about1 = true := code_word (m := ⟨14, 3⟩) (meth := k14m3) (c := k14c3) (by decide +kernel) rfl rfl rfl (by decide +kernel)
set_option maxRecDepth 65536 in
theorem w_c33 : (Jvm.Cond.code ({ cls := "java/lang/AbstractStringBuilder", name := "append", desc := "(C)Ljava/lang/AbstractStringBuilder;" } : Jvm.MethodName) jdk_68_method_31_code (2 : Nat) (Option.some (Jvm.ClassFile.FieldType.object "java/lang/AbstractStringBuilder"))).before args0 about1 = true := code_word (m := ⟨13, 8⟩) (meth := k13m8) (c := k13c8) (by decide +kernel) rfl rfl rfl (by decide +kernel)
set_option maxRecDepth 65536 in
theorem w_c34 : (Jvm.Cond.code ({ cls := "java/lang/StringLatin1", name := "canEncode", desc := "(C)Z" } : Jvm.MethodName) jdk_43_method_3_code (1 : Nat) (Option.some Jvm.ClassFile.FieldType.boolean)).before args0 about1 = true := code_word (m := ⟨10, 2⟩) (meth := k10m2) (c := k10c2) (by decide +kernel) rfl rfl rfl (by decide +kernel)
set_option maxRecDepth 65536 in
theorem w_c35 : (Jvm.Cond.code ({ cls := "java/lang/StringBuilder", name := "charAt", desc := "(I)C" } : Jvm.MethodName) jdk_67_method_88_code (2 : Nat) (Option.some Jvm.ClassFile.FieldType.char)).before args0 about1 = true := code_word (m := ⟨14, 5⟩) (meth := k14m5) (c := k14c5) (by decide +kernel) rfl rfl rfl (by decide +kernel)
set_option maxRecDepth 65536 in
theorem w_c36 : (Jvm.Cond.code ({ cls := "java/lang/AbstractStringBuilder", name := "charAt", desc := "(I)C" } : Jvm.MethodName) jdk_68_method_14_code (5 : Nat) (Option.some Jvm.ClassFile.FieldType.char)).before args0 about1 = true := code_word (m := ⟨13, 6⟩) (meth := k13m6) (c := k13c6) (by decide +kernel) rfl rfl rfl (by decide +kernel)
set_option maxRecDepth 65536 in
theorem w_c37 : (Jvm.Cond.code ({ cls := "java/lang/Math", name := "min", desc := "(II)I" } : Jvm.MethodName) jdk_29_method_69_code (2 : Nat) (Option.some Jvm.ClassFile.FieldType.int)).before args0 about1 = true := code_word (m := ⟨16, 1⟩) (meth := k16m1) (c := k16c1) (by decide +kernel) rfl rfl rfl (by decide +kernel)
set_option maxRecDepth 65536 in
theorem w_c38 : (Jvm.Cond.code ({ cls := "java/lang/StringBuilder", name := "toString", desc := "()Ljava/lang/String;" } : Jvm.MethodName) jdk_67_method_42_code (1 : Nat) (Option.some (Jvm.ClassFile.FieldType.object "java/lang/String"))).before args0 about1 = true := code_word (m := ⟨14, 4⟩) (meth := k14m4) (c := k14c4) (by decide +kernel) rfl rfl rfl (by decide +kernel)
set_option maxRecDepth 65536 in
theorem w_c39 : (Jvm.Cond.code ({ cls := "java/lang/String", name := "<init>", desc := "(Ljava/lang/StringBuilder;)V" } : Jvm.MethodName) jdk_42_method_53_code (2 : Nat) (Option.none : Option Jvm.ClassFile.FieldType)).before args0 about1 = true := code_word (m := ⟨7, 2⟩) (meth := k7m2) (c := k7c2) (by decide +kernel) rfl rfl rfl (by decide +kernel)
set_option maxRecDepth 65536 in
theorem w_c40 : (Jvm.Cond.code ({ cls := "java/lang/String", name := "<init>", desc := "(Ljava/lang/AbstractStringBuilder;Ljava/lang/Void;)V" } : Jvm.MethodName) jdk_42_method_150_code (5 : Nat) (Option.none : Option Jvm.ClassFile.FieldType)).before args0 about1 = true := code_word (m := ⟨7, 6⟩) (meth := k7m6) (c := k7c6) (by decide +kernel) rfl rfl rfl (by decide +kernel)
set_option maxRecDepth 65536 in
theorem w_c41 : (Jvm.Cond.code ({ cls := "java/lang/AbstractStringBuilder", name := "getValue", desc := "()[B" } : Jvm.MethodName) jdk_68_method_64_code (1 : Nat) (Option.some (Jvm.ClassFile.FieldType.array Jvm.ClassFile.FieldType.byte))).before args0 about1 = true := code_word (m := ⟨13, 9⟩) (meth := k13m9) (c := k13c9) (by decide +kernel) rfl rfl rfl (by decide +kernel)
set_option maxRecDepth 65536 in
theorem w_c42 : (Jvm.Cond.code ({ cls := "java/util/Arrays", name := "copyOfRange", desc := "([BII)[B" } : Jvm.MethodName) jdk_65_method_132_code (3 : Nat) (Option.some (Jvm.ClassFile.FieldType.array Jvm.ClassFile.FieldType.byte))).before args0 about1 = true := code_word (m := ⟨17, 2⟩) (meth := k17m2) (c := k17c2) (by decide +kernel) rfl rfl rfl (by decide +kernel)
set_option maxRecDepth 65536 in
theorem w_c43 : (Jvm.Cond.code ({ cls := "java/lang/StringUTF16", name := "toBytes", desc := "([CII)[B" } : Jvm.MethodName) jdk_52_method_14_code (5 : Nat) (Option.some (Jvm.ClassFile.FieldType.array Jvm.ClassFile.FieldType.byte))).before args0 about1 = true := code_word (m := ⟨8, 6⟩) (meth := k8m6) (c := k8c6) (by decide +kernel) rfl rfl rfl (by decide +kernel)
set_option maxRecDepth 65536 in
theorem w_c44 : (Jvm.Cond.code ({ cls := "java/lang/StringUTF16", name := "newBytesFor", desc := "(I)[B" } : Jvm.MethodName) jdk_52_method_2_code (1 : Nat) (Option.some (Jvm.ClassFile.FieldType.array Jvm.ClassFile.FieldType.byte))).before args0 about1 = true := code_word (m := ⟨8, 1⟩) (meth := k8m1) (c := k8c1) (by decide +kernel) rfl rfl rfl (by decide +kernel)
set_option maxRecDepth 65536 in
theorem w_c45 : (Jvm.Cond.code ({ cls := "java/lang/StringUTF16", name := "newBytesLength", desc := "(I)I" } : Jvm.MethodName) jdk_52_method_3_code (1 : Nat) (Option.some Jvm.ClassFile.FieldType.int)).before args0 about1 = true := code_word (m := ⟨8, 2⟩) (meth := k8m2) (c := k8c2) (by decide +kernel) rfl rfl rfl (by decide +kernel)
set_option maxRecDepth 65536 in
theorem w_c46 : (Jvm.Cond.code ({ cls := "java/lang/StringUTF16", name := "putChar", desc := "([BII)V" } : Jvm.MethodName) jdk_52_method_4_code (3 : Nat) (Option.none : Option Jvm.ClassFile.FieldType)).before args0 about1 = true := code_word (m := ⟨8, 3⟩) (meth := k8m3) (c := k8c3) (by decide +kernel) rfl rfl rfl (by decide +kernel)
set_option maxRecDepth 65536 in
theorem w_c47 : (Jvm.Cond.code ({ cls := "java/lang/StringUTF16", name := "getChar", desc := "([BI)C" } : Jvm.MethodName) jdk_52_method_5_code (2 : Nat) (Option.some Jvm.ClassFile.FieldType.char)).before args0 about1 = true := code_word (m := ⟨8, 4⟩) (meth := k8m4) (c := k8c4) (by decide +kernel) rfl rfl rfl (by decide +kernel)
set_option maxRecDepth 65536 in
theorem w_c48 : (Jvm.Cond.code ({ cls := "java/lang/StringUTF16", name := "charAt", desc := "([BI)C" } : Jvm.MethodName) jdk_52_method_83_code (2 : Nat) (Option.some Jvm.ClassFile.FieldType.char)).before args0 about1 = true := code_word (m := ⟨8, 13⟩) (meth := k8m13) (c := k8c13) (by decide +kernel) rfl rfl rfl (by decide +kernel)
set_option maxRecDepth 65536 in
theorem w_c49 : (Jvm.Cond.code ({ cls := "java/lang/StringUTF16", name := "checkIndex", desc := "(I[B)V" } : Jvm.MethodName) jdk_52_method_91_code (2 : Nat) (Option.none : Option Jvm.ClassFile.FieldType)).before args0 about1 = true := code_word (m := ⟨8, 15⟩) (meth := k8m15) (c := k8c15) (by decide +kernel) rfl rfl rfl (by decide +kernel)
set_option maxRecDepth 65536 in
theorem w_c50 : (Jvm.Cond.code ({ cls := "java/lang/StringUTF16", name := "length", desc := "([B)I" } : Jvm.MethodName) jdk_52_method_6_code (1 : Nat) (Option.some Jvm.ClassFile.FieldType.int)).before args0 about1 = true := code_word (m := ⟨8, 5⟩) (meth := k8m5) (c := k8c5) (by decide +kernel) rfl rfl rfl (by decide +kernel)
set_option maxRecDepth 65536 in
theorem w_c51 : (Jvm.Cond.code ({ cls := "java/lang/AbstractStringBuilder", name := "inflate", desc := "()V" } : Jvm.MethodName) jdk_68_method_11_code (2 : Nat) (Option.none : Option Jvm.ClassFile.FieldType)).before args0 about1 = true := code_word (m := ⟨13, 4⟩) (meth := k13m4) (c := k13c4) (by decide +kernel) rfl rfl rfl (by decide +kernel)
set_option maxRecDepth 65536 in
theorem w_c52 : (Jvm.Cond.code ({ cls := "java/lang/StringLatin1", name := "inflate", desc := "([BI[BII)V" } : Jvm.MethodName) jdk_43_method_50_code (5 : Nat) (Option.none : Option Jvm.ClassFile.FieldType)).before args0 about1 = true := code_word (m := ⟨10, 3⟩) (meth := k10m3) (c := k10c3) (by decide +kernel) rfl rfl rfl (by decide +kernel)
set_option maxRecDepth 65536 in
theorem w_c53 : (Jvm.Cond.code ({ cls := "java/lang/StringUTF16", name := "inflate", desc := "([BI[BII)V" } : Jvm.MethodName) jdk_52_method_86_code (6 : Nat) (Option.none : Option Jvm.ClassFile.FieldType)).before args0 about1 = true := code_word (m := ⟨8, 14⟩) (meth := k8m14) (c := k8c14) (by decide +kernel) rfl rfl rfl (by decide +kernel)
set_option maxRecDepth 65536 in
theorem w_c54 : (Jvm.Cond.code ({ cls := "java/lang/StringUTF16", name := "checkBoundsOffCount", desc := "(II[B)V" } : Jvm.MethodName) jdk_52_method_94_code (3 : Nat) (Option.none : Option Jvm.ClassFile.FieldType)).before args0 about1 = true := code_word (m := ⟨8, 16⟩) (meth := k8m16) (c := k8c16) (by decide +kernel) rfl rfl rfl (by decide +kernel)
set_option maxRecDepth 65536 in
theorem w_c55 : (Jvm.Cond.code ({ cls := "java/lang/String", name := "checkBoundsOffCount", desc := "(III)I" } : Jvm.MethodName) jdk_42_method_157_code (3 : Nat) (Option.some Jvm.ClassFile.FieldType.int)).before args0 about1 = true := code_word (m := ⟨7, 11⟩) (meth := k7m11) (c := k7c11) (by decide +kernel) rfl rfl rfl (by decide +kernel)
set_option maxRecDepth 65536 in
theorem w_c56 : (Jvm.Cond.code ({ cls := "jdk/internal/util/Preconditions", name := "checkFromIndexSize", desc := "(IIILjava/util/function/BiFunction;)I" } : Jvm.MethodName) jdk_41_method_13_code (4 : Nat) (Option.some Jvm.ClassFile.FieldType.int)).before args0 about1 = true := code_word (m := ⟨11, 3⟩) (meth := k11m3) (c := k11c3) (by decide +kernel) rfl rfl rfl (by decide +kernel)
set_option maxRecDepth 65536 in
theorem w_c57 : (Jvm.Cond.code ({ cls := "java/lang/StringUTF16", name := "putCharSB", desc := "([BII)V" } : Jvm.MethodName) jdk_52_method_71_code (3 : Nat) (Option.none : Option Jvm.ClassFile.FieldType)).before args0 about1 = true := code_word (m := ⟨8, 12⟩) (meth := k8m12) (c := k8c12) (by decide +kernel) rfl rfl rfl (by decide +kernel)
set_option maxRecDepth 65536 in
theorem w_c58 : (Jvm.Cond.code ({ cls := "java/lang/StringBuilder", name := "setLength", desc := "(I)V" } : Jvm.MethodName) jdk_67_method_89_code (2 : Nat) (Option.none : Option Jvm.ClassFile.FieldType)).before args0 about1 = true := code_word (m := ⟨14, 6⟩) (meth := k14m6) (c := k14c6) (by decide +kernel) rfl rfl rfl (by decide +kernel)
set_option maxRecDepth 65536 in
theorem w_c59 : (Jvm.Cond.code ({ cls := "java/lang/AbstractStringBuilder", name := "setLength", desc := "(I)V" } : Jvm.MethodName) jdk_68_method_13_code (2 : Nat) (Option.none : Option Jvm.ClassFile.FieldType)).before args0 about1 = true := code_word (m := ⟨13, 5⟩) (meth := k13m5) (c := k13c5) (by decide +kernel) rfl rfl rfl (by decide +kernel)
set_option maxRecDepth 65536 in
theorem w_c60 : (Jvm.Cond.code ({ cls := "java/util/Arrays", name := "copyOfRangeByte", desc := "([BII)[B" } : Jvm.MethodName) jdk_65_method_133_code (5 : Nat) (Option.some (Jvm.ClassFile.FieldType.array Jvm.ClassFile.FieldType.byte))).before args0 about1 = true := code_word (m := ⟨17, 3⟩) (meth := k17m3) (c := k17c3) (by decide +kernel) rfl rfl rfl (by decide +kernel)
set_option maxRecDepth 65536 in
theorem w_c61 : (Jvm.Cond.code ({ cls := "java/util/Arrays", name := "checkLength", desc := "(II)V" } : Jvm.MethodName) jdk_65_method_131_code (2 : Nat) (Option.none : Option Jvm.ClassFile.FieldType)).before args0 about1 = true := code_word (m := ⟨17, 1⟩) (meth := k17m1) (c := k17c1) (by decide +kernel) rfl rfl rfl (by decide +kernel)
set_option maxRecDepth 65536 in
theorem w_c62 : (Jvm.Cond.code ({ cls := "java/lang/StringUTF16", name := "compress", desc := "([BII)[B" } : Jvm.MethodName) jdk_52_method_17_code (6 : Nat) (Option.some (Jvm.ClassFile.FieldType.array Jvm.ClassFile.FieldType.byte))).before args0 about1 = true := code_word (m := ⟨8, 9⟩) (meth := k8m9) (c := k8c9) (by decide +kernel) rfl rfl rfl (by decide +kernel)
set_option maxRecDepth 65536 in
theorem w_c63 : (Jvm.Cond.code ({ cls := "java/lang/StringUTF16", name := "compress", desc := "([BI[BII)I" } : Jvm.MethodName) jdk_52_method_22_code (7 : Nat) (Option.some Jvm.ClassFile.FieldType.int)).before args0 about1 = true := code_word (m := ⟨8, 11⟩) (meth := k8m11) (c := k8c11) (by decide +kernel) rfl rfl rfl (by decide +kernel)
def codes1 : List Jvm.Cond := [Jvm.Cond.code x code maxLocals ret, Jvm.Cond.code ({ cls := "org/interpunct/marc/OneLineOfPinLaw", name := "ch", desc := "(I)C" } : Jvm.MethodName) method_3_code (4 : Nat) (Option.some Jvm.ClassFile.FieldType.char), Jvm.Cond.code ({ cls := "org/interpunct/marc/OneLineOfPinLaw", name := "make", desc := "(ICCCCC)Ljava/lang/String;" } : Jvm.MethodName) method_5_code (6 : Nat) (Option.some (Jvm.ClassFile.FieldType.object "java/lang/String")), Jvm.Cond.code ({ cls := "java/lang/String", name := "<init>", desc := "([C)V" } : Jvm.MethodName) jdk_42_method_3_code (2 : Nat) (Option.none : Option Jvm.ClassFile.FieldType), Jvm.Cond.code ({ cls := "java/lang/String", name := "<init>", desc := "([CIILjava/lang/Void;)V" } : Jvm.MethodName) jdk_42_method_149_code (6 : Nat) (Option.none : Option Jvm.ClassFile.FieldType), Jvm.Cond.code ({ cls := "java/lang/Object", name := "<init>", desc := "()V" } : Jvm.MethodName) object_method_1_code (1 : Nat) (Option.none : Option Jvm.ClassFile.FieldType), Jvm.Cond.code ({ cls := "java/lang/StringUTF16", name := "compress", desc := "([CII)[B" } : Jvm.MethodName) jdk_52_method_16_code (6 : Nat) (Option.some (Jvm.ClassFile.FieldType.array Jvm.ClassFile.FieldType.byte)), Jvm.Cond.code ({ cls := "java/lang/StringUTF16", name := "compress", desc := "([CI[BII)I" } : Jvm.MethodName) jdk_52_method_21_code (7 : Nat) (Option.some Jvm.ClassFile.FieldType.int), Jvm.Cond.code ({ cls := "java/lang/StringUTF16", name := "coderFromArrayLen", desc := "([BI)B" } : Jvm.MethodName) jdk_52_method_15_code (2 : Nat) (Option.some Jvm.ClassFile.FieldType.byte), Jvm.Cond.code ({ cls := "org/interpunct/marc/OneLine", name := "of", desc := "(Ljava/lang/String;)Ljava/lang/String;" } : Jvm.MethodName) prog_5_method_2_code (3 : Nat) (Option.some (Jvm.ClassFile.FieldType.object "java/lang/String")), Jvm.Cond.code ({ cls := "java/lang/String", name := "length", desc := "()I" } : Jvm.MethodName) jdk_42_method_54_code (1 : Nat) (Option.some Jvm.ClassFile.FieldType.int), Jvm.Cond.code ({ cls := "java/lang/String", name := "coder", desc := "()B" } : Jvm.MethodName) jdk_42_method_152_code (1 : Nat) (Option.some Jvm.ClassFile.FieldType.byte), Jvm.Cond.code ({ cls := "java/lang/String", name := "charAt", desc := "(I)C" } : Jvm.MethodName) jdk_42_method_56_code (2 : Nat) (Option.some Jvm.ClassFile.FieldType.char), Jvm.Cond.code ({ cls := "java/lang/String", name := "isLatin1", desc := "()Z" } : Jvm.MethodName) jdk_42_method_154_code (1 : Nat) (Option.some Jvm.ClassFile.FieldType.boolean), Jvm.Cond.code ({ cls := "java/lang/StringLatin1", name := "charAt", desc := "([BI)C" } : Jvm.MethodName) jdk_43_method_2_code (2 : Nat) (Option.some Jvm.ClassFile.FieldType.char), Jvm.Cond.code ({ cls := "java/lang/String", name := "checkIndex", desc := "(II)V" } : Jvm.MethodName) jdk_42_method_155_code (2 : Nat) (Option.none : Option Jvm.ClassFile.FieldType), Jvm.Cond.code ({ cls := "jdk/internal/util/Preconditions", name := "checkIndex", desc := "(IILjava/util/function/BiFunction;)I" } : Jvm.MethodName) jdk_41_method_11_code (3 : Nat) (Option.some Jvm.ClassFile.FieldType.int), Jvm.Cond.code ({ cls := "org/interpunct/marc/OneLine", name := "isLineBreak", desc := "(C)Z" } : Jvm.MethodName) prog_5_method_3_code (1 : Nat) (Option.some Jvm.ClassFile.FieldType.boolean), Jvm.Cond.code ({ cls := "org/interpunct/marc/OneLineOfPinLaw", name := "br", desc := "(C)Z" } : Jvm.MethodName) method_4_code (1 : Nat) (Option.some Jvm.ClassFile.FieldType.boolean), Jvm.Cond.code ({ cls := "org/interpunct/marc/OneLineOfPinLaw", name := "put", desc := "([CIZZC)I" } : Jvm.MethodName) method_6_code (5 : Nat) (Option.some Jvm.ClassFile.FieldType.int), Jvm.Cond.code ({ cls := "org/interpunct/marc/OneLineOfPinLaw", name := "same", desc := "(Ljava/lang/String;[CI)Z" } : Jvm.MethodName) method_7_code (3 : Nat) (Option.some Jvm.ClassFile.FieldType.boolean), Jvm.Cond.code ({ cls := "java/lang/StringBuilder", name := "<init>", desc := "(I)V" } : Jvm.MethodName) jdk_67_method_2_code (2 : Nat) (Option.none : Option Jvm.ClassFile.FieldType), Jvm.Cond.code ({ cls := "java/lang/AbstractStringBuilder", name := "<init>", desc := "(I)V" } : Jvm.MethodName) jdk_68_method_2_code (2 : Nat) (Option.none : Option Jvm.ClassFile.FieldType), Jvm.Cond.code ({ cls := "java/lang/StringBuilder", name := "append", desc := "(Ljava/lang/CharSequence;II)Ljava/lang/StringBuilder;" } : Jvm.MethodName) jdk_67_method_10_code (4 : Nat) (Option.some (Jvm.ClassFile.FieldType.object "java/lang/StringBuilder")), Jvm.Cond.code ({ cls := "java/lang/AbstractStringBuilder", name := "append", desc := "(Ljava/lang/CharSequence;II)Ljava/lang/AbstractStringBuilder;" } : Jvm.MethodName) jdk_68_method_27_code (5 : Nat) (Option.some (Jvm.ClassFile.FieldType.object "java/lang/AbstractStringBuilder")), Jvm.Cond.code ({ cls := "jdk/internal/util/Preconditions", name := "checkFromToIndex", desc := "(IIILjava/util/function/BiFunction;)I" } : Jvm.MethodName) jdk_41_method_12_code (4 : Nat) (Option.some Jvm.ClassFile.FieldType.int), Jvm.Cond.code ({ cls := "java/lang/AbstractStringBuilder", name := "ensureCapacityInternal", desc := "(I)V" } : Jvm.MethodName) jdk_68_method_9_code (3 : Nat) (Option.none : Option Jvm.ClassFile.FieldType), Jvm.Cond.code ({ cls := "java/lang/AbstractStringBuilder", name := "appendChars", desc := "(Ljava/lang/String;II)V" } : Jvm.MethodName) jdk_68_method_75_code (8 : Nat) (Option.none : Option Jvm.ClassFile.FieldType), Jvm.Cond.code ({ cls := "java/lang/AbstractStringBuilder", name := "isLatin1", desc := "()Z" } : Jvm.MethodName) jdk_68_method_68_code (1 : Nat) (Option.some Jvm.ClassFile.FieldType.boolean), Jvm.Cond.code ({ cls := "java/lang/String", name := "value", desc := "()[B" } : Jvm.MethodName) jdk_42_method_153_code (1 : Nat) (Option.some (Jvm.ClassFile.FieldType.array Jvm.ClassFile.FieldType.byte)), Jvm.Cond.code ({ cls := "java/lang/StringBuilder", name := "length", desc := "()I" } : Jvm.MethodName) jdk_67_method_93_code (1 : Nat) (Option.some Jvm.ClassFile.FieldType.int), Jvm.Cond.code ({ cls := "java/lang/AbstractStringBuilder", name := "length", desc := "()I" } : Jvm.MethodName) jdk_68_method_6_code (1 : Nat) (Option.some Jvm.ClassFile.FieldType.int), Jvm.Cond.code ({ cls := "java/lang/StringBuilder", name := "append", desc := "(C)Ljava/lang/StringBuilder;" } : Jvm.MethodName) jdk_67_method_14_code (2 : Nat) (Option.some (Jvm.ClassFile.FieldType.object "java/lang/StringBuilder")), Jvm.Cond.code ({ cls := "java/lang/AbstractStringBuilder", name := "append", desc := "(C)Ljava/lang/AbstractStringBuilder;" } : Jvm.MethodName) jdk_68_method_31_code (2 : Nat) (Option.some (Jvm.ClassFile.FieldType.object "java/lang/AbstractStringBuilder")), Jvm.Cond.code ({ cls := "java/lang/StringLatin1", name := "canEncode", desc := "(C)Z" } : Jvm.MethodName) jdk_43_method_3_code (1 : Nat) (Option.some Jvm.ClassFile.FieldType.boolean), Jvm.Cond.code ({ cls := "java/lang/StringBuilder", name := "charAt", desc := "(I)C" } : Jvm.MethodName) jdk_67_method_88_code (2 : Nat) (Option.some Jvm.ClassFile.FieldType.char), Jvm.Cond.code ({ cls := "java/lang/AbstractStringBuilder", name := "charAt", desc := "(I)C" } : Jvm.MethodName) jdk_68_method_14_code (5 : Nat) (Option.some Jvm.ClassFile.FieldType.char), Jvm.Cond.code ({ cls := "java/lang/Math", name := "min", desc := "(II)I" } : Jvm.MethodName) jdk_29_method_69_code (2 : Nat) (Option.some Jvm.ClassFile.FieldType.int), Jvm.Cond.code ({ cls := "java/lang/StringBuilder", name := "toString", desc := "()Ljava/lang/String;" } : Jvm.MethodName) jdk_67_method_42_code (1 : Nat) (Option.some (Jvm.ClassFile.FieldType.object "java/lang/String")), Jvm.Cond.code ({ cls := "java/lang/String", name := "<init>", desc := "(Ljava/lang/StringBuilder;)V" } : Jvm.MethodName) jdk_42_method_53_code (2 : Nat) (Option.none : Option Jvm.ClassFile.FieldType), Jvm.Cond.code ({ cls := "java/lang/String", name := "<init>", desc := "(Ljava/lang/AbstractStringBuilder;Ljava/lang/Void;)V" } : Jvm.MethodName) jdk_42_method_150_code (5 : Nat) (Option.none : Option Jvm.ClassFile.FieldType), Jvm.Cond.code ({ cls := "java/lang/AbstractStringBuilder", name := "getValue", desc := "()[B" } : Jvm.MethodName) jdk_68_method_64_code (1 : Nat) (Option.some (Jvm.ClassFile.FieldType.array Jvm.ClassFile.FieldType.byte)), Jvm.Cond.code ({ cls := "java/util/Arrays", name := "copyOfRange", desc := "([BII)[B" } : Jvm.MethodName) jdk_65_method_132_code (3 : Nat) (Option.some (Jvm.ClassFile.FieldType.array Jvm.ClassFile.FieldType.byte)), Jvm.Cond.code ({ cls := "java/lang/StringUTF16", name := "toBytes", desc := "([CII)[B" } : Jvm.MethodName) jdk_52_method_14_code (5 : Nat) (Option.some (Jvm.ClassFile.FieldType.array Jvm.ClassFile.FieldType.byte)), Jvm.Cond.code ({ cls := "java/lang/StringUTF16", name := "newBytesFor", desc := "(I)[B" } : Jvm.MethodName) jdk_52_method_2_code (1 : Nat) (Option.some (Jvm.ClassFile.FieldType.array Jvm.ClassFile.FieldType.byte)), Jvm.Cond.code ({ cls := "java/lang/StringUTF16", name := "newBytesLength", desc := "(I)I" } : Jvm.MethodName) jdk_52_method_3_code (1 : Nat) (Option.some Jvm.ClassFile.FieldType.int), Jvm.Cond.code ({ cls := "java/lang/StringUTF16", name := "putChar", desc := "([BII)V" } : Jvm.MethodName) jdk_52_method_4_code (3 : Nat) (Option.none : Option Jvm.ClassFile.FieldType), Jvm.Cond.code ({ cls := "java/lang/StringUTF16", name := "getChar", desc := "([BI)C" } : Jvm.MethodName) jdk_52_method_5_code (2 : Nat) (Option.some Jvm.ClassFile.FieldType.char), Jvm.Cond.code ({ cls := "java/lang/StringUTF16", name := "charAt", desc := "([BI)C" } : Jvm.MethodName) jdk_52_method_83_code (2 : Nat) (Option.some Jvm.ClassFile.FieldType.char), Jvm.Cond.code ({ cls := "java/lang/StringUTF16", name := "checkIndex", desc := "(I[B)V" } : Jvm.MethodName) jdk_52_method_91_code (2 : Nat) (Option.none : Option Jvm.ClassFile.FieldType), Jvm.Cond.code ({ cls := "java/lang/StringUTF16", name := "length", desc := "([B)I" } : Jvm.MethodName) jdk_52_method_6_code (1 : Nat) (Option.some Jvm.ClassFile.FieldType.int), Jvm.Cond.code ({ cls := "java/lang/AbstractStringBuilder", name := "inflate", desc := "()V" } : Jvm.MethodName) jdk_68_method_11_code (2 : Nat) (Option.none : Option Jvm.ClassFile.FieldType), Jvm.Cond.code ({ cls := "java/lang/StringLatin1", name := "inflate", desc := "([BI[BII)V" } : Jvm.MethodName) jdk_43_method_50_code (5 : Nat) (Option.none : Option Jvm.ClassFile.FieldType), Jvm.Cond.code ({ cls := "java/lang/StringUTF16", name := "inflate", desc := "([BI[BII)V" } : Jvm.MethodName) jdk_52_method_86_code (6 : Nat) (Option.none : Option Jvm.ClassFile.FieldType), Jvm.Cond.code ({ cls := "java/lang/StringUTF16", name := "checkBoundsOffCount", desc := "(II[B)V" } : Jvm.MethodName) jdk_52_method_94_code (3 : Nat) (Option.none : Option Jvm.ClassFile.FieldType), Jvm.Cond.code ({ cls := "java/lang/String", name := "checkBoundsOffCount", desc := "(III)I" } : Jvm.MethodName) jdk_42_method_157_code (3 : Nat) (Option.some Jvm.ClassFile.FieldType.int), Jvm.Cond.code ({ cls := "jdk/internal/util/Preconditions", name := "checkFromIndexSize", desc := "(IIILjava/util/function/BiFunction;)I" } : Jvm.MethodName) jdk_41_method_13_code (4 : Nat) (Option.some Jvm.ClassFile.FieldType.int), Jvm.Cond.code ({ cls := "java/lang/StringUTF16", name := "putCharSB", desc := "([BII)V" } : Jvm.MethodName) jdk_52_method_71_code (3 : Nat) (Option.none : Option Jvm.ClassFile.FieldType), Jvm.Cond.code ({ cls := "java/lang/StringBuilder", name := "setLength", desc := "(I)V" } : Jvm.MethodName) jdk_67_method_89_code (2 : Nat) (Option.none : Option Jvm.ClassFile.FieldType), Jvm.Cond.code ({ cls := "java/lang/AbstractStringBuilder", name := "setLength", desc := "(I)V" } : Jvm.MethodName) jdk_68_method_13_code (2 : Nat) (Option.none : Option Jvm.ClassFile.FieldType), Jvm.Cond.code ({ cls := "java/util/Arrays", name := "copyOfRangeByte", desc := "([BII)[B" } : Jvm.MethodName) jdk_65_method_133_code (5 : Nat) (Option.some (Jvm.ClassFile.FieldType.array Jvm.ClassFile.FieldType.byte)), Jvm.Cond.code ({ cls := "java/util/Arrays", name := "checkLength", desc := "(II)V" } : Jvm.MethodName) jdk_65_method_131_code (2 : Nat) (Option.none : Option Jvm.ClassFile.FieldType), Jvm.Cond.code ({ cls := "java/lang/StringUTF16", name := "compress", desc := "([BII)[B" } : Jvm.MethodName) jdk_52_method_17_code (6 : Nat) (Option.some (Jvm.ClassFile.FieldType.array Jvm.ClassFile.FieldType.byte)), Jvm.Cond.code ({ cls := "java/lang/StringUTF16", name := "compress", desc := "([BI[BII)I" } : Jvm.MethodName) jdk_52_method_22_code (7 : Nat) (Option.some Jvm.ClassFile.FieldType.int)]
set_option maxRecDepth 65536 in
theorem codes_eq : words1.filter isCode = codes1 := rfl
theorem w_codes : ∀ c ∈ words1.filter isCode, c.before args0 about1 = true := by
  rw [codes_eq]
  intro c hc
  simp only [codes1, List.mem_cons, List.not_mem_nil, or_false] at hc
  rcases hc with rfl | rfl | rfl | rfl | rfl | rfl | rfl | rfl | rfl | rfl | rfl | rfl | rfl | rfl | rfl | rfl | rfl | rfl | rfl | rfl | rfl | rfl | rfl | rfl | rfl | rfl | rfl | rfl | rfl | rfl | rfl | rfl | rfl | rfl | rfl | rfl | rfl | rfl | rfl | rfl | rfl | rfl | rfl | rfl | rfl | rfl | rfl | rfl | rfl | rfl | rfl | rfl | rfl | rfl | rfl | rfl | rfl | rfl | rfl | rfl | rfl | rfl | rfl | rfl
  · exact w_c0
  · exact w_c1
  · exact w_c2
  · exact w_c3
  · exact w_c4
  · exact w_c5
  · exact w_c6
  · exact w_c7
  · exact w_c8
  · exact w_c9
  · exact w_c10
  · exact w_c11
  · exact w_c12
  · exact w_c13
  · exact w_c14
  · exact w_c15
  · exact w_c16
  · exact w_c17
  · exact w_c18
  · exact w_c19
  · exact w_c20
  · exact w_c21
  · exact w_c22
  · exact w_c23
  · exact w_c24
  · exact w_c25
  · exact w_c26
  · exact w_c27
  · exact w_c28
  · exact w_c29
  · exact w_c30
  · exact w_c31
  · exact w_c32
  · exact w_c33
  · exact w_c34
  · exact w_c35
  · exact w_c36
  · exact w_c37
  · exact w_c38
  · exact w_c39
  · exact w_c40
  · exact w_c41
  · exact w_c42
  · exact w_c43
  · exact w_c44
  · exact w_c45
  · exact w_c46
  · exact w_c47
  · exact w_c48
  · exact w_c49
  · exact w_c50
  · exact w_c51
  · exact w_c52
  · exact w_c53
  · exact w_c54
  · exact w_c55
  · exact w_c56
  · exact w_c57
  · exact w_c58
  · exact w_c59
  · exact w_c60
  · exact w_c61
  · exact w_c62
  · exact w_c63
set_option maxRecDepth 65536 in
theorem w_t1 : (words1.take 24).all (fun c => isCode c || c.before args0 about1) = true := by decide +kernel
set_option maxRecDepth 65536 in
theorem w_t2 : ((words1.drop 24).take 24).all (fun c => isCode c || c.before args0 about1) = true := by decide +kernel
set_option maxRecDepth 65536 in
theorem w_t3 : (((words1.drop 24).drop 24).take 24).all (fun c => isCode c || c.before args0 about1) = true := by decide +kernel
set_option maxRecDepth 65536 in
theorem w_t4 : ((((words1.drop 24).drop 24).drop 24).take 24).all (fun c => isCode c || c.before args0 about1) = true := by decide +kernel
set_option maxRecDepth 65536 in
theorem w_t5 : (((((words1.drop 24).drop 24).drop 24).drop 24).take 24).all (fun c => isCode c || c.before args0 about1) = true := by decide +kernel
set_option maxRecDepth 65536 in
theorem w_t6 : ((((((words1.drop 24).drop 24).drop 24).drop 24).drop 24).take 24).all (fun c => isCode c || c.before args0 about1) = true := by decide +kernel
set_option maxRecDepth 65536 in
theorem w_t7 : (((((((words1.drop 24).drop 24).drop 24).drop 24).drop 24).drop 24).take 24).all (fun c => isCode c || c.before args0 about1) = true := by decide +kernel
set_option maxRecDepth 65536 in
theorem w_t8 : ((((((((words1.drop 24).drop 24).drop 24).drop 24).drop 24).drop 24).drop 24).take 24).all (fun c => isCode c || c.before args0 about1) = true := by decide +kernel
set_option maxRecDepth 65536 in
theorem w_t9 : (((((((((words1.drop 24).drop 24).drop 24).drop 24).drop 24).drop 24).drop 24).drop 24).take 24).all (fun c => isCode c || c.before args0 about1) = true := by decide +kernel
set_option maxRecDepth 65536 in
theorem w_t10 : ((((((((((words1.drop 24).drop 24).drop 24).drop 24).drop 24).drop 24).drop 24).drop 24).drop 24).take 24).all (fun c => isCode c || c.before args0 about1) = true := by decide +kernel
set_option maxRecDepth 65536 in
theorem w_t11 : (((((((((((words1.drop 24).drop 24).drop 24).drop 24).drop 24).drop 24).drop 24).drop 24).drop 24).drop 24).take 24).all (fun c => isCode c || c.before args0 about1) = true := by decide +kernel
set_option maxRecDepth 65536 in
theorem w_t12 : ((((((((((((words1.drop 24).drop 24).drop 24).drop 24).drop 24).drop 24).drop 24).drop 24).drop 24).drop 24).drop 24).take 24).all (fun c => isCode c || c.before args0 about1) = true := by decide +kernel
set_option maxRecDepth 65536 in
theorem w_t13 : ((((((((((((words1.drop 24).drop 24).drop 24).drop 24).drop 24).drop 24).drop 24).drop 24).drop 24).drop 24).drop 24).drop 24).all (fun c => isCode c || c.before args0 about1) = true := by decide +kernel
theorem w_tables : (allAtoms (Jvm.Cond.code x code maxLocals ret :: tables_1)).before args0 about1 = true := by
  rw [allAtoms_all]
  show words1.all (fun c => c.before args0 about1) = true
  refine all_split ?_ w_codes
  rw [← List.take_append_drop 24 words1, List.all_append, w_t1, ← List.take_append_drop 24 (words1.drop 24), List.all_append, w_t2, ← List.take_append_drop 24 ((words1.drop 24).drop 24), List.all_append, w_t3, ← List.take_append_drop 24 (((words1.drop 24).drop 24).drop 24), List.all_append, w_t4, ← List.take_append_drop 24 ((((words1.drop 24).drop 24).drop 24).drop 24), List.all_append, w_t5, ← List.take_append_drop 24 (((((words1.drop 24).drop 24).drop 24).drop 24).drop 24), List.all_append, w_t6, ← List.take_append_drop 24 ((((((words1.drop 24).drop 24).drop 24).drop 24).drop 24).drop 24), List.all_append, w_t7, ← List.take_append_drop 24 (((((((words1.drop 24).drop 24).drop 24).drop 24).drop 24).drop 24).drop 24), List.all_append, w_t8, ← List.take_append_drop 24 ((((((((words1.drop 24).drop 24).drop 24).drop 24).drop 24).drop 24).drop 24).drop 24), List.all_append, w_t9, ← List.take_append_drop 24 (((((((((words1.drop 24).drop 24).drop 24).drop 24).drop 24).drop 24).drop 24).drop 24).drop 24), List.all_append, w_t10, ← List.take_append_drop 24 ((((((((((words1.drop 24).drop 24).drop 24).drop 24).drop 24).drop 24).drop 24).drop 24).drop 24).drop 24), List.all_append, w_t11, ← List.take_append_drop 24 (((((((((((words1.drop 24).drop 24).drop 24).drop 24).drop 24).drop 24).drop 24).drop 24).drop 24).drop 24).drop 24), List.all_append, w_t12, w_t13]
  rfl
set_option maxRecDepth 65536 in
theorem w_rest : rest_1_c.before args0 about1 = true := by decide +kernel
set_option maxRecDepth 65536 in
theorem w_case : (Jvm.Cond.and given_1 narrow_1).before args0 about1 = true := by decide +kernel
set_option maxRecDepth 65536 in
theorem w_consts : constsHeld consts_1 about1 := Jvm.Lit.constsHeldB_iff.mp (by decide +kernel)
theorem w_applies : (headSpec (Jvm.Cond.code x code maxLocals ret :: tables_1) room_1).applies x e0.platform about1 = true :=
  (Spec.applies_iff w_frames).mpr ⟨w_running, w_runnable, w_alone, w_named, w_hears, w_ripe, w_room, w_tables⟩
theorem atStart : AtStart classFile x code maxLocals ret World_1 tables_1 room_1 Calls_1 rest_1 Pre_1 launch0 p0 e0 about1 theMethod args0 below0 :=
  ⟨lists_1, trivial, launch0.admits_env _ _ _, launch0.least_env, fairChoices_fair.cas, fairChoices_fair.clock, w_frames, w_args, w_heap, w_applies, ⟨w_consts, trivial⟩, w_rest, w_case⟩
end start1
theorem witness_1 : WitnessClaimed_1 := ⟨start1.p0, start1.e0, start1.about1, start1.theMethod, start1.args0, start1.below0, start1.atStart⟩
end Jvm.Pilot.@@N@@
