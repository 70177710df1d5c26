import JvmDerived
import JvmDerived.Pilot.@@N@@Statement
import JvmDerived.Pilot.@@N@@Code
set_option linter.unusedVariables false
set_option linter.unusedSimpArgs false
namespace Jvm.RoadKit
open Sem ClassFile Op Lib Jvm.Stand Jvm.Free Jvm.LawKit
section New
variable {p : Program} {l : Launch} {e : Env} {R : Room} {s : State} {m : MethodId} {args : Array Value} {below : List Frame} {meth : Method} {c : Code} {T : State} {locs : List Loc} {cells slots : Nat}
theorem retI (X : Stand p l e R s m args below meth c T locs cells slots) (hx : p.tables.exec = Jvm.exec) {pc : Nat} {Ls : Array Slot} {z : Int32} {rest : List Value} (hret : meth.sig.returnType = some .int) (hd : decode c.code pc = .ok (.ireturn, 1)) {fs : List Frame}
    (hl : ∀ (f : JFrame) (acts : List Action), f.method = m → f.locked = none → f.entered = [] → (doReturn e (T.setTop f) acts (some (.int z))).1 = T.setFrames fs) : Steps p.tables e below (T.setTop (mkF m pc Ls (.int z :: rest))) (T.setFrames fs) := by
  have hm' : T.vm.method? m = some meth := X.method'
  have hn : narrow .int (.int z) = .int z := rfl
  show Steps p.tables e below (T.setTop { method := m, pc := pc, locals := Ls, stack := _ :: rest, locked := none }) _
  jvm_step X.here [X.here.top, hx, hd, hm', hret, hn]
  first | (intro acts; rw [hl _ acts rfl rfl rfl]) | rw [hl _ _ rfl rfl rfl]
  exact Steps.refl _
end New
end Jvm.RoadKit
/- laws to paste: Road.backV, Road.eqW, Road.codOf (cut by pick.py; bodies as the Statement names them) -/
namespace Jvm.Pilot.@@N@@
namespace StrChars
open Jvm Sem ClassFile Op Lib Jvm.Stand Jvm.Free.XT Jvm.Free.ALB Jvm.Free.JM Jvm.Free
open Jvm.Lib.Cold (StaticIs)
/-- a char array whose places are chars -/
def Ch (a : Addr) (A : Cell) (U : State) : Prop := Arr .char a A U ∧ Typed .char A
theorem Ch.mv {a : Addr} {A : Cell} {U U' : State} (h : Ch a A U) (hal : U.vm.Alike U'.vm) (hh : U'.heap = U.heap) : Ch a A U' := ⟨h.1.mv hal hh, h.2⟩
theorem Ch.keep {a : Addr} {A : Cell} {U U' : State} (h : Ch a A U) (hal : U.vm.Alike U'.vm) (hk : U'.heap[a]? = some A) : Ch a A U' := ⟨h.1.keep hal hk, h.2⟩
/-- what place i of a char[]'s cell holds -/
def cv (A : Cell) (i : Nat) : Int32 := match A.slots[i]? with | some (.int x) => x | _ => 0
theorem Ch.get {a : Addr} {A : Cell} {U : State} (h : Ch a A U) {i : Nat} (hi : i < A.slots.size) : A.slots[i]? = some (.int (cv A i)) := by
  have e := Array.getElem?_eq_getElem hi
  have f := h.2 i _ e
  unfold cv; rw [e]
  generalize A.slots[i] = v at f
  cases v <;> simp [fits] at f ⊢
/-- the byte that i2b leaves of a char -/
def lo8 (x : Int32) : Int32 := x.toInt8.toInt32
theorem fits_lo8 (y : Int32) : fits .byte (.int (lo8 y)) = true := by
  have h1 := y.toInt8.le_toInt
  have h2 := y.toInt8.toInt_lt
  simp only [lo8, fits, Bool.and_eq_true, decide_eq_true_eq, Int32.le_iff_toInt_le, Int8.toInt_toInt32, show (-128 : Int32).toInt = -128 from by decide, show (127 : Int32).toInt = 127 from by decide]
  omega
/-- A' is A but that each place j of lo .. hi - 1 holds f j -/
def Laid (A A' : Cell) (lo hi : Nat) (f : Nat → Value) : Prop := A'.cls = A.cls ∧ A'.vm = A.vm ∧ A'.slots.size = A.slots.size ∧ ∀ i, A'.slots[i]? = if lo ≤ i ∧ i < hi then some (f i) else A.slots[i]?
theorem Laid.zero (A : Cell) (lo : Nat) (f : Nat → Value) : Laid A A lo (lo + 0) f := ⟨rfl, rfl, rfl, fun i => by rw [if_neg (by omega)]⟩
theorem Laid.step {A Ak : Cell} {lo k : Nat} {f : Nat → Value} {v : Value} (h : Laid A Ak lo k f) (hlo : lo ≤ k) (hk : k < Ak.slots.size) (hv : v = f k) : Laid A (Ak.setSlot k v) lo (k + 1) f := by
  refine ⟨h.1, h.2.1, by simpa [Cell.setSlot] using h.2.2.1, fun i => ?_⟩
  by_cases e : k = i
  · subst e; rw [Cell.slots_setSlot_self v hk, if_pos (by omega), hv]
  · rw [Cell.slots_setSlot_ne v e, h.2.2.2 i]
    by_cases q : lo ≤ i ∧ i < k
    · rw [if_pos q, if_pos (by omega)]
    · rw [if_neg q, if_neg (by omega)]
def U16 : String := "java/lang/StringUTF16"
namespace Cmp5
def yN : MethodName := ⟨"java/lang/StringUTF16", "compress", "([CI[BII)I"⟩
abbrev yB : ByteArray := jdk_52_method_21_code
theorem d0 : decode yB 0 = .ok (.iconst 0, 1) := by decide +kernel
theorem d1 : decode yB 1 = .ok (.istore 5, 2) := by decide +kernel
theorem d3 : decode yB 3 = .ok (.iload 5, 2) := by decide +kernel
theorem d5 : decode yB 5 = .ok (.iload 4, 2) := by decide +kernel
theorem d7 : decode yB 7 = .ok (.if_icmp (.ge) 37, 3) := by decide +kernel
theorem d10 : decode yB 10 = .ok (.aload_n 0, 1) := by decide +kernel
theorem d11 : decode yB 11 = .ok (.iload_n 1, 1) := by decide +kernel
theorem d12 : decode yB 12 = .ok (.caload, 1) := by decide +kernel
theorem d13 : decode yB 13 = .ok (.istore 6, 2) := by decide +kernel
theorem d15 : decode yB 15 = .ok (.iload 6, 2) := by decide +kernel
theorem d17 : decode yB 17 = .ok (.sipush 255, 3) := by decide +kernel
theorem d20 : decode yB 20 = .ok (.if_icmp (.le) 6, 3) := by decide +kernel
theorem d26 : decode yB 26 = .ok (.aload_n 2, 1) := by decide +kernel
theorem d27 : decode yB 27 = .ok (.iload_n 3, 1) := by decide +kernel
theorem d28 : decode yB 28 = .ok (.iload 6, 2) := by decide +kernel
theorem d30 : decode yB 30 = .ok (.i2b, 1) := by decide +kernel
theorem d31 : decode yB 31 = .ok (.bastore, 1) := by decide +kernel
theorem d32 : decode yB 32 = .ok (.iinc 1 1, 3) := by decide +kernel
theorem d35 : decode yB 35 = .ok (.iinc 3 1, 3) := by decide +kernel
theorem d38 : decode yB 38 = .ok (.iinc 5 1, 3) := by decide +kernel
theorem d41 : decode yB 41 = .ok (.goto (-38), 3) := by decide +kernel
theorem d44 : decode yB 44 = .ok (.iload 4, 2) := by decide +kernel
theorem d46 : decode yB 46 = .ok (.ireturn, 1) := by decide +kernel
def site : List Cond := []
def tab : Cond := tabOf yN yB 7 (some .int) site
def P (b : Addr) (A : Cell) (d : Addr) (B : Cell) (o q len : Nat) (args : Array Value) (s : State) : Prop := args = #[.ref b, .int (Int32.ofNat o), .ref d, .int (Int32.ofNat q), .int (Int32.ofNat len)] ∧ Ch b A s ∧ Arr .byte d B s ∧ b ≠ d ∧ o + len ≤ A.slots.size ∧ q + len ≤ B.slots.size ∧ ∀ i, i < len → ¬ 255 < cv A (o + i)
def E (b : Addr) (A : Cell) (d : Addr) (B : Cell) (o q len : Nat) (r : Option Value) (s u : State) : Prop := r = some (.int (Int32.ofNat len)) ∧ ∃ B', Put d B' s u ∧ Laid B B' q (q + len) (fun j => Value.int (lo8 (cv A (o + (j - q)))))
/-- no char of the range above 255: len; the places written hold each char's low byte -/
theorem law (l : Launch) (b : Addr) (A : Cell) (d : Addr) (B : Cell) (o q len : Nat) : Law l yN 5 5 0 0 yB 7 (some .int) site (P b A d B o q len) (E b A d B o q len) (copyLocs d q len) 0 0 := by
  refine Law.of_walk (plainFor_of_name (by decide +kernel)) (by decide +kernel) (by decide +kernel) (by decide) (fun _ _ h => by rw [h.1]; rfl) (fun _ U U' hal hh h => ⟨h.1, h.2.1.mv hal hh, h.2.2.1.mv hal hh, h.2.2.2⟩) (fun r U U' V V' h1 hal h2 h => ⟨h.1, h.2.elim fun B' q => ⟨B', q.1.mv h1 h2, q.2⟩⟩) ?_
  intro p e s m args below meth c s₁ X0 hexec hbytes hml hret hlk hnm hown hh0 W hP
  obtain ⟨rfl, hA, hB, hne, l1, l2, hp⟩ := hP
  have c1 : Steps p.tables e below (s₁.setTop (entryFrame m #[.ref b, .int (Int32.ofNat o), .ref d, .int (Int32.ofNat q), .int (Int32.ofNat len)] 7)) (s₁.setTop (mkF m 0 #[.val (.ref b), .val (.int (Int32.ofNat o)), .val (.ref d), .val (.int (Int32.ofNat q)), .val (.int (Int32.ofNat len)), .unset, .unset] [])) := entry rfl
  have hA0 := hA.1.mv X0.warmed.alike hh0
  have hB0 := hB.mv X0.warmed.alike hh0
  have a31 := hA.1.2.2.2
  have c2 : Steps p.tables e below (s₁.setTop (entryFrame m #[.ref b, .int (Int32.ofNat o), .ref d, .int (Int32.ofNat q), .int (Int32.ofNat len)] 7)) (s₁.setTop (mkF m 3 #[.val (.ref b), .val (.int (Int32.ofNat o)), .val (.ref d), .val (.int (Int32.ofNat q)), .val (.int (Int32.ofNat len)), .val (.int 0), .unset] [])) := c1.trans (by
    refine iconstV X0.here hexec rfl 0 (hb hbytes d0) (by decide) ?_
    refine XS.istore X0.here hexec rfl (hb hbytes d1) rfl rfl ?_
    exact Steps.refl _)
  have loop : ∀ (r i : Nat), i + r = len → ∀ (z : Slot), (z = .unset ∨ ∃ w, z = .val w ∧ w.category = 1) → ∀ (Tl : State) (Bk : Cell), Stand p l e { frames := 0, locals := 0, cells := 0, slots := 0 } s m #[.ref b, .int (Int32.ofNat o), .ref d, .int (Int32.ofNat q), .int (Int32.ofNat len)] below meth c Tl ([] ++ copyLocs d q i) 0 0 → Put d Bk s₁ Tl → Laid B Bk q (q + i) (fun j => Value.int (lo8 (cv A (o + (j - q))))) →
      Steps p.tables e below (s₁.setTop (entryFrame m #[.ref b, .int (Int32.ofNat o), .ref d, .int (Int32.ofNat q), .int (Int32.ofNat len)] 7)) (Tl.setTop (mkF m 3 #[.val (.ref b), .val (.int (Int32.ofNat (o + i))), .val (.ref d), .val (.int (Int32.ofNat (q + i))), .val (.int (Int32.ofNat len)), .val (.int (Int32.ofNat i)), z] [])) → ∃ (T' : State) (B' : Cell) (z' : Slot), Stand p l e { frames := 0, locals := 0, cells := 0, slots := 0 } s m #[.ref b, .int (Int32.ofNat o), .ref d, .int (Int32.ofNat q), .int (Int32.ofNat len)] below meth c T' ([] ++ copyLocs d q len) 0 0 ∧ Put d B' s₁ T' ∧ Laid B B' q (q + len) (fun j => Value.int (lo8 (cv A (o + (j - q))))) ∧
      Steps p.tables e below (s₁.setTop (entryFrame m #[.ref b, .int (Int32.ofNat o), .ref d, .int (Int32.ofNat q), .int (Int32.ofNat len)] 7)) (T'.setTop (mkF m 3 #[.val (.ref b), .val (.int (Int32.ofNat (o + len))), .val (.ref d), .val (.int (Int32.ofNat (q + len))), .val (.int (Int32.ofNat len)), .val (.int (Int32.ofNat len)), z'] [])) := by
    intro r
    induction r with
    | zero =>
      intro i hi z hz Tl Bk Xl pl fl cl
      have hil : i = len := by omega
      rw [hil] at Xl fl cl
      exact ⟨Tl, Bk, z, Xl, pl, fl, cl⟩
    | succ r ih =>
      intro i hi z hz Tl Bk Xl pl fl cl
      have all := X0.warmed.alike.symm.trans Xl.warmed.alike
      have hAl := hA0.keep all (pl.other hne hA0.1)
      have hBk := hB0.like all pl.1 fl.1 fl.2.1 fl.2.2.1
      have hlt : q + i < Bk.slots.size := by rw [fl.2.2.1]; omega
      have c3 : Steps p.tables e below (s₁.setTop (entryFrame m #[.ref b, .int (Int32.ofNat o), .ref d, .int (Int32.ofNat q), .int (Int32.ofNat len)] 7)) (Tl.setTop (mkF m 12 #[.val (.ref b), .val (.int (Int32.ofNat (o + i))), .val (.ref d), .val (.int (Int32.ofNat (q + i))), .val (.int (Int32.ofNat len)), .val (.int (Int32.ofNat i)), z] [.int (Int32.ofNat (o + i)), .ref b])) := cl.trans (by
        refine XS.iload Xl.here hexec rfl (hb hbytes d3) rfl ?_
        refine XS.iload Xl.here hexec rfl (hb hbytes d5) rfl ?_
        refine XS.icmpNo Xl.here hexec rfl (hb hbytes d7) rfl (ii_ge_f (lt32 (by omega) (by omega))) ?_
        refine XS.aloadN Xl.here hexec rfl (hb hbytes d10) rfl rfl ?_
        refine XS.iloadN Xl.here hexec rfl (hb hbytes d11) rfl ?_
        exact Steps.refl _)
      have c4 : Steps p.tables e below (s₁.setTop (entryFrame m #[.ref b, .int (Int32.ofNat o), .ref d, .int (Int32.ofNat q), .int (Int32.ofNat len)] 7)) (Tl.setTop (mkF m 13 #[.val (.ref b), .val (.int (Int32.ofNat (o + i))), .val (.ref d), .val (.int (Int32.ofNat (q + i))), .val (.int (Int32.ofNat len)), .val (.int (Int32.ofNat i)), z] [.int (cv A (o + i))])) := c3.trans (by
        refine Xl.aget hexec hAl rfl (hA.get (i := o + i) (by omega)) rfl rfl (hb hbytes d12) ?_
        exact Steps.refl _)
      have c5 : Steps p.tables e below (s₁.setTop (entryFrame m #[.ref b, .int (Int32.ofNat o), .ref d, .int (Int32.ofNat q), .int (Int32.ofNat len)] 7)) (Tl.setTop (mkF m 15 #[.val (.ref b), .val (.int (Int32.ofNat (o + i))), .val (.ref d), .val (.int (Int32.ofNat (q + i))), .val (.int (Int32.ofNat len)), .val (.int (Int32.ofNat i)), .val (.int (cv A (o + i)))] [])) := c4.trans (by
        refine XS.istoreS Xl.here hexec rfl (hb hbytes d13) rfl rfl hz ?_
        exact Steps.refl _)
      have c6 : Steps p.tables e below (s₁.setTop (entryFrame m #[.ref b, .int (Int32.ofNat o), .ref d, .int (Int32.ofNat q), .int (Int32.ofNat len)] 7)) (Tl.setTop (mkF m 31 #[.val (.ref b), .val (.int (Int32.ofNat (o + i))), .val (.ref d), .val (.int (Int32.ofNat (q + i))), .val (.int (Int32.ofNat len)), .val (.int (Int32.ofNat i)), .val (.int (cv A (o + i)))] [.int (lo8 (cv A (o + i))), .int (Int32.ofNat (q + i)), .ref d])) := c5.trans (by
        refine XS.iload Xl.here hexec rfl (hb hbytes d15) rfl ?_
        refine sipushV Xl.here hexec rfl 255 (hb hbytes d17) (by decide) ?_
        refine XS.icmpYes Xl.here hexec rfl (pc0 := 20) rfl (hb hbytes d20) rfl (ii_le_t (hp i (by omega))) (by decide) rfl ?_
        refine XS.aloadN Xl.here hexec rfl (hb hbytes d26) rfl rfl ?_
        refine XS.iloadN Xl.here hexec rfl (hb hbytes d27) rfl ?_
        refine XS.iload Xl.here hexec rfl (hb hbytes d28) rfl ?_
        refine i2b Xl.here hexec rfl (hb hbytes d30) rfl ?_
        exact Steps.refl _)
      obtain ⟨T7, X7, p7, st7⟩ := Xl.aput hexec hBk rfl hlt rfl (fits_lo8 (cv A (o + i))) (g := (mkF m 31 #[.val (.ref b), .val (.int (Int32.ofNat (o + i))), .val (.ref d), .val (.int (Int32.ofNat (q + i))), .val (.int (Int32.ofNat len)), .val (.int (Int32.ofNat i)), .val (.int (cv A (o + i)))] [.int (lo8 (cv A (o + i))), .int (Int32.ofNat (q + i)), .ref d])) rfl (rest := []) rfl (hb hbytes d31)
      have c8 : Steps p.tables e below (s₁.setTop (entryFrame m #[.ref b, .int (Int32.ofNat o), .ref d, .int (Int32.ofNat q), .int (Int32.ofNat len)] 7)) (T7.setTop (mkF m 32 #[.val (.ref b), .val (.int (Int32.ofNat (o + i))), .val (.ref d), .val (.int (Int32.ofNat (q + i))), .val (.int (Int32.ofNat len)), .val (.int (Int32.ofNat i)), .val (.int (cv A (o + i)))] [])) := c6.trans (st7 _ (Steps.refl _))
      have c9 : Steps p.tables e below (s₁.setTop (entryFrame m #[.ref b, .int (Int32.ofNat o), .ref d, .int (Int32.ofNat q), .int (Int32.ofNat len)] 7)) (T7.setTop (mkF m 3 #[.val (.ref b), .val (.int (Int32.ofNat (o + i) + 1)), .val (.ref d), .val (.int (Int32.ofNat (q + i) + 1)), .val (.int (Int32.ofNat len)), .val (.int (Int32.ofNat i + 1)), .val (.int (cv A (o + i)))] [])) := c8.trans (by
        refine iincV X7.here hexec rfl 1 (hb hbytes d32) (by decide) rfl rfl ?_
        refine iincV X7.here hexec rfl 1 (hb hbytes d35) (by decide) rfl rfl ?_
        refine iincV X7.here hexec rfl 1 (hb hbytes d38) (by decide) rfl rfl ?_
        refine XS.goto X7.here hexec rfl (pc0 := 41) rfl (hb hbytes d41) (by decide) rfl ?_
        exact Steps.refl _)
      have c10 : Steps p.tables e below (s₁.setTop (entryFrame m #[.ref b, .int (Int32.ofNat o), .ref d, .int (Int32.ofNat q), .int (Int32.ofNat len)] 7)) (T7.setTop (mkF m 3 #[.val (.ref b), .val (.int (Int32.ofNat (o + (i + 1)))), .val (.ref d), .val (.int (Int32.ofNat (q + (i + 1)))), .val (.int (Int32.ofNat len)), .val (.int (Int32.ofNat (i + 1))), .val (.int (cv A (o + i)))] [])) := by
        have := c9
        rw [succ32, succ32, succ32] at this
        exact this
      exact ih (i + 1) (by omega) _ (Or.inr ⟨_, rfl, rfl⟩) T7 _ (by rw [copyLocs_step, ← List.append_assoc]; exact X7) (pl.trans p7) (fl.step (by omega) hlt (by simp)) c10
  obtain ⟨T9, B9, z9, X9, p9, f9, g9⟩ := loop len 0 (by omega) .unset (Or.inl rfl) s₁ B (by simpa [copyLocs] using X0) ⟨hB0.1, fun _ _ => rfl, rfl⟩ (Laid.zero _ _ _) c2
  have c11 : Steps p.tables e below (s₁.setTop (entryFrame m #[.ref b, .int (Int32.ofNat o), .ref d, .int (Int32.ofNat q), .int (Int32.ofNat len)] 7)) (T9.setTop (mkF m 46 #[.val (.ref b), .val (.int (Int32.ofNat (o + len))), .val (.ref d), .val (.int (Int32.ofNat (q + len))), .val (.int (Int32.ofNat len)), .val (.int (Int32.ofNat len)), z9] [.int (Int32.ofNat len)])) := g9.trans (by
    refine XS.iload X9.here hexec rfl (hb hbytes d3) rfl ?_
    refine XS.iload X9.here hexec rfl (hb hbytes d5) rfl ?_
    refine XS.icmpYes X9.here hexec rfl (pc0 := 7) rfl (hb hbytes d7) rfl (ii_ge_t (nlt32 (by omega) (Nat.le_refl _))) (by decide) rfl ?_
    refine XS.iload X9.here hexec rfl (hb hbytes d44) rfl ?_
    exact Steps.refl _)
  exact ⟨T9, some (.int (Int32.ofNat len)), _, _, _, X9, by simp, rfl, rfl, (fun h => by cases h), ⟨rfl, B9, p9.from hh0, f9⟩, fun fs hl => c11.trans (X9.ireturnOut hexec hret rfl (Or.inl rfl) (hb hbytes d46) hl)⟩
end Cmp5
namespace Cmp3
def yN : MethodName := ⟨"java/lang/StringUTF16", "compress", "([CII)[B"⟩
abbrev yB : ByteArray := jdk_52_method_16_code
theorem d0 : decode yB 0 = .ok (.iload_n 2, 1) := by decide +kernel
theorem d1 : decode yB 1 = .ok (.newarray .byte, 2) := by decide +kernel
theorem d3 : decode yB 3 = .ok (.astore_n 3, 1) := by decide +kernel
theorem d4 : decode yB 4 = .ok (.aload_n 0, 1) := by decide +kernel
theorem d5 : decode yB 5 = .ok (.iload_n 1, 1) := by decide +kernel
theorem d6 : decode yB 6 = .ok (.aload_n 3, 1) := by decide +kernel
theorem d7 : decode yB 7 = .ok (.iconst 0, 1) := by decide +kernel
theorem d8 : decode yB 8 = .ok (.iload_n 2, 1) := by decide +kernel
theorem d9 : decode yB 9 = .ok (.invokestatic 115, 3) := by decide +kernel
theorem d12 : decode yB 12 = .ok (.istore 4, 2) := by decide +kernel
theorem d14 : decode yB 14 = .ok (.iload 4, 2) := by decide +kernel
theorem d16 : decode yB 16 = .ok (.iload_n 2, 1) := by decide +kernel
theorem d17 : decode yB 17 = .ok (.if_icmp (.eq) 40, 3) := by decide +kernel
theorem d57 : decode yB 57 = .ok (.aload_n 3, 1) := by decide +kernel
theorem d58 : decode yB 58 = .ok (.areturn, 1) := by decide +kernel
def site : List Cond := [.arrayClass .byte, Cmp5.tab] ++ staticW U16 115 Cmp5.yN
def tab : Cond := tabOf yN yB 6 (some (.array .byte)) site
def P (b : Addr) (A : Cell) (o len : Nat) (args : Array Value) (s : State) : Prop := args = #[.ref b, .int (Int32.ofNat o), .int (Int32.ofNat len)] ∧ Ch b A s ∧ o + len ≤ A.slots.size ∧ len ≤ 536870912 ∧ ∀ i, i < len → ¬ 255 < cv A (o + i)
def E (b : Addr) (A : Cell) (o len : Nat) (r : Option Value) (s u : State) : Prop := NewArr .byte "[B" len (fun j => .int (lo8 (cv A (o + j)))) r s u ∧ u.heap.size = s.heap.size + 1
/-- no char of the range above 255: a new byte[] of their low bytes -/
theorem law (l : Launch) (b : Addr) (A : Cell) (o len : Nat) : Law l yN 3 3 1 18 yB 6 (some (.array .byte)) site (P b A o len) (E b A o len) [] 1 len := by
  refine Law.of_walk (plainFor_of_name (by decide +kernel)) (by decide +kernel) (by decide +kernel) (by decide) (fun _ _ h => by rw [h.1]; rfl) (fun _ U U' hal hh h => ⟨h.1, h.2.1.mv hal hh, h.2.2⟩) (fun r U U' V V' h1 hal h2 h => ⟨NewArr.mv r U U' V V' h1 hal h2 h.1, by rw [h1, h2]; exact h.2⟩) ?_
  intro p e s m args below meth c s₁ X0 hexec hbytes hml hret hlk hnm hown hh0 W hP
  obtain ⟨rfl, hA, l1, l2, hp⟩ := hP
  have a31 := hA.1.2.2.2
  have c1 : Steps p.tables e below (s₁.setTop (entryFrame m #[.ref b, .int (Int32.ofNat o), .int (Int32.ofNat len)] 6)) (s₁.setTop (mkF m 0 #[.val (.ref b), .val (.int (Int32.ofNat o)), .val (.int (Int32.ofNat len)), .unset, .unset, .unset] [])) := entry rfl
  have c2 : Steps p.tables e below (s₁.setTop (entryFrame m #[.ref b, .int (Int32.ofNat o), .int (Int32.ofNat len)] 6)) (s₁.setTop (mkF m 1 #[.val (.ref b), .val (.int (Int32.ofNat o)), .val (.int (Int32.ofNat len)), .unset, .unset, .unset] [.int (Int32.ofNat len)])) := c1.trans (by
    refine XS.iloadN X0.here hexec rfl (hb hbytes d0) rfl ?_
    exact Steps.refl _)
  obtain ⟨T3, B3, X3, ba3, bs3, bv3, bh3, bf3, st3⟩ := X0.anew hexec (atype := .byte) (wk W (.arrayClass .byte)) rfl (by show len * 1 ≤ _; omega) (by omega) (g := (mkF m 1 #[.val (.ref b), .val (.int (Int32.ofNat o)), .val (.int (Int32.ofNat len)), .unset, .unset, .unset] [.int (Int32.ofNat len)])) rfl (hb hbytes d1) (rest := []) rfl (Nat.le_refl _) (by show 0 + len ≤ len; omega)
  rw [hh0] at ba3 st3
  have kp3 : XT.Kept s T3 := (XT.Kept.of_eq hh0).push bh3
  have hA3 := hA.keep X3.warmed.alike (kp3 _ _ hA.1.1)
  have hne : b ≠ s.heap.size := hA.1.ne
  have c4 : Steps p.tables e below (s₁.setTop (entryFrame m #[.ref b, .int (Int32.ofNat o), .int (Int32.ofNat len)] 6)) (T3.setTop (mkF m 3 #[.val (.ref b), .val (.int (Int32.ofNat o)), .val (.int (Int32.ofNat len)), .unset, .unset, .unset] [.ref s.heap.size])) := c2.trans (st3 _ (Steps.refl _))
  have c5 : Steps p.tables e below (s₁.setTop (entryFrame m #[.ref b, .int (Int32.ofNat o), .int (Int32.ofNat len)] 6)) (T3.setTop (mkF m 9 #[.val (.ref b), .val (.int (Int32.ofNat o)), .val (.int (Int32.ofNat len)), .val (.ref s.heap.size), .unset, .unset] [.int (Int32.ofNat len), .int 0, .ref s.heap.size, .int (Int32.ofNat o), .ref b])) := c4.trans (by
    refine XS.astoreN X3.here hexec rfl (hb hbytes d3) rfl rfl rfl ?_
    refine XS.aloadN X3.here hexec rfl (hb hbytes d4) rfl rfl ?_
    refine XS.iloadN X3.here hexec rfl (hb hbytes d5) rfl ?_
    refine XS.aloadN X3.here hexec rfl (hb hbytes d6) rfl rfl ?_
    refine iconstV X3.here hexec rfl 0 (hb hbytes d7) (by decide) ?_
    refine XS.iloadN X3.here hexec rfl (hb hbytes d8) rfl ?_
    exact Steps.refl _)
  obtain ⟨v6, T6, X6, E6, g6⟩ := X3.callS hexec (Cmp5.law l b A s.heap.size B3 o 0 len) hown (wks W (staticW U16 115 Cmp5.yN)) (wk W Cmp5.tab) (W := 0) (Nat.le_of_ble_eq_true rfl) (Nat.le_of_ble_eq_true rfl) (Nat.le_refl _) (by show 0 + len + 0 ≤ len; omega) (g := (mkF m 9 #[.val (.ref b), .val (.int (Int32.ofNat o)), .val (.int (Int32.ofNat len)), .val (.ref s.heap.size), .unset, .unset] [.int (Int32.ofNat len), .int (Int32.ofNat 0), .ref s.heap.size, .int (Int32.ofNat o), .ref b])) rfl (by rw [hml]; rfl) c5 (argsL := [.ref b, .int (Int32.ofNat o), .ref s.heap.size, .int (Int32.ofNat 0), .int (Int32.ofNat len)]) (rest := []) rfl rfl (by show 2 * 0 + 0 ≤ _; decide) (hb hbytes d9) (⟨rfl, hA3, ba3, hne, l1, by rw [bs3]; simp, hp⟩)
  obtain ⟨rfl, B6, p6, f6⟩ := E6
  have c7 : Steps p.tables e below (s₁.setTop (entryFrame m #[.ref b, .int (Int32.ofNat o), .int (Int32.ofNat len)] 6)) (T6.setTop (mkF m 12 #[.val (.ref b), .val (.int (Int32.ofNat o)), .val (.int (Int32.ofNat len)), .val (.ref s.heap.size), .unset, .unset] [.int (Int32.ofNat len)])) := g6
  have c8 : Steps p.tables e below (s₁.setTop (entryFrame m #[.ref b, .int (Int32.ofNat o), .int (Int32.ofNat len)] 6)) (T6.setTop (mkF m 58 #[.val (.ref b), .val (.int (Int32.ofNat o)), .val (.int (Int32.ofNat len)), .val (.ref s.heap.size), .val (.int (Int32.ofNat len)), .unset] [.ref s.heap.size])) := c7.trans (by
    refine XS.istore X6.here hexec rfl (hb hbytes d12) rfl rfl ?_
    refine XS.iload X6.here hexec rfl (hb hbytes d14) rfl ?_
    refine XS.iloadN X6.here hexec rfl (hb hbytes d16) rfl ?_
    refine XS.icmpYes X6.here hexec rfl (pc0 := 17) rfl (hb hbytes d17) rfl (ii_eq_t rfl) (by decide) rfl ?_
    refine XS.aloadN X6.here hexec rfl (hb hbytes d57) rfl rfl ?_
    exact Steps.refl _)
  have X8 := X6.wide (L' := []) (cells' := 1) (slots' := len) (fun x hx hlt => by
    simp only [List.nil_append, copyLocs, List.mem_map, List.mem_range] at hx
    obtain ⟨i, -, rfl⟩ := hx
    exact absurd hlt (Nat.lt_irrefl _)) (Nat.le_refl _) (by omega)
  exact ⟨T6, some (.ref s.heap.size), _, _, _, X8, rfl, rfl, rfl, (fun h => by cases h), ⟨⟨rfl, B6, ba3.like (X3.warmed.alike.symm.trans X6.warmed.alike) p6.1 f6.1 f6.2.1 f6.2.2.1, f6.2.1.trans bv3, by rw [X6.warmed.alike.findClass, f6.1]; exact bf3, by rw [f6.2.2.1, bs3]; simp, fun j hj => by rw [f6.2.2.2 j, if_pos (by omega)]; rfl, kp3.put p6 (Nat.le_refl _)⟩, by rw [p6.2.2, bh3, hh0]; simp⟩, fun fs hl => c8.trans (X8.areturnOut hexec rfl hret rfl (hb hbytes d58) hl)⟩
end Cmp3
namespace CodL
def yN : MethodName := ⟨"java/lang/StringUTF16", "coderFromArrayLen", "([BI)B"⟩
abbrev yB : ByteArray := jdk_52_method_15_code
theorem d0 : decode yB 0 = .ok (.iload_n 1, 1) := by decide +kernel
theorem d1 : decode yB 1 = .ok (.aload_n 0, 1) := by decide +kernel
theorem d2 : decode yB 2 = .ok (.arraylength, 1) := by decide +kernel
theorem d3 : decode yB 3 = .ok (.isub, 1) := by decide +kernel
theorem d4 : decode yB 4 = .ok (.bipush 31, 2) := by decide +kernel
theorem d6 : decode yB 6 = .ok (.iushr, 1) := by decide +kernel
theorem d7 : decode yB 7 = .ok (.i2b, 1) := by decide +kernel
theorem d8 : decode yB 8 = .ok (.ireturn, 1) := by decide +kernel
def site : List Cond := []
def tab : Cond := tabOf yN yB 2 (some .byte) site
def P (d : Addr) (B : Cell) (args : Array Value) (s : State) : Prop := args = #[.ref d, .int (Int32.ofNat B.slots.size)] ∧ Arr .byte d B s
def E (r : Option Value) (s u : State) : Prop := XT.PureE (some (.int 0)) r s u
/-- an array as long as the number of chars: LATIN1 -/
theorem law (l : Launch) (d : Addr) (B : Cell) : Law l yN 2 2 0 0 yB 2 (some .byte) site (P d B) E [] 0 0 := by
  refine Law.of_walk (plainFor_of_name (by decide +kernel)) (by decide +kernel) (by decide +kernel) (by decide) (fun _ _ h => by rw [h.1]; rfl) (fun _ U U' hal hh h => ⟨h.1, h.2.mv hal hh⟩) (fun r U U' V V' h1 hal h2 h => XT.PureE.mv r U U' V V' h1 hal h2 h) ?_
  intro p e s m args below meth c s₁ X0 hexec hbytes hml hret hlk hnm hown hh0 W hP
  obtain ⟨rfl, hB⟩ := hP
  have hB0 := hB.mv X0.warmed.alike hh0
  have c1 : Steps p.tables e below (s₁.setTop (entryFrame m #[.ref d, .int (Int32.ofNat B.slots.size)] 2)) (s₁.setTop (mkF m 0 #[.val (.ref d), .val (.int (Int32.ofNat B.slots.size))] [])) := entry rfl
  have c2 : Steps p.tables e below (s₁.setTop (entryFrame m #[.ref d, .int (Int32.ofNat B.slots.size)] 2)) (s₁.setTop (mkF m 2 #[.val (.ref d), .val (.int (Int32.ofNat B.slots.size))] [.ref d, .int (Int32.ofNat B.slots.size)])) := c1.trans (by
    refine XS.iloadN X0.here hexec rfl (hb hbytes d0) rfl ?_
    refine XS.aloadN X0.here hexec rfl (hb hbytes d1) rfl rfl ?_
    exact Steps.refl _)
  have c3 : Steps p.tables e below (s₁.setTop (entryFrame m #[.ref d, .int (Int32.ofNat B.slots.size)] 2)) (s₁.setTop (mkF m 8 #[.val (.ref d), .val (.int (Int32.ofNat B.slots.size))] [.int (lo8 (ushr (Int32.ofNat B.slots.size - Int32.ofNat B.slots.size) 31))])) := c2.trans (by
    refine X0.alen hexec hB0 rfl rfl (hb hbytes d2) ?_
    refine XS.isub X0.here hexec rfl (hb hbytes d3) rfl ?_
    refine bipushV X0.here hexec rfl 31 (hb hbytes d4) (by decide) ?_
    refine iushr X0.here hexec rfl (hb hbytes d6) rfl ?_
    refine i2b X0.here hexec rfl (hb hbytes d7) rfl ?_
    exact Steps.refl _)
  have e0 : lo8 (ushr (Int32.ofNat B.slots.size - Int32.ofNat B.slots.size) 31) = 0 := by rw [Int32.sub_self]; decide
  rw [e0] at c3
  exact ⟨s₁, some (.int 0), _, _, _, X0, rfl, rfl, rfl, (fun h => by cases h), ⟨rfl, hh0⟩, fun fs hl => c3.trans (X0.ireturnOut hexec hret rfl (Or.inr (Or.inr (Or.inl rfl))) (hb hbytes d8) hl)⟩
end CodL
/-- the String at a is Latin-1 over a new byte[] (the heap's one new cell): the low bytes of the len chars of A from o on; every cell but a is kept -/
def Got (a : Addr) (D : Cell) (fV fC : Field) (A : Cell) (o len : Nat) (r : Option Value) (s u : State) : Prop := r = none ∧ ∃ D' V : Cell, Blank "java/lang/String" a D' u ∧ Same D D' [fV.slot, fC.slot] ∧ D'.slots[fV.slot]? = some (.ref s.heap.size) ∧ D'.slots[fC.slot]? = some (.int 0) ∧ Arr .byte s.heap.size V u ∧ V.vm = .none ∧ u.vm.findClass "[B" = some V.cls ∧ V.slots.size = len ∧ (∀ j, j < len → V.slots[j]? = some (.int (lo8 (cv A (o + j))))) ∧ (∀ (y : Addr) (c : Cell), y ≠ a → s.heap[y]? = some c → u.heap[y]? = some c) ∧ u.heap.size = s.heap.size + 1
theorem Got.mv {a : Addr} {D A : Cell} {fV fC : Field} {o len : Nat} : ∀ r (U U' V V' : State), U'.heap = U.heap → V.vm.Alike V'.vm → V'.heap = V.heap → Got a D fV fC A o len r U V → Got a D fV fC A o len r U' V' :=
  fun r U U' V V' h1 hal h2 ⟨e0, D', X, a1, a2, a3, a4, a5, a6, a7, a8, a9, a10, a11⟩ => ⟨e0, D', X, a1.mv hal h2, a2, by rw [h1]; exact a3, a4, by rw [h1]; exact a5.mv hal h2, a6, by rw [hal.findClass]; exact a7, a8, a9, by rw [h1, h2]; exact a10, by rw [h1, h2]; exact a11⟩
namespace New4
def yN : MethodName := ⟨"java/lang/String", "<init>", "([CIILjava/lang/Void;)V"⟩
abbrev yB : ByteArray := jdk_42_method_149_code
theorem d0 : decode yB 0 = .ok (.aload_n 0, 1) := by decide +kernel
theorem d1 : decode yB 1 = .ok (.invokespecial 1, 3) := by decide +kernel
theorem d4 : decode yB 4 = .ok (.iload_n 3, 1) := by decide +kernel
theorem d5 : decode yB 5 = .ok (.ifCond (.ne) 22, 3) := by decide +kernel
theorem d27 : decode yB 27 = .ok (.getstatic 38, 3) := by decide +kernel
theorem d30 : decode yB 30 = .ok (.ifCond (.eq) 28, 3) := by decide +kernel
theorem d33 : decode yB 33 = .ok (.aload_n 1, 1) := by decide +kernel
theorem d34 : decode yB 34 = .ok (.iload_n 2, 1) := by decide +kernel
theorem d35 : decode yB 35 = .ok (.iload_n 3, 1) := by decide +kernel
theorem d36 : decode yB 36 = .ok (.invokestatic 177, 3) := by decide +kernel
theorem d39 : decode yB 39 = .ok (.astore 5, 2) := by decide +kernel
theorem d41 : decode yB 41 = .ok (.aload_n 0, 1) := by decide +kernel
theorem d42 : decode yB 42 = .ok (.aload 5, 2) := by decide +kernel
theorem d44 : decode yB 44 = .ok (.iload_n 3, 1) := by decide +kernel
theorem d45 : decode yB 45 = .ok (.invokestatic 47, 3) := by decide +kernel
theorem d48 : decode yB 48 = .ok (.putfield 15, 3) := by decide +kernel
theorem d51 : decode yB 51 = .ok (.aload_n 0, 1) := by decide +kernel
theorem d52 : decode yB 52 = .ok (.aload 5, 2) := by decide +kernel
theorem d54 : decode yB 54 = .ok (.putfield 9, 3) := by decide +kernel
theorem d57 : decode yB 57 = .ok (.return_, 1) := by decide +kernel
def site : List Cond := [.fieldLink "java/lang/String" 38 "java/lang/String" "COMPACT_STRINGS" "Z", Cmp3.tab, CodL.tab, .laysFinal "java/lang/String" "java/lang/String" "value" "[B", .fieldLink "java/lang/String" 9 "java/lang/String" "value" "[B", .laysFinal "java/lang/String" "java/lang/String" "coder" "B", .fieldLink "java/lang/String" 15 "java/lang/String" "coder" "B"] ++ objW "java/lang/String" 1 ++ staticW "java/lang/String" 177 Cmp3.yN ++ staticW "java/lang/String" 47 CodL.yN
def tab : Cond := tabOf yN yB 6 none site
def P (a : Addr) (D : Cell) (fV fC : Field) (b : Addr) (A : Cell) (z : Int32) (o len : Nat) (args : Array Value) (s : State) : Prop := args = #[.ref a, .ref b, .int (Int32.ofNat o), .int (Int32.ofNat len), .null] ∧ Blank "java/lang/String" a D s ∧ Found "java/lang/String" "value" "[B" fV s ∧ Found "java/lang/String" "coder" "B" fC s ∧ Ch b A s ∧ StaticIs s "java/lang/String" "COMPACT_STRINGS" "Z" (.int z) ∧ ¬ z = 0 ∧ 0 < len ∧ o + len ≤ A.slots.size ∧ len ≤ 536870912 ∧ ∀ i, i < len → ¬ 255 < cv A (o + i)
def E (a : Addr) (D : Cell) (fV fC : Field) (A : Cell) (o len : Nat) (r : Option Value) (s u : State) : Prop := Got a D fV fC A o len r s u
/-- len > 0, no char of the range above 255: a Latin-1 String of their low bytes -/
theorem law (l : Launch) (a : Addr) (D : Cell) (fV fC : Field) (b : Addr) (A : Cell) (z : Int32) (o len : Nat) : Law l yN 5 4 2 35 yB 6 none site (P a D fV fC b A z o len) (E a D fV fC A o len) [⟨a, fC.slot⟩, ⟨a, fV.slot⟩] 1 len := by
  refine Law.of_walk (plainFor_of_name (by decide +kernel)) (by decide +kernel) (by decide +kernel) (by decide) (fun _ _ h => by rw [h.1]; rfl) (fun _ U U' hal hh h => ⟨h.1, h.2.1.mv hal hh, h.2.2.1.al hal, h.2.2.2.1.al hal, h.2.2.2.2.1.mv hal hh, h.2.2.2.2.2.1.there hal hh, h.2.2.2.2.2.2⟩) (fun r U U' V V' h1 hal h2 h => Got.mv r U U' V V' h1 hal h2 h) ?_
  intro p e s m args below meth c s₁ X0 hexec hbytes hml hret hlk hnm hown hh0 W hP
  obtain ⟨rfl, hB, f1, f2, hA, s1, hz, l0, l1, l2, hp⟩ := hP
  have a31 := hA.1.2.2.2
  have c1 : Steps p.tables e below (s₁.setTop (entryFrame m #[.ref a, .ref b, .int (Int32.ofNat o), .int (Int32.ofNat len), .null] 6)) (s₁.setTop (mkF m 0 #[.val (.ref a), .val (.ref b), .val (.int (Int32.ofNat o)), .val (.int (Int32.ofNat len)), .val .null, .unset] [])) := entry rfl
  have c2 : Steps p.tables e below (s₁.setTop (entryFrame m #[.ref a, .ref b, .int (Int32.ofNat o), .int (Int32.ofNat len), .null] 6)) (s₁.setTop (mkF m 1 #[.val (.ref a), .val (.ref b), .val (.int (Int32.ofNat o)), .val (.int (Int32.ofNat len)), .val .null, .unset] [.ref a])) := c1.trans (by
    refine XS.aloadN X0.here hexec rfl (hb hbytes d0) rfl rfl ?_
    exact Steps.refl _)
  obtain ⟨T3, X3, q3, st3⟩ := X0.oinit hexec hown (wks W (objW "java/lang/String" 1)) (g := (mkF m 1 #[.val (.ref a), .val (.ref b), .val (.int (Int32.ofNat o)), .val (.int (Int32.ofNat len)), .val .null, .unset] [.ref a])) rfl (by rw [hml]; rfl) (rest := []) rfl (hb hbytes d1) (W := 0) (by show 2 * 0 + 0 ≤ _; decide) (Nat.le_of_ble_eq_true rfl) (Nat.le_of_ble_eq_true rfl)
  have hh3 := q3.trans hh0
  have c4 : Steps p.tables e below (s₁.setTop (entryFrame m #[.ref a, .ref b, .int (Int32.ofNat o), .int (Int32.ofNat len), .null] 6)) (T3.setTop (mkF m 27 #[.val (.ref a), .val (.ref b), .val (.int (Int32.ofNat o)), .val (.int (Int32.ofNat len)), .val .null, .unset] [])) := (c2.trans (st3 _ (Steps.refl _))).trans (by
    refine XS.iloadN X3.here hexec rfl (hb hbytes d4) rfl ?_
    refine XS.ifYes X3.here hexec rfl (pc0 := 5) rfl (hb hbytes d5) rfl (i0_ne_t (nz32 (by omega) l0)) (by decide) rfl ?_
    exact Steps.refl _)
  obtain ⟨T5, X5, q5, st5⟩ := X3.sget hexec hown (wk W (.fieldLink "java/lang/String" 38 "java/lang/String" "COMPACT_STRINGS" "Z")) s1 (fun _ _ h => by rw [hh3]; exact h) (g := (mkF m 27 #[.val (.ref a), .val (.ref b), .val (.int (Int32.ofNat o)), .val (.int (Int32.ofNat len)), .val .null, .unset] [])) rfl (hb hbytes d27)
  have hh5 := q5.trans hh3
  have c6 : Steps p.tables e below (s₁.setTop (entryFrame m #[.ref a, .ref b, .int (Int32.ofNat o), .int (Int32.ofNat len), .null] 6)) (T5.setTop (mkF m 30 #[.val (.ref a), .val (.ref b), .val (.int (Int32.ofNat o)), .val (.int (Int32.ofNat len)), .val .null, .unset] [.int z])) := c4.trans (st5 _ (Steps.refl _))
  have c7 : Steps p.tables e below (s₁.setTop (entryFrame m #[.ref a, .ref b, .int (Int32.ofNat o), .int (Int32.ofNat len), .null] 6)) (T5.setTop (mkF m 36 #[.val (.ref a), .val (.ref b), .val (.int (Int32.ofNat o)), .val (.int (Int32.ofNat len)), .val .null, .unset] [.int (Int32.ofNat len), .int (Int32.ofNat o), .ref b])) := c6.trans (by
    refine XS.ifNo X5.here hexec rfl (hb hbytes d30) rfl (i0_eq_f hz) ?_
    refine XS.aloadN X5.here hexec rfl (hb hbytes d33) rfl rfl ?_
    refine XS.iloadN X5.here hexec rfl (hb hbytes d34) rfl ?_
    refine XS.iloadN X5.here hexec rfl (hb hbytes d35) rfl ?_
    exact Steps.refl _)
  obtain ⟨v8, T8, X8, E8, g8⟩ := X5.callS hexec (Cmp3.law l b A o len) hown (wks W (staticW "java/lang/String" 177 Cmp3.yN)) (wk W Cmp3.tab) (W := 0) (Nat.le_of_ble_eq_true rfl) (Nat.le_of_ble_eq_true rfl) (Nat.le_refl _) (by show 0 + len ≤ len; omega) (g := (mkF m 36 #[.val (.ref a), .val (.ref b), .val (.int (Int32.ofNat o)), .val (.int (Int32.ofNat len)), .val .null, .unset] [.int (Int32.ofNat len), .int (Int32.ofNat o), .ref b])) rfl (by rw [hml]; rfl) c7 (argsL := [.ref b, .int (Int32.ofNat o), .int (Int32.ofNat len)]) (rest := []) rfl rfl (by show 2 * 0 + 0 ≤ _; decide) (hb hbytes d36) (⟨rfl, hA.mv X5.warmed.alike hh5, l1, l2, hp⟩)
  obtain ⟨e8, z8⟩ := E8
  obtain ⟨rfl, N, n1, n2, n3, n4, n5, n6⟩ := NewArr.mv _ T5 s _ _ hh5.symm (Vm.Alike.refl _) rfl e8
  rw [hh5] at z8
  have hB1 := hB.keep X8.warmed.alike (n6 _ _ hB.1)
  have hne : s.heap.size ≠ a := (Nat.ne_of_lt (Array.getElem?_eq_some_iff.mp hB.1).1).symm
  have c9 : Steps p.tables e below (s₁.setTop (entryFrame m #[.ref a, .ref b, .int (Int32.ofNat o), .int (Int32.ofNat len), .null] 6)) (T8.setTop (mkF m 39 #[.val (.ref a), .val (.ref b), .val (.int (Int32.ofNat o)), .val (.int (Int32.ofNat len)), .val .null, .unset] [.ref s.heap.size])) := g8
  have c10 : Steps p.tables e below (s₁.setTop (entryFrame m #[.ref a, .ref b, .int (Int32.ofNat o), .int (Int32.ofNat len), .null] 6)) (T8.setTop (mkF m 45 #[.val (.ref a), .val (.ref b), .val (.int (Int32.ofNat o)), .val (.int (Int32.ofNat len)), .val .null, .val (.ref s.heap.size)] [.int (Int32.ofNat N.slots.size), .ref s.heap.size, .ref a])) := by
    have hc : Steps p.tables e below (s₁.setTop (entryFrame m #[.ref a, .ref b, .int (Int32.ofNat o), .int (Int32.ofNat len), .null] 6)) (T8.setTop (mkF m 45 #[.val (.ref a), .val (.ref b), .val (.int (Int32.ofNat o)), .val (.int (Int32.ofNat len)), .val .null, .val (.ref s.heap.size)] [.int (Int32.ofNat len), .ref s.heap.size, .ref a])) := c9.trans (by
      refine XS.astore X8.here hexec rfl (hb hbytes d39) rfl rfl rfl ?_
      refine XS.aloadN X8.here hexec rfl (hb hbytes d41) rfl rfl ?_
      refine XS.aload X8.here hexec rfl (hb hbytes d42) rfl rfl ?_
      refine XS.iloadN X8.here hexec rfl (hb hbytes d44) rfl ?_
      exact Steps.refl _)
    rw [n4]; exact hc
  obtain ⟨v11, T11, X11, E11, g11⟩ := X8.callS hexec (CodL.law l s.heap.size N) hown (wks W (staticW "java/lang/String" 47 CodL.yN)) (wk W CodL.tab) (W := 1) (Nat.le_of_ble_eq_true rfl) (Nat.le_of_ble_eq_true rfl) (Nat.le_refl _) (by show 0 + len + 0 ≤ len; omega) (g := (mkF m 45 #[.val (.ref a), .val (.ref b), .val (.int (Int32.ofNat o)), .val (.int (Int32.ofNat len)), .val .null, .val (.ref s.heap.size)] [.int (Int32.ofNat N.slots.size), .ref s.heap.size, .ref a])) rfl (by rw [hml]; rfl) c10 (argsL := [.ref s.heap.size, .int (Int32.ofNat N.slots.size)]) (rest := [.ref a]) rfl rfl (by show 2 * 0 + (1 + 0) ≤ _; decide) (hb hbytes d45) (⟨rfl, n1⟩)
  obtain ⟨rfl, q11⟩ := E11
  have hB11 := hB1.mv (X8.warmed.alike.symm.trans X11.warmed.alike) q11
  have c12 : Steps p.tables e below (s₁.setTop (entryFrame m #[.ref a, .ref b, .int (Int32.ofNat o), .int (Int32.ofNat len), .null] 6)) (T11.setTop (mkF m 48 #[.val (.ref a), .val (.ref b), .val (.int (Int32.ofNat o)), .val (.int (Int32.ofNat len)), .val .null, .val (.ref s.heap.size)] [.int 0, .ref a])) := g11
  obtain ⟨T13, X13, p13, bl13, sl13, st13⟩ := X11.finit hexec hown (wk W (.fieldLink "java/lang/String" 15 "java/lang/String" "coder" "B")) (Or.inr ⟨_, (wk W (.laysFinal "java/lang/String" "java/lang/String" "coder" "B"))⟩) (Or.inl ⟨rfl, hnm⟩) f2 (Or.inl rfl) hB11 (t := .byte) (by decide +kernel) rfl (g := (mkF m 48 #[.val (.ref a), .val (.ref b), .val (.int (Int32.ofNat o)), .val (.int (Int32.ofNat len)), .val .null, .val (.ref s.heap.size)] [.int 0, .ref a])) rfl (rest := []) rfl (hb hbytes d48)
  have c14 : Steps p.tables e below (s₁.setTop (entryFrame m #[.ref a, .ref b, .int (Int32.ofNat o), .int (Int32.ofNat len), .null] 6)) (T13.setTop (mkF m 54 #[.val (.ref a), .val (.ref b), .val (.int (Int32.ofNat o)), .val (.int (Int32.ofNat len)), .val .null, .val (.ref s.heap.size)] [.ref s.heap.size, .ref a])) := (c12.trans (st13 _ (Steps.refl _))).trans (by
    refine XS.aloadN X13.here hexec rfl (hb hbytes d51) rfl rfl ?_
    refine XS.aload X13.here hexec rfl (hb hbytes d52) rfl rfl ?_
    exact Steps.refl _)
  obtain ⟨T15, X15, p15, bl15, sl15, st15⟩ := X13.finit hexec hown (wk W (.fieldLink "java/lang/String" 9 "java/lang/String" "value" "[B")) (Or.inr ⟨_, (wk W (.laysFinal "java/lang/String" "java/lang/String" "value" "[B"))⟩) (Or.inl ⟨rfl, hnm⟩) f1 (Or.inl rfl) bl13 (t := (.array .byte)) (by decide +kernel) rfl (g := (mkF m 54 #[.val (.ref a), .val (.ref b), .val (.int (Int32.ofNat o)), .val (.int (Int32.ofNat len)), .val .null, .val (.ref s.heap.size)] [.ref s.heap.size, .ref a])) rfl (rest := []) rfl (hb hbytes d54)
  have c16 : Steps p.tables e below (s₁.setTop (entryFrame m #[.ref a, .ref b, .int (Int32.ofNat o), .int (Int32.ofNat len), .null] 6)) (T15.setTop (mkF m 57 #[.val (.ref a), .val (.ref b), .val (.int (Int32.ofNat o)), .val (.int (Int32.ofNat len)), .val .null, .val (.ref s.heap.size)] [])) := c14.trans (st15 _ (Steps.refl _))
  have ap := apart (Or.inr ⟨_, (wk W (.laysFinal "java/lang/String" "java/lang/String" "value" "[B"))⟩) (Or.inr ⟨_, (wk W (.laysFinal "java/lang/String" "java/lang/String" "coder" "B"))⟩) f1 f2 (t₁ := .array .byte) (t₂ := .byte) (by decide +kernel) (by decide +kernel) (by decide)
  have al := X8.warmed.alike.symm.trans X15.warmed.alike
  have n7 : T11.heap[s.heap.size]? = some N := by rw [q11]; exact n1.1
  exact ⟨T15, none, _, _, _, X15, by simp, rfl, by omega, (fun _ => rfl), ⟨rfl, _, N, bl15, ((Same.refl D _).set _ (by simp)).set _ (by simp), sl15, (Cell.slots_setSlot_ne _ ap).trans sl13, n1.keep al (p15.other hne (p13.other hne n7)), n2, by rw [al.findClass]; exact n3, n4, n5, fun y c h1 h2 => p15.other h1 (p13.other h1 (by rw [q11]; exact n6 y c h2)), by rw [p15.2.2, p13.2.2, q11]; exact z8⟩, fun fs hl => c16.trans (X15.returnOut hexec hret (hb hbytes d57) hl)⟩
end New4
namespace New1
def yN : MethodName := ⟨"java/lang/String", "<init>", "([C)V"⟩
abbrev yB : ByteArray := jdk_42_method_3_code
theorem d0 : decode yB 0 = .ok (.aload_n 0, 1) := by decide +kernel
theorem d1 : decode yB 1 = .ok (.aload_n 1, 1) := by decide +kernel
theorem d2 : decode yB 2 = .ok (.iconst 0, 1) := by decide +kernel
theorem d3 : decode yB 3 = .ok (.aload_n 1, 1) := by decide +kernel
theorem d4 : decode yB 4 = .ok (.arraylength, 1) := by decide +kernel
theorem d5 : decode yB 5 = .ok (.aconst_null, 1) := by decide +kernel
theorem d6 : decode yB 6 = .ok (.invokespecial 27, 3) := by decide +kernel
theorem d9 : decode yB 9 = .ok (.return_, 1) := by decide +kernel
def site : List Cond := [New4.tab] ++ initW "java/lang/String" 27 New4.yN
def tab : Cond := tabOf yN yB 2 none site
def P (a : Addr) (D : Cell) (fV fC : Field) (b : Addr) (A : Cell) (z : Int32) (args : Array Value) (s : State) : Prop := args = #[.ref a, .ref b] ∧ Blank "java/lang/String" a D s ∧ Found "java/lang/String" "value" "[B" fV s ∧ Found "java/lang/String" "coder" "B" fC s ∧ Ch b A s ∧ StaticIs s "java/lang/String" "COMPACT_STRINGS" "Z" (.int z) ∧ ¬ z = 0 ∧ 0 < A.slots.size ∧ A.slots.size ≤ 536870912 ∧ ∀ i, i < A.slots.size → ¬ 255 < cv A i
def E (a : Addr) (D : Cell) (fV fC : Field) (A : Cell) (r : Option Value) (s u : State) : Prop := Got a D fV fC A 0 A.slots.size r s u
/-- new String(chars), not empty, no char above 255: a Latin-1 String of their low bytes -/
theorem law (l : Launch) (a : Addr) (D : Cell) (fV fC : Field) (b : Addr) (A : Cell) (z : Int32) : Law l yN 2 1 3 52 yB 2 none site (P a D fV fC b A z) (E a D fV fC A) [⟨a, fC.slot⟩, ⟨a, fV.slot⟩] 1 A.slots.size := by
  refine Law.of_walk (plainFor_of_name (by decide +kernel)) (by decide +kernel) (by decide +kernel) (by decide) (fun _ _ h => by rw [h.1]; rfl) (fun _ U U' hal hh h => ⟨h.1, h.2.1.mv hal hh, h.2.2.1.al hal, h.2.2.2.1.al hal, h.2.2.2.2.1.mv hal hh, h.2.2.2.2.2.1.there hal hh, h.2.2.2.2.2.2⟩) (fun r U U' V V' h1 hal h2 h => Got.mv r U U' V V' h1 hal h2 h) ?_
  intro p e s m args below meth c s₁ X0 hexec hbytes hml hret hlk hnm hown hh0 W hP
  obtain ⟨rfl, hB, f1, f2, hA, s1, hz, l0, l2, hp⟩ := hP
  have c1 : Steps p.tables e below (s₁.setTop (entryFrame m #[.ref a, .ref b] 2)) (s₁.setTop (mkF m 0 #[.val (.ref a), .val (.ref b)] [])) := entry rfl
  have c2 : Steps p.tables e below (s₁.setTop (entryFrame m #[.ref a, .ref b] 2)) (s₁.setTop (mkF m 6 #[.val (.ref a), .val (.ref b)] [.null, .int (Int32.ofNat A.slots.size), .int 0, .ref b, .ref a])) := c1.trans (by
    refine XS.aloadN X0.here hexec rfl (hb hbytes d0) rfl rfl ?_
    refine XS.aloadN X0.here hexec rfl (hb hbytes d1) rfl rfl ?_
    refine iconstV X0.here hexec rfl 0 (hb hbytes d2) (by decide) ?_
    refine XS.aloadN X0.here hexec rfl (hb hbytes d3) rfl rfl ?_
    refine X0.alen hexec (hA.1.mv X0.warmed.alike hh0) rfl rfl (hb hbytes d4) ?_
    refine XS.aconstNull X0.here hexec rfl (hb hbytes d5) ?_
    exact Steps.refl _)
  obtain ⟨v3, T3, X3, E3, g3⟩ := X0.callN hexec (New4.law l a D fV fC b A z 0 A.slots.size) rfl hown (wks W (initW "java/lang/String" 27 New4.yN)) (W New4.tab (by simp only [site, List.mem_cons, List.mem_append, true_or, or_true])) (W := 0) (Nat.le_of_ble_eq_true rfl) (Nat.le_of_ble_eq_true rfl) (Nat.le_refl _) (by show 0 + A.slots.size ≤ A.slots.size; omega) (g := (mkF m 6 #[.val (.ref a), .val (.ref b)] [.null, .int (Int32.ofNat A.slots.size), .int (Int32.ofNat 0), .ref b, .ref a])) rfl (by rw [hml]; rfl) c2 (argsL := [.ref b, .int (Int32.ofNat 0), .int (Int32.ofNat A.slots.size), .null]) (rest := []) rfl rfl (by show 2 * 0 + 0 ≤ _; decide) (hb hbytes d6) (⟨rfl, hB.mv X0.warmed.alike hh0, f1.al X0.warmed.alike, f2.al X0.warmed.alike, hA.mv X0.warmed.alike hh0, s1.there X0.warmed.alike hh0, hz, l0, by omega, l2, fun i hi => by rw [Nat.zero_add]; exact hp i hi⟩)
  have e0 := Got.mv _ s₁ s _ _ hh0.symm (Vm.Alike.refl _) rfl E3
  obtain rfl := e0.1
  have c4 : Steps p.tables e below (s₁.setTop (entryFrame m #[.ref a, .ref b] 2)) (T3.setTop (mkF m 9 #[.val (.ref a), .val (.ref b)] [])) := g3
  exact ⟨T3, none, _, _, _, X3, by simp, rfl, by omega, (fun _ => rfl), e0, fun fs hl => c4.trans (X3.returnOut hexec hret (hb hbytes d9) hl)⟩
theorem pays {l : Launch} {R : Room} {p : Program} {e : Env} {below : List Frame} {s : State} {sargs : Array Value} {len W : Nat} (a : Addr) (D : Cell) (fV fC : Field) (b : Addr) (A : Cell) (z : Int32) (htab : tab.before sargs s = true) (hfr : 4 ≤ R.frames) (hlo : W + 65 ≤ R.locals) :
    Back l R p e below s sargs yN len W (fun A₁ a₁ => A₁.cells + 1 ≤ R.cells ∧ A₁.slots + A.slots.size ≤ R.slots ∧ P a D fV fC b A z a₁ A₁.U) (fun A₁ _ v₁ B₁ => E a D fV fC A v₁ A₁.U B₁.U ∧ B₁.locs = A₁.locs ++ [⟨a, fC.slot⟩, ⟨a, fV.slot⟩] ∧ B₁.cells = A₁.cells + 1 ∧ B₁.slots = A₁.slots + A.slots.size) :=
  (law l a D fV fC b A z).pays htab hfr (by omega)
end New1
/-- the byte, read back as charAt reads it, is the char -/
theorem lo8_mask {x : Int32} (h0 : ¬ x < 0) (h1 : ¬ 255 < x) : lo8 x &&& 255 = x := by
  have t : ∀ k : Fin 256, lo8 (Int32.ofNat k.val) &&& 255 = Int32.ofNat k.val := by decide +kernel
  rw [Int32.lt_iff_toInt_lt] at h0 h1
  have e0 : (0 : Int32).toInt = 0 := rfl
  have e1 : (255 : Int32).toInt = 255 := rfl
  obtain ⟨k, hk⟩ : ∃ k : Nat, x.toInt = k := ⟨x.toInt.toNat, by omega⟩
  have hx : x = Int32.ofNat k := Int32.toInt_inj.mp (by rw [hk, Int32.toInt_ofNat_small (by omega)])
  rw [hx]
  exact t ⟨k, by omega⟩
end StrChars
namespace StrChars.Road
open Jvm Sem ClassFile Op Lib Jvm.Stand Jvm.Free Jvm.Free.XT
open Jvm.Lib.Cold (StaticIs)
abbrev ST : String := "java/lang/String"
/-- every table word that New1's law asks, flat -/
abbrev words : List Jvm.Cond := [.code New1.yN New1.yB 2 none, .initialized ST, .methodLink ST 27 New4.yN, .instanceMethod New4.yN,
  .code New4.yN New4.yB 6 none, .fieldLink ST 38 ST "COMPACT_STRINGS" "Z", .laysFinal ST ST "value" "[B", .fieldLink ST 9 ST "value" "[B", .laysFinal ST ST "coder" "B", .fieldLink ST 15 ST "coder" "B",
  .methodLink ST 1 Lib.objectInit, .instanceMethod Lib.objectInit, .code Lib.objectInit ⟨#[0xb1]⟩ 1 none, .methodLink ST 177 Cmp3.yN, .static Cmp3.yN, .methodLink ST 47 CodL.yN, .static CodL.yN,
  .code Cmp3.yN Cmp3.yB 6 (some (.array .byte)), .initialized U16, .arrayClass .byte, .methodLink U16 115 Cmp5.yN, .static Cmp5.yN, .code Cmp5.yN Cmp5.yB 7 (some .int), .code CodL.yN CodL.yB 2 (some .byte)]
theorem tab_of {a : Array Value} {s : State} (h : ∀ w ∈ words, w.before a s = true) : New1.tab.before a s = true := by
  have h5 : Cmp5.tab.before a s = true := unparts (wk h (.code Cmp5.yN Cmp5.yB 7 (some .int))) (wks h (.initialized Cmp5.yN.cls :: Cmp5.site))
  have hc : CodL.tab.before a s = true := unparts (wk h (.code CodL.yN CodL.yB 2 (some .byte))) (wks h (.initialized CodL.yN.cls :: CodL.site))
  have q5 : ∀ w ∈ Cmp5.tab :: words, w.before a s = true := fun w hw => (List.mem_cons.mp hw).elim (fun e => e ▸ h5) (h w)
  have h3 : Cmp3.tab.before a s = true := unparts (wk q5 (.code Cmp3.yN Cmp3.yB 6 (some (.array .byte)))) (wks q5 (.initialized Cmp3.yN.cls :: Cmp3.site))
  have q3 : ∀ w ∈ Cmp3.tab :: CodL.tab :: words, w.before a s = true := fun w hw => (List.mem_cons.mp hw).elim (fun e => e ▸ h3) fun hw => (List.mem_cons.mp hw).elim (fun e => e ▸ hc) (h w)
  have h4 : New4.tab.before a s = true := unparts (wk q3 (.code New4.yN New4.yB 6 none)) (wks q3 (.initialized New4.yN.cls :: New4.site))
  have q4 : ∀ w ∈ New4.tab :: words, w.before a s = true := fun w hw => (List.mem_cons.mp hw).elim (fun e => e ▸ h4) (h w)
  exact unparts (wk q4 (.code New1.yN New1.yB 2 none)) (wks q4 (.initialized New1.yN.cls :: New1.site))
/-- the words ride from the start Z to the walk's own state -/
theorem moved {Z s : State} {a0 args : Array Value} (hZ : Z.Warmed39 s.vm) (hw : ∀ d ∈ words, d.before a0 Z = true) : ∀ d ∈ words, d.before args s = true := fun d hd => by
  have q := hw d hd
  have t : ∀ d ∈ words, d = .arrayClass .byte ∨ (d.onTables && d.keepsFace) = true := by decide +kernel
  rcases t d hd with rfl | t
  · exact RoadKit.mvA hZ q
  · exact RoadKit.mv hZ q t
/-- WHAT COMES BACK, over the tables of the start Z: h the heap at the call, h' behind it -/
def Q (Z : State) (x : Addr) (A : Cell) (h : Heap) (v : Option Value) (h' : Heap) (L : List Loc) : Prop := v = none ∧ (∀ y ∈ L, y.base = x) ∧ RoadKit.Keep h h' [x] ∧ h'.size = h.size + 1 ∧ RoadKit.Exa Z h' x ST ∧ RoadKit.Fld Z h' x ST "value" "[B" (.ref h.size) ∧ RoadKit.Fld Z h' x ST "coder" "B" (.int 0) ∧
  (∃ V : Cell, RoadKit.Arr Z h' h.size V .byte ∧ V.vm = .none ∧ Z.vm.findClass "[B" = some V.cls ∧ V.slots.size = A.slots.size ∧ ∀ j, j < A.slots.size → V.slots[j]? = some (.int (lo8 (cv A j)))) ∧
  ∀ (O n d : String) (w : Value), RoadKit.Fld Z h x O n d w → RoadKit.slotOf Z O n d ≠ RoadKit.slotOf Z ST "value" "[B" → RoadKit.slotOf Z O n d ≠ RoadKit.slotOf Z ST "coder" "B" → RoadKit.Fld Z h' x O n d w
/-- **new String(chars) AT A CALL, IN THE ROAD'S FORM**: for specialBack behind newO: x the fresh String, b the char[] with the cell A -/
theorem back {p : Program} {l : Launch} {e : Env} {R : Room} {s : State} {args : Array Value} {below : List Frame} {len W : Nat} {Z : State} {a0 : Array Value} {h : Heap} (hZ : Z.Warmed39 s.vm) (hw : ∀ d ∈ words, d.before a0 Z = true) {kI : Nat} (wi : (Jvm.Cond.instantiable ST kI).before a0 Z = true)
    {x b : Addr} {A : Cell} {z : Int32} {v0 c0 : Value} (E : RoadKit.Exa Z h x ST) (V : RoadKit.Fld Z h x ST "value" "[B" v0) (C : RoadKit.Fld Z h x ST "coder" "B" c0) (K : RoadKit.Arr Z h b A .char) (hty : Typed .char A) (S : RoadKit.Sta Z h ST "COMPACT_STRINGS" "Z" (.int z)) (hz : ¬ z = 0)
    (l0 : 0 < A.slots.size) (l2 : A.slots.size ≤ 536870912) (hp : ∀ i, i < A.slots.size → ¬ 255 < cv A i) (hfr : 4 ≤ R.frames) (hlo : W + 65 ≤ R.locals) :
    Back l R p e below s args New1.yN len W (fun P a => a = #[.ref x, .ref b] ∧ P.U.heap = h ∧ P.cells + 1 ≤ R.cells ∧ P.slots + A.slots.size ≤ R.slots)
      (fun P _ v B => ∃ L, Q Z x A h v B.U.heap L ∧ B.locs = P.locs ++ L ∧ B.cells = P.cells + 1 ∧ B.slots = P.slots + A.slots.size) := by
  intro m meth c P g ig mk a X hg hsize hdg hW hn hp'
  obtain ⟨rfl, rfl, r1, r2⟩ := hp'
  have al : Z.vm.Alike P.U.vm := hZ.alike.trans X.warmed.alike
  obtain ⟨D, cfV, kV, iV, fV, hD, gV, stV, knV, obV, asV, slV⟩ := id V
  obtain ⟨D', cfC, kC, iC, fC, hD', gC, stC, -, -, asC, slC⟩ := id C
  cases hD.symm.trans hD'
  obtain ⟨D2, kD, e1, e2, e3, e4, e5⟩ := id E
  cases hD.symm.trans e1
  obtain ⟨c2, k2, i1, i2, i3, -⟩ := Cond.instantiable_spec wi
  cases e2.symm.trans i1
  cases e3.symm.trans i2
  obtain ⟨kU, u1, u2⟩ := al.2.2 _ _ e3
  have hB : Blank ST x D P.U := ⟨hD, ⟨knV, fun q hq => by rw [hq] at obV; cases obV⟩, by rw [al.findClass]; exact e2, kU, u1, by rw [u2]; exact i3, by rw [u2]; exact e5 i3⟩
  have F1 : Found ST "value" "[B" fV P.U := ⟨SBG.found_only al ⟨cfV, kV, iV, gV⟩, stV⟩
  have F2 : Found ST "coder" "B" fC P.U := ⟨SBG.found_only al ⟨cfC, kC, iC, gC⟩, stC⟩
  have hA : Ch b A P.U := ⟨⟨K.1, State.isArrayOf_alike al K.2.1, K.2.2, by omega⟩, hty⟩
  have hS : StaticIs P.U ST "COMPACT_STRINGS" "Z" (.int z) := by
    obtain ⟨cfS, iS, kS, fS, st, cS, t1, t2, t3, t4, t5, t6, t7⟩ := S
    exact StaticIs.there (s := { Z with heap := P.U.heap }) ⟨cfS, iS, kS, fS, st, cS, t1, t2, t3, t4, t5, (fun q => by rw [q] at t6; cases t6), t7⟩ al rfl
  obtain ⟨v, B, X', ⟨⟨hv, E', V', q1, q2, q3, q4, q5, q6, q7, q8, q9, q10, q11⟩, hl, hc, hs⟩, st⟩ := New1.pays x D fV fC b A z (tab_of (moved hZ hw)) hfr hlo m meth c P g ig mk _ X hg hsize hdg hW hn ⟨r1, r2, rfl, hB, F1, F2, hA, hS, hz, l0, l2, hp⟩
  have al' : Z.vm.Alike B.U.vm := hZ.alike.trans X'.warmed.alike
  have hsz : E'.slots.size = D.slots.size := by
    obtain ⟨-, -, -, kB, w1, w2, w3⟩ := q1
    obtain ⟨kB', y1, y2⟩ := al'.2.2 _ _ e3
    rw [q2.2.1] at w1
    cases w1.symm.trans y1
    rw [w3, e5 i3, y2]
  refine ⟨v, B, X', ⟨_, ⟨hv, ?_, ⟨by omega, fun y cy hy hn' => q10 y cy (by simpa using hn') hy, fun y cy hy => ?_⟩, q11, ⟨E', _, q1.1, by rw [q2.2.1]; exact e2, by rw [q2.2.1]; exact e3, by rw [q2.1]; exact obV, fun _ => by rw [hsz]; exact e5 i3⟩,
    ⟨E', cfV, kV, iV, fV, q1.1, gV, stV, by rw [q2.1]; exact knV, by rw [q2.1]; exact obV, by rw [q2.2.1]; exact asV, q3⟩, ⟨E', cfC, kC, iC, fC, q1.1, gC, stC, by rw [q2.1]; exact knV, by rw [q2.1]; exact obV, by rw [q2.2.1]; exact asC, q4⟩,
    ⟨V', ⟨q5.1, State.isArrayOf_alike al'.symm q5.2.1, q5.2.2.1⟩, q6, by rw [← al'.findClass]; exact q7, q8, fun j hj => by have := q9 j hj; rwa [Nat.zero_add] at this⟩, fun O n d w F n1 n2 => ?_⟩, hl, hc, hs⟩, st⟩
  · intro y hy
    simp only [List.mem_cons, List.not_mem_nil, or_false] at hy
    rcases hy with rfl | rfl <;> rfl
  · by_cases q : y = x
    · subst q
      cases hD.symm.trans hy
      exact ⟨E', q1.1, q2.2.1, q2.1, hsz⟩
    · exact ⟨cy, q10 y cy q hy, rfl, rfl, rfl⟩
  · obtain ⟨D3, cf, k, i, f, g1, g2, g3, g4, g5, g6, g7⟩ := F
    cases hD.symm.trans g1
    simp only [RoadKit.slotOf, g2, gV, gC, Option.map_some, Option.getD_some] at n1 n2
    exact ⟨E', cf, k, i, f, q1.1, g2, g3, by rw [q2.1]; exact g4, by rw [q2.1]; exact g5, by rw [q2.2.1]; exact g6, by rw [q2.2.2 f.slot (by simp [n1, n2])]; exact g7⟩
end StrChars.Road
namespace StrChars.Road
open Jvm Sem ClassFile Op Lib Jvm.Stand Jvm.Free Jvm.Free.XT
/-- WHAT COMES BACK, the byte[] as a list of values -/
def QA (Z : State) (x : Addr) (zn : Int32) (cs : List Int32) (h : Heap) (v : Option Value) (h' : Heap) (L : List Loc) : Prop := v = none ∧ (∀ y ∈ L, y.base = x) ∧ RoadKit.Keep h h' [x] ∧ h'.size = h.size + 1 ∧ RoadKit.Exa Z h' x ST ∧ RoadKit.Fld Z h' x ST "value" "[B" (.ref h.size) ∧ RoadKit.Fld Z h' x ST "coder" "B" (.int 0) ∧
  (∃ kb, Z.vm.findClass "[B" = some kb ∧ RoadKit.Arv Z h' h.size kb .byte zn (cs.map fun c => .int (lo8 c)) (.int 0)) ∧
  ∀ (O n d : String) (w : Value), RoadKit.Fld Z h x O n d w → RoadKit.slotOf Z O n d ≠ RoadKit.slotOf Z ST "value" "[B" → RoadKit.slotOf Z O n d ≠ RoadKit.slotOf Z ST "coder" "B" → RoadKit.Fld Z h' x O n d w
/-- **new String(chars) AT A CALL, THE ARRAYS AS LISTS**: the char[] at b holds cs, not empty, no char above 255 -/
theorem backArv {p : Program} {l : Launch} {e : Env} {R : Room} {s : State} {args : Array Value} {below : List Frame} {len W : Nat} {Z : State} {a0 : Array Value} {h : Heap} (hZ : Z.Warmed39 s.vm) (hw : ∀ d ∈ words, d.before a0 Z = true) {kI : Nat} (wi : (Jvm.Cond.instantiable ST kI).before a0 Z = true)
    {x b : Addr} {k : ClassId} {zn z : Int32} {cs : List Int32} {dv v0 c0 : Value} (E : RoadKit.Exa Z h x ST) (V : RoadKit.Fld Z h x ST "value" "[B" v0) (C : RoadKit.Fld Z h x ST "coder" "B" c0) (K : RoadKit.Arv Z h b k .char zn (cs.map Value.int) dv) (S : RoadKit.Sta Z h ST "COMPACT_STRINGS" "Z" (.int z)) (hz : ¬ z = 0)
    (hlen : zn.toNatClampNeg = cs.length) (h0 : 0 < cs.length) (hbig : cs.length ≤ 536870912) (hall : ∀ c ∈ cs, ¬ 255 < c) (hfr : 4 ≤ R.frames) (hlo : W + 65 ≤ R.locals) :
    Back l R p e below s args New1.yN len W (fun P a => a = #[.ref x, .ref b] ∧ P.U.heap = h ∧ P.cells + 1 ≤ R.cells ∧ P.slots + cs.length ≤ R.slots)
      (fun P _ v B => ∃ L, QA Z x zn cs h v B.U.heap L ∧ B.locs = P.locs ++ L ∧ B.cells = P.cells + 1 ∧ B.slots = P.slots + cs.length) := by
  obtain ⟨A, K1, K2, K3, K4, K5, K6⟩ := K
  have e : A.slots.size = cs.length := K3.trans hlen
  have hat : ∀ (i : Nat) (hi : i < cs.length), A.slots[i]? = some (.int cs[i]) := fun i hi => by rw [K5 i (by omega)]; simp [List.getD_eq_getElem?_getD, hi]
  have hcv : ∀ (i : Nat) (hi : i < cs.length), cv A i = cs[i] := fun i hi => by unfold cv; rw [hat i hi]
  have hty : Typed .char A := fun i v hv => by
    have hi : i < A.slots.size := (Array.getElem?_eq_some_iff.mp hv).1
    have q := K5 i hi
    rw [hv] at q
    rw [Option.some.inj q]
    exact K6 i hi
  refine Back.mono (back hZ hw wi E V C K1 hty S hz (by omega) (by omega) (fun i hi => by rw [hcv i (by omega)]; exact hall _ (List.getElem_mem _)) hfr hlo) (fun P a hp => ⟨hp.1, hp.2.1, hp.2.2.1, by rw [e]; exact hp.2.2.2⟩) (fun P a v B hp hq => ?_)
  obtain ⟨L, ⟨q1, q2, q3, q4, q5, q6, q7, ⟨V', v1, v2, v3, v4, v5⟩, q9⟩, hl, hc, hs⟩ := hq
  refine ⟨L, ⟨q1, q2, q3, q4, q5, q6, q7, ⟨V'.cls, v3, V', v1, rfl, by rw [v4, e, hlen], K4, fun i hi => ?_, fun i hi => ?_⟩, q9⟩, hl, hc, by rw [hs, e]⟩
  · have hi' : i < cs.length := by omega
    rw [v5 i (by omega), hcv i hi']; simp [List.getD_eq_getElem?_getD, hi']
  · have hi' : i < cs.length := by omega
    simp only [List.getD_eq_getElem?_getD, List.getElem?_map, List.getElem?_eq_getElem hi', Option.map_some, Option.getD_some]
    exact fits_lo8 _
end StrChars.Road
namespace StrChars.Road
open Jvm Sem ClassFile Op Lib Jvm.Stand Jvm.Free Jvm.Free.XT
/-- WHAT COMES BACK, in the writer's own shape -/
def QV (Z : State) (x : Addr) (N : Int32) (bs : List Int32) (h : Heap) (n0 : Nat) (v : Option Value) (h' : Heap) (L : List Loc) : Prop := v = none ∧ RoadKit.Fr n0 L ∧ RoadKit.Keep h h' [x] ∧ RoadKit.Exa Z h' x ST ∧ RoadKit.Fld Z h' x ST "coder" "B" (.int 0) ∧
  ∃ (t : Addr) (kb : ClassId), n0 ≤ t ∧ h.size ≤ t ∧ ¬ t = x ∧ RoadKit.Fld Z h' x ST "value" "[B" (.ref t) ∧ RoadKit.Arv Z h' t kb .byte N (bs.map Value.int) (.int 0)
/-- **new String(chars) AT A CALL, FOR THE WRITER**: a char[] of n known ints, each 0 to 255 -/
theorem backV {p : Program} {l : Launch} {e : Env} {R : Room} {s : State} {args : Array Value} {below : List Frame} {len W : Nat} {Z : State} {a0 : Array Value} {h : Heap} (hZ : Z.Warmed39 s.vm) (hw : ∀ d ∈ words, d.before a0 Z = true) {kI : Nat} (wi : (Jvm.Cond.instantiable ST kI).before a0 Z = true)
    {x b : Addr} {kC : ClassId} {cs bs : List Int32} {d v0 c0 : Value} {z N : Int32} {n n0 : Nat} (hx0 : n0 ≤ x) (hh0 : n0 ≤ h.size) (E : RoadKit.Exa Z h x ST) (V : RoadKit.Fld Z h x ST "value" "[B" v0) (C : RoadKit.Fld Z h x ST "coder" "B" c0) (K : RoadKit.Arv Z h b kC .char N (cs.map Value.int) d) (S : RoadKit.Sta Z h ST "COMPACT_STRINGS" "Z" (.int z)) (hz : ¬ z = 0)
    (hn : cs.length = n) (hN : N = Int32.ofNat n) (l0 : 0 < n) (l2 : n ≤ 4000) (hp : ∀ c ∈ cs, ¬ c < 0 ∧ ¬ (255 : Int32) < c) (hb : bs = cs.map (fun c => c.toInt8.toInt32)) (hfr : 4 ≤ R.frames) (hlo : W + 65 ≤ R.locals) :
    Back l R p e below s args (⟨"java/lang/String", "<init>", "([C)V"⟩ : MethodName) len W (fun P a => a = #[.ref x, .ref b] ∧ P.U.heap = h ∧ P.cells + 1 ≤ R.cells ∧ P.slots + n ≤ R.slots)
      (fun P _ v B => ∃ L, QV Z x N bs h n0 v B.U.heap L ∧ B.locs = P.locs ++ L ∧ B.cells = P.cells + 1 ∧ B.slots = P.slots + n) := by
  subst hn hN hb
  refine Back.mono (backArv hZ hw wi E V C K S hz (n32 (by omega)) l0 (by omega) (fun c hc => (hp c hc).2) hfr hlo) (fun P a hp => hp) (fun P a v B hp hq => ?_)
  obtain ⟨L, ⟨q1, q2, q3, q4, q5, q6, q7, ⟨kb, v1, v2⟩, q9⟩, hl, hc, hs⟩ := hq
  exact ⟨L, ⟨q1, fun y hy => by rw [q2 y hy]; exact hx0, q3, q5, q7, h.size, kb, hh0, Nat.le_refl _, Nat.ne_of_gt E.lt, q6, by rw [List.map_map]; exact v2⟩, hl, hc, hs⟩
end StrChars.Road
namespace StrChars
open Jvm Sem ClassFile Op Lib Jvm.Stand Jvm.Free.XT Jvm.Free.ALB Jvm.Free.JM Jvm.Free
open Jvm.Lib.Cold (StaticIs)
def hi8 (x : Int32) : Int32 := lo8 (x >>> ((8 : Int32) &&& 31))
/-- what StringUTF16.getChar makes of two bytes -/
def pairCh (u v : Int32) : Int32 := (((u &&& 255) <<< ((0 : Int32) &&& 31)) ||| ((v &&& 255) <<< ((8 : Int32) &&& 31))).toUInt32.toUInt16.toUInt32.toInt32
theorem lo8_and (x : Int32) : (lo8 x &&& 255).toBitVec.toNat = x.toBitVec.toNat % 256 := by
  have h : (lo8 x).toBitVec = (x.toBitVec.signExtend 8).signExtend 32 := by rw [lo8, Int8.toBitVec_toInt32, Int32.toBitVec_toInt8]
  rw [Int32.toBitVec_and, BitVec.toNat_and, h]
  have e : ((x.toBitVec.signExtend 8).signExtend 32).toNat % 256 = x.toBitVec.toNat % 256 := by
    rw [BitVec.toNat_signExtend]
    have hlt := x.toBitVec.isLt
    simp only [BitVec.toNat_setWidth, BitVec.toNat_signExtend]
    split <;> split <;> omega
  rw [← e]
  exact Nat.and_two_pow_sub_one_eq_mod _ 8
theorem pair_says {c : Int32} (h0 : ¬ c < 0) (h1 : ¬ 65535 < c) : pairCh (lo8 c) (hi8 c) = c := by
  rw [Int32.lt_iff_toInt_lt] at h0 h1
  have e0 : (0 : Int32).toInt = 0 := rfl
  have e1 : (65535 : Int32).toInt = 65535 := rfl
  have hc : c.toInt = c.toBitVec.toNat := by
    have := c.toBitVec.isLt
    have e : c.toInt = c.toBitVec.toInt := rfl
    rw [e] at h0 h1
    rw [e]
    rw [BitVec.toInt_eq_toNat_cond] at h0 h1 ⊢
    split at h0 <;> split <;> omega
  have hn : c.toBitVec.toNat < 65536 := by omega
  have a1 := lo8_and c
  have a2 : (hi8 c &&& 255).toBitVec.toNat = c.toBitVec.toNat / 256 := by
    rw [hi8, lo8_and]
    have e : ((8 : Int32) &&& 31) = 8 := by decide
    rw [e, Int32.toBitVec_shiftRight]
    have e2 : ((8 : Int32).toBitVec.smod 32) = 8#32 := by decide
    rw [e2, BitVec.sshiftRight_eq', BitVec.toNat_sshiftRight_of_msb_false (by rw [BitVec.msb_eq_false_iff_two_mul_lt]; omega)]
    show c.toBitVec.toNat >>> 8 % 256 = _
    rw [Nat.shiftRight_eq_div_pow]
    omega
  unfold pairCh
  apply Int32.toBitVec_inj.mp
  apply BitVec.eq_of_toNat_eq
  have f0 : ((0 : Int32) &&& 31) = 0 := by decide
  have f8 : ((8 : Int32) &&& 31) = 8 := by decide
  rw [f0, f8]
  have g : (((lo8 c &&& 255) <<< (0 : Int32)) ||| ((hi8 c &&& 255) <<< (8 : Int32))).toBitVec.toNat = c.toBitVec.toNat := by
    rw [Int32.toBitVec_or, Int32.toBitVec_shiftLeft, Int32.toBitVec_shiftLeft]
    have s0 : ((0 : Int32).toBitVec.smod 32) = 0#32 := by decide
    have s8 : ((8 : Int32).toBitVec.smod 32) = 8#32 := by decide
    rw [s0, s8, BitVec.toNat_or]
    simp only [BitVec.shiftLeft_eq', BitVec.toNat_shiftLeft, a1, a2]
    show (c.toBitVec.toNat % 256) <<< 0 % 2 ^ 32 ||| (c.toBitVec.toNat / 256) <<< 8 % 2 ^ 32 = _
    rw [Nat.shiftLeft_zero, Nat.mod_eq_of_lt (show c.toBitVec.toNat % 256 < 2 ^ 32 by omega), Nat.mod_eq_of_lt (show (c.toBitVec.toNat / 256) <<< 8 < 2 ^ 32 by rw [Nat.shiftLeft_eq]; omega), Nat.or_comm, ← Nat.shiftLeft_add_eq_or_of_lt (by omega), Nat.shiftLeft_eq]
    omega
  show BitVec.toNat (((((lo8 c &&& 255) <<< (0 : Int32)) ||| ((hi8 c &&& 255) <<< (8 : Int32))).toBitVec.setWidth 16).setWidth 32) = _
  rw [BitVec.toNat_setWidth, BitVec.toNat_setWidth, g]
  omega
end StrChars
namespace StrChars
open Jvm Sem ClassFile Op Lib Jvm.Stand Jvm.Free.XT Jvm.Free.ALB Jvm.Free.JM Jvm.Free
open Jvm.Lib.Cold (StaticIs)
/-- the array's cell V codes the n chars f 0 .. f (n - 1) by the coder cd, as the JDK does: coder 1 just where some char is above 255 -/
def Cod (cd : Int32) (n : Nat) (f : Nat → Int32) (V : Cell) : Prop := (cd = 0 ∧ V.slots.size = n ∧ ∀ j, j < n → V.slots[j]? = some (.int (lo8 (f j))) ∧ ¬ 255 < f j) ∨ (cd = 1 ∧ V.slots.size = 2 * n ∧ (∀ j, j < n → V.slots[2 * j]? = some (.int (lo8 (f j))) ∧ V.slots[2 * j + 1]? = some (.int (hi8 (f j)))) ∧ ∃ j, j < n ∧ 255 < f j)
/-- **x is a String of the n chars f 0 .. f (n - 1)**, Latin-1 or UTF-16; its array at t has the cell V -/
def Txt (x t : Addr) (V : Cell) (cd : Int32) (n : Nat) (f : Nat → Int32) (U : State) : Prop := Exact "java/lang/String" x U ∧ Has x "java/lang/String" "value" "[B" (.ref t) U ∧ Has x "java/lang/String" "coder" "B" (.int cd) U ∧ XT.Arr .byte t V U ∧ Cod cd n f V ∧ ∀ j, j < n → ¬ f j < 0 ∧ ¬ 65535 < f j
theorem Txt.mv {x t : Addr} {V : Cell} {cd : Int32} {n : Nat} {f : Nat → Int32} {U U' : State} (h : Txt x t V cd n f U) (hal : U.vm.Alike U'.vm) (hh : U'.heap = U.heap) : Txt x t V cd n f U' := ⟨h.1.mv hal hh, h.2.1.mv hal hh, h.2.2.1.mv hal hh, h.2.2.2.1.mv hal hh, h.2.2.2.2⟩
end StrChars
namespace StrChars.Road
open Jvm Sem ClassFile Op Lib Jvm.Stand Jvm.Free Jvm.Free.XT
open Jvm.Lib.Cold (StaticIs)
theorem consq {a : Array Value} {s : State} {c : Jvm.Cond} {L : List Jvm.Cond} (h0 : c.before a s = true) (h : ∀ w ∈ L, w.before a s = true) : ∀ w ∈ c :: L, w.before a s = true := fun w hw => (List.mem_cons.mp hw).elim (fun e => e ▸ h0) (h w)
/-- the bytes of the chars cs, low before high -/
def wideBytes : List Int32 → List Value
  | [] => []
  | c :: cs => .int (lo8 c) :: .int (hi8 c) :: wideBytes cs
theorem wide_lo (d : Value) : ∀ (cs : List Int32) (j : Nat), j < cs.length → (wideBytes cs).getD (2 * j) d = .int (lo8 (cs.getD j 0))
  | [], j, h => absurd h (Nat.not_lt_zero j)
  | c :: cs, 0, _ => rfl
  | c :: cs, j + 1, h => by
    have q := wide_lo d cs j (by simpa using h)
    rw [show 2 * (j + 1) = 2 * j + 1 + 1 from by omega]
    simpa [wideBytes] using q
theorem wide_hi (d : Value) : ∀ (cs : List Int32) (j : Nat), j < cs.length → (wideBytes cs).getD (2 * j + 1) d = .int (hi8 (cs.getD j 0))
  | [], j, h => absurd h (Nat.not_lt_zero j)
  | c :: cs, 0, _ => rfl
  | c :: cs, j + 1, h => by
    have q := wide_hi d cs j (by simpa using h)
    rw [show 2 * (j + 1) + 1 = 2 * j + 1 + 1 + 1 from by omega]
    simpa [wideBytes] using q
theorem low_at (d : Value) (cs : List Int32) (j : Nat) (h : j < cs.length) : (cs.map fun c => Value.int (lo8 c)).getD j d = .int (lo8 (cs.getD j 0)) := by
  simp [List.getD_eq_getElem?_getD, h]
/-- an array of N2 bytes vs codes the chars cs by the coder cd -/
def CodA (cs : List Int32) (cd N2 : Int32) (vs : List Value) : Prop := (cd = 0 ∧ N2 = Int32.ofNat cs.length ∧ vs = (cs.map fun c => Value.int (lo8 c)) ∧ ∀ c ∈ cs, ¬ 255 < c) ∨ (cd = 1 ∧ N2 = Int32.ofNat (2 * cs.length) ∧ vs = wideBytes cs ∧ ∃ c ∈ cs, 255 < c)
theorem CodA.cod {cs : List Int32} {cd N2 : Int32} {vs : List Value} {V : Cell} (h : CodA cs cd N2 vs) (hn : 2 * cs.length < 2 ^ 31) (hs : V.slots.size = N2.toNatClampNeg) (hv : RoadKit.Has V vs (.int 0)) : Cod cd cs.length (fun j => cs.getD j 0) V := by
  rcases h with ⟨rfl, rfl, rfl, h⟩ | ⟨rfl, rfl, rfl, c, hc, hw⟩
  · rw [n32 (by omega)] at hs
    exact Or.inl ⟨rfl, hs, fun j hj => ⟨by rw [hv j (by omega), low_at _ _ _ hj], by
      have e : cs.getD j 0 = cs[j] := by simp [List.getD_eq_getElem?_getD, hj]
      show ¬ 255 < cs.getD j 0
      rw [e]; exact h _ (List.getElem_mem _)⟩⟩
  · rw [n32 (by omega)] at hs
    obtain ⟨j, hj, rfl⟩ := List.getElem_of_mem hc
    exact Or.inr ⟨rfl, hs, fun j hj => ⟨by rw [hv _ (by omega), wide_lo _ _ _ hj], by rw [hv _ (by omega), wide_hi _ _ _ hj]⟩, j, hj, by
      have e : cs.getD j 0 = cs[j] := by simp [List.getD_eq_getElem?_getD, hj]
      show 255 < cs.getD j 0
      rw [e]; exact hw⟩
/-- an object of exactly java/lang/String, its two fields found: as the laws ask it -/
theorem strObj {Z U : State} {a0 : Array Value} {kI : Nat} (wi : (Jvm.Cond.instantiable ST kI).before a0 Z = true) (al : Z.vm.Alike U.vm) {x : Addr} {v0 c0 : Value} (E : RoadKit.Exa Z U.heap x ST) (V : RoadKit.Fld Z U.heap x ST "value" "[B" v0) (C : RoadKit.Fld Z U.heap x ST "coder" "B" c0) :
    ∃ (D : Cell) (fV fC : Field), Blank ST x D U ∧ Found ST "value" "[B" fV U ∧ Found ST "coder" "B" fC U ∧ D.slots[fV.slot]? = some v0 ∧ D.slots[fC.slot]? = some c0 ∧ RoadKit.slotOf Z ST "value" "[B" = fV.slot ∧ RoadKit.slotOf Z ST "coder" "B" = fC.slot := by
  obtain ⟨D, cfV, kV, iV, fV, hD, gV, stV, knV, obV, asV, slV⟩ := V
  obtain ⟨D', cfC, kC, iC, fC, hD', gC, stC, -, -, asC, slC⟩ := C
  cases hD.symm.trans hD'
  obtain ⟨D2, kD, e1, e2, e3, e4, e5⟩ := E
  cases hD.symm.trans e1
  obtain ⟨c2, k2, i1, i2, i3, -⟩ := Cond.instantiable_spec wi
  cases e2.symm.trans i1
  cases e3.symm.trans i2
  obtain ⟨kU, u1, u2⟩ := al.2.2 _ _ e3
  exact ⟨D, fV, fC, ⟨hD, ⟨knV, fun q hq => by rw [hq] at obV; cases obV⟩, by rw [al.findClass]; exact e2, kU, u1, by rw [u2]; exact i3, by rw [u2]; exact e5 i3⟩, ⟨SBG.found_only al ⟨cfV, kV, iV, gV⟩, stV⟩, ⟨SBG.found_only al ⟨cfC, kC, iC, gC⟩, stC⟩, slV, slC, by simp [RoadKit.slotOf, gV], by simp [RoadKit.slotOf, gC]⟩
theorem sta_is {Z U : State} (al : Z.vm.Alike U.vm) {C n d : String} {v : Value} (S : RoadKit.Sta Z U.heap C n d v) : StaticIs U C n d v := by
  obtain ⟨cfS, iS, kS, fS, st, cS, t1, t2, t3, t4, t5, t6, t7⟩ := S
  exact StaticIs.there (s := { Z with heap := U.heap }) ⟨cfS, iS, kS, fS, st, cS, t1, t2, t3, t4, t5, (fun q => by rw [q] at t6; cases t6), t7⟩ al rfl
end StrChars.Road
namespace StrChars
open Jvm Sem ClassFile Op Lib Jvm.Stand Jvm.Free.XT Jvm.Free.ALB Jvm.Free.JM Jvm.Free
open Jvm.Lib.Cold (StaticIs)
/-- what place i of a byte[]'s cell holds -/
def yv (A : Cell) (i : Nat) : Int32 := match A.slots[i]? with | some (.int x) => x | _ => 0
theorem yv_get {a : Addr} {A : Cell} {U : State} (h : XT.Arr .byte a A U) (ht : Typed .byte A) {i : Nat} (hi : i < A.slots.size) : A.slots[i]? = some (.int (yv A i)) := by
  have e := Array.getElem?_eq_getElem hi
  have f := ht i _ e
  unfold yv; rw [e]
  generalize A.slots[i] = v at f
  cases v <;> simp [fits] at f ⊢
/-- the two arrays are equal, place for place -/
def EqC (A B : Cell) : Prop := A.slots.size = B.slots.size ∧ ∀ i, i < A.slots.size → yv A i = yv B i
/-- a boolean that says whether p -/
def Says01 (q : Prop) (r : Option Value) (s u : State) : Prop := ∃ v : Int32, r = some (.int v) ∧ u.heap = s.heap ∧ ((v = 1 ∧ q) ∨ (v = 0 ∧ ¬ q))
theorem Says01.mv {q : Prop} : ∀ r (U U' V V' : State), U'.heap = U.heap → V.vm.Alike V'.vm → V'.heap = V.heap → Says01 q r U V → Says01 q r U' V' :=
  fun r U U' V V' h1 _ h2 ⟨v, a, b, c⟩ => ⟨v, a, by rw [h1, h2]; exact b, c⟩
namespace LEq
def yN : MethodName := ⟨"java/lang/StringLatin1", "equals", "([B[B)Z"⟩
abbrev yB : ByteArray := jdk_43_method_13_code
theorem d0 : decode yB 0 = .ok (.aload_n 0, 1) := by decide +kernel
theorem d1 : decode yB 1 = .ok (.arraylength, 1) := by decide +kernel
theorem d2 : decode yB 2 = .ok (.aload_n 1, 1) := by decide +kernel
theorem d3 : decode yB 3 = .ok (.arraylength, 1) := by decide +kernel
theorem d4 : decode yB 4 = .ok (.if_icmp (.ne) 30, 3) := by decide +kernel
theorem d7 : decode yB 7 = .ok (.iconst 0, 1) := by decide +kernel
theorem d8 : decode yB 8 = .ok (.istore_n 2, 1) := by decide +kernel
theorem d9 : decode yB 9 = .ok (.iload_n 2, 1) := by decide +kernel
theorem d10 : decode yB 10 = .ok (.aload_n 0, 1) := by decide +kernel
theorem d11 : decode yB 11 = .ok (.arraylength, 1) := by decide +kernel
theorem d12 : decode yB 12 = .ok (.if_icmp (.ge) 20, 3) := by decide +kernel
theorem d15 : decode yB 15 = .ok (.aload_n 0, 1) := by decide +kernel
theorem d16 : decode yB 16 = .ok (.iload_n 2, 1) := by decide +kernel
theorem d17 : decode yB 17 = .ok (.baload, 1) := by decide +kernel
theorem d18 : decode yB 18 = .ok (.aload_n 1, 1) := by decide +kernel
theorem d19 : decode yB 19 = .ok (.iload_n 2, 1) := by decide +kernel
theorem d20 : decode yB 20 = .ok (.baload, 1) := by decide +kernel
theorem d21 : decode yB 21 = .ok (.if_icmp (.eq) 5, 3) := by decide +kernel
theorem d24 : decode yB 24 = .ok (.iconst 0, 1) := by decide +kernel
theorem d25 : decode yB 25 = .ok (.ireturn, 1) := by decide +kernel
theorem d26 : decode yB 26 = .ok (.iinc 2 1, 3) := by decide +kernel
theorem d29 : decode yB 29 = .ok (.goto (-20), 3) := by decide +kernel
theorem d32 : decode yB 32 = .ok (.iconst 1, 1) := by decide +kernel
theorem d33 : decode yB 33 = .ok (.ireturn, 1) := by decide +kernel
theorem d34 : decode yB 34 = .ok (.iconst 0, 1) := by decide +kernel
theorem d35 : decode yB 35 = .ok (.ireturn, 1) := by decide +kernel
def site : List Cond := []
def tab : Cond := tabOf yN yB 3 (some .boolean) site
def P (a : Addr) (A : Cell) (b : Addr) (B : Cell) (args : Array Value) (s : State) : Prop := args = #[.ref a, .ref b] ∧ XT.Arr .byte a A s ∧ Typed .byte A ∧ XT.Arr .byte b B s ∧ Typed .byte B
/-- whether two byte[] are equal, place for place -/
theorem law (l : Launch) (a : Addr) (A : Cell) (b : Addr) (B : Cell) : Law l yN 2 2 0 0 yB 3 (some .boolean) site (P a A b B) (Says01 (EqC A B)) [] 0 0 := by
  refine Law.of_walk (plainFor_of_name (by decide +kernel)) (by decide +kernel) (by decide +kernel) (by decide) (fun _ _ h => by rw [h.1]; rfl) (fun _ U U' hal hh h => ⟨h.1, h.2.1.mv hal hh, h.2.2.1, h.2.2.2.1.mv hal hh, h.2.2.2.2⟩) (fun r U U' V V' h1 hal h2 h => Says01.mv r U U' V V' h1 hal h2 h) ?_
  intro p e s m args below meth c s₁ X0 hexec hbytes hml hret hlk hnm hown hh0 W hP
  obtain ⟨rfl, hA, tA, hB, tB⟩ := hP
  have a31 := hA.2.2.2
  have b31 := hB.2.2.2
  have hA0 := hA.mv X0.warmed.alike hh0
  have hB0 := hB.mv X0.warmed.alike hh0
  have c1 : Steps p.tables e below (s₁.setTop (entryFrame m #[.ref a, .ref b] 3)) (s₁.setTop (mkF m 0 #[.val (.ref a), .val (.ref b), .unset] [])) := entry rfl
  have c2 : Steps p.tables e below (s₁.setTop (entryFrame m #[.ref a, .ref b] 3)) (s₁.setTop (mkF m 4 #[.val (.ref a), .val (.ref b), .unset] [.int (Int32.ofNat B.slots.size), .int (Int32.ofNat A.slots.size)])) := c1.trans (by
    refine XS.aloadN X0.here hexec rfl (hb hbytes d0) rfl rfl ?_
    refine X0.alen hexec hA0 rfl rfl (hb hbytes d1) ?_
    refine XS.aloadN X0.here hexec rfl (hb hbytes d2) rfl rfl ?_
    refine X0.alen hexec hB0 rfl rfl (hb hbytes d3) ?_
    exact Steps.refl _)
  by_cases hs : A.slots.size = B.slots.size
  · have c3 : Steps p.tables e below (s₁.setTop (entryFrame m #[.ref a, .ref b] 3)) (s₁.setTop (mkF m 9 #[.val (.ref a), .val (.ref b), .val (.int 0)] [])) := c2.trans (by
      refine XS.icmpNo X0.here hexec rfl (hb hbytes d4) rfl (ii_ne_f (by rw [hs])) ?_
      refine iconstV X0.here hexec rfl 0 (hb hbytes d7) (by decide) ?_
      refine XS.istoreN X0.here hexec rfl (hb hbytes d8) rfl rfl ?_
      exact Steps.refl _)
    have loop : ∀ (r i : Nat), i + r = A.slots.size → (∀ j, j < i → yv A j = yv B j) → Steps p.tables e below (s₁.setTop (entryFrame m #[.ref a, .ref b] 3)) (s₁.setTop (mkF m 9 #[.val (.ref a), .val (.ref b), .val (.int (Int32.ofNat i))] [])) → ∃ (pc : Nat) (Ls : Array Slot) (v : Int32), (pc = 25 ∨ pc = 33) ∧ ((v = 1 ∧ EqC A B) ∨ (v = 0 ∧ ¬ EqC A B)) ∧ Steps p.tables e below (s₁.setTop (entryFrame m #[.ref a, .ref b] 3)) (s₁.setTop (mkF m pc Ls [.int v])) := by
      intro r
      induction r with
      | zero =>
        intro i hi he cl
        exact ⟨33, _, 1, Or.inr rfl, Or.inl ⟨rfl, hs, fun j hj => he j (by omega)⟩, cl.trans (by
          refine XS.iloadN X0.here hexec rfl (hb hbytes d9) rfl ?_
          refine XS.aloadN X0.here hexec rfl (hb hbytes d10) rfl rfl ?_
          refine X0.alen hexec hA0 rfl rfl (hb hbytes d11) ?_
          refine XS.icmpYes X0.here hexec rfl (pc0 := 12) rfl (hb hbytes d12) rfl (ii_ge_t (nlt32 (by omega) (by omega))) (by decide) rfl ?_
          refine iconstV X0.here hexec rfl 1 (hb hbytes d32) (by decide) ?_
          exact Steps.refl _)⟩
      | succ r ih =>
        intro i hi he cl
        have c4 : Steps p.tables e below (s₁.setTop (entryFrame m #[.ref a, .ref b] 3)) (s₁.setTop (mkF m 21 #[.val (.ref a), .val (.ref b), .val (.int (Int32.ofNat i))] [.int (yv B i), .int (yv A i)])) := cl.trans (by
          refine XS.iloadN X0.here hexec rfl (hb hbytes d9) rfl ?_
          refine XS.aloadN X0.here hexec rfl (hb hbytes d10) rfl rfl ?_
          refine X0.alen hexec hA0 rfl rfl (hb hbytes d11) ?_
          refine XS.icmpNo X0.here hexec rfl (hb hbytes d12) rfl (ii_ge_f (lt32 (by omega) (by omega))) ?_
          refine XS.aloadN X0.here hexec rfl (hb hbytes d15) rfl rfl ?_
          refine XS.iloadN X0.here hexec rfl (hb hbytes d16) rfl ?_
          refine X0.aget hexec hA0 rfl (yv_get hA tA (i := i) (by omega)) rfl rfl (hb hbytes d17) ?_
          refine XS.aloadN X0.here hexec rfl (hb hbytes d18) rfl rfl ?_
          refine XS.iloadN X0.here hexec rfl (hb hbytes d19) rfl ?_
          refine X0.aget hexec hB0 rfl (yv_get hB tB (i := i) (by omega)) rfl rfl (hb hbytes d20) ?_
          exact Steps.refl _)
        by_cases hv : yv A i = yv B i
        · have c5 : Steps p.tables e below (s₁.setTop (entryFrame m #[.ref a, .ref b] 3)) (s₁.setTop (mkF m 9 #[.val (.ref a), .val (.ref b), .val (.int (Int32.ofNat i + 1))] [])) := c4.trans (by
            refine XS.icmpYes X0.here hexec rfl (pc0 := 21) rfl (hb hbytes d21) rfl (ii_eq_t hv) (by decide) rfl ?_
            refine iincV X0.here hexec rfl 1 (hb hbytes d26) (by decide) rfl rfl ?_
            refine XS.goto X0.here hexec rfl (pc0 := 29) rfl (hb hbytes d29) (by decide) rfl ?_
            exact Steps.refl _)
          rw [succ32] at c5
          exact ih (i + 1) (by omega) (fun j hj => by
            by_cases e : j = i
            · rw [e]; exact hv
            · exact he j (by omega)) c5
        · exact ⟨25, _, 0, Or.inl rfl, Or.inr ⟨rfl, fun q => hv (q.2 i (by omega))⟩, c4.trans (by
            refine XS.icmpNo X0.here hexec rfl (hb hbytes d21) rfl (ii_eq_f hv) ?_
            refine iconstV X0.here hexec rfl 0 (hb hbytes d24) (by decide) ?_
            exact Steps.refl _)⟩
    obtain ⟨pc, Ls, v, hpc, hv, cz⟩ := loop A.slots.size 0 (by omega) (fun j hj => absurd hj (Nat.not_lt_zero j)) c3
    have nv : narrow .boolean (.int v) = .int v := by rcases hv with ⟨rfl, -⟩ | ⟨rfl, -⟩ <;> rfl
    rcases hpc with rfl | rfl
    · exact ⟨s₁, some (.int v), _, _, _, X0, rfl, rfl, rfl, (fun h => by cases h), ⟨v, rfl, hh0, hv⟩, fun fs hl => cz.trans (X0.ireturnOut hexec hret nv (Or.inr (Or.inl rfl)) (hb hbytes d25) hl)⟩
    · exact ⟨s₁, some (.int v), _, _, _, X0, rfl, rfl, rfl, (fun h => by cases h), ⟨v, rfl, hh0, hv⟩, fun fs hl => cz.trans (X0.ireturnOut hexec hret nv (Or.inr (Or.inl rfl)) (hb hbytes d33) hl)⟩
  · have c3 : Steps p.tables e below (s₁.setTop (entryFrame m #[.ref a, .ref b] 3)) (s₁.setTop (mkF m 35 #[.val (.ref a), .val (.ref b), .unset] [.int 0])) := c2.trans (by
      refine XS.icmpYes X0.here hexec rfl (pc0 := 4) rfl (hb hbytes d4) rfl (ii_ne_t (ne32 a31 b31 hs)) (by decide) rfl ?_
      refine iconstV X0.here hexec rfl 0 (hb hbytes d34) (by decide) ?_
      exact Steps.refl _)
    exact ⟨s₁, some (.int 0), _, _, _, X0, rfl, rfl, rfl, (fun h => by cases h), ⟨0, rfl, hh0, Or.inr ⟨rfl, fun q => hs q.1⟩⟩, fun fs hl => c3.trans (X0.ireturnOut hexec hret rfl (Or.inr (Or.inl rfl)) (hb hbytes d35) hl)⟩
end LEq
theorem Cod.ty {cd : Int32} {n : Nat} {f : Nat → Int32} {V : Cell} (h : Cod cd n f V) : Typed .byte V := fun i v hv => by
  have hi : i < V.slots.size := (Array.getElem?_eq_some_iff.mp hv).1
  rcases h with ⟨-, k1, k2⟩ | ⟨-, k1, k2, -⟩
  · rw [(k2 i (by omega)).1] at hv; cases hv; exact fits_lo8 _
  · rcases Nat.mod_two_eq_zero_or_one i with e | e
    · obtain ⟨j, rfl⟩ : ∃ j, i = 2 * j := ⟨i / 2, by omega⟩
      rw [(k2 j (by omega)).1] at hv; cases hv; exact fits_lo8 _
    · obtain ⟨j, rfl⟩ : ∃ j, i = 2 * j + 1 := ⟨i / 2, by omega⟩
      rw [(k2 j (by omega)).2] at hv; cases hv; exact fits_lo8 _
/-- the same text -/
def SameT (n : Nat) (f : Nat → Int32) (k : Nat) (g : Nat → Int32) : Prop := n = k ∧ ∀ j, j < n → f j = g j
theorem lo8_inj {x y : Int32} (h0 : ¬ x < 0) (h1 : ¬ 255 < x) (k0 : ¬ y < 0) (k1 : ¬ 255 < y) (h : lo8 x = lo8 y) : x = y := by
  rw [← lo8_mask h0 h1, ← lo8_mask k0 k1, h]
/-- arrays coded by one coder are equal just where the texts are -/
theorem Cod.eqv {cd : Int32} {n k : Nat} {f g : Nat → Int32} {V V' : Cell} (h : Cod cd n f V) (h' : Cod cd k g V') (hf : ∀ j, j < n → ¬ f j < 0 ∧ ¬ 65535 < f j) (hg : ∀ j, j < k → ¬ g j < 0 ∧ ¬ 65535 < g j) : EqC V V' ↔ SameT n f k g := by
  have yvv : ∀ {W : Cell} {i : Nat} {x : Int32}, W.slots[i]? = some (.int x) → yv W i = x := fun q => by unfold yv; rw [q]
  rcases h with ⟨rfl, k1, k2⟩ | ⟨rfl, k1, k2, -⟩
  · rcases h' with ⟨-, m1, m2⟩ | ⟨e, -⟩
    · constructor
      · rintro ⟨e1, e2⟩
        refine ⟨by omega, fun j hj => ?_⟩
        have q := e2 j (by omega)
        rw [yvv (k2 j hj).1, yvv (m2 j (by omega)).1] at q
        exact lo8_inj (hf j hj).1 (k2 j hj).2 (hg j (by omega)).1 (m2 j (by omega)).2 q
      · rintro ⟨rfl, e2⟩
        refine ⟨by omega, fun j hj => ?_⟩
        rw [yvv (k2 j (by omega)).1, yvv (m2 j (by omega)).1, e2 j (by omega)]
    · exact absurd e (by decide)
  · rcases h' with ⟨e, -⟩ | ⟨-, m1, m2, -⟩
    · exact absurd e (by decide)
    · constructor
      · rintro ⟨e1, e2⟩
        refine ⟨by omega, fun j hj => ?_⟩
        have q1 := e2 (2 * j) (by omega)
        have q2 := e2 (2 * j + 1) (by omega)
        rw [yvv (k2 j hj).1, yvv (m2 j (by omega)).1] at q1
        rw [yvv (k2 j hj).2, yvv (m2 j (by omega)).2] at q2
        rw [← pair_says (hf j hj).1 (hf j hj).2, ← pair_says (hg j (by omega)).1 (hg j (by omega)).2, q1, q2]
      · rintro ⟨rfl, e2⟩
        refine ⟨by omega, fun i hi => ?_⟩
        rcases Nat.mod_two_eq_zero_or_one i with e | e
        · obtain ⟨j, rfl⟩ : ∃ j, i = 2 * j := ⟨i / 2, by omega⟩
          rw [yvv (k2 j (by omega)).1, yvv (m2 j (by omega)).1, e2 j (by omega)]
        · obtain ⟨j, rfl⟩ : ∃ j, i = 2 * j + 1 := ⟨i / 2, by omega⟩
          rw [yvv (k2 j (by omega)).2, yvv (m2 j (by omega)).2, e2 j (by omega)]
/-- two codings differ: so do the texts -/
theorem Cod.dif {cd cd' : Int32} {n k : Nat} {f g : Nat → Int32} {V V' : Cell} (h : Cod cd n f V) (h' : Cod cd' k g V') (hne : ¬ cd = cd') : ¬ SameT n f k g := by
  rintro ⟨rfl, e⟩
  rcases h with ⟨rfl, -, k2⟩ | ⟨rfl, -, -, j, hj, hw⟩
  · rcases h' with ⟨rfl, -⟩ | ⟨-, -, -, j, hj, hw⟩
    · exact hne rfl
    · exact (k2 j hj).2 (by rw [e j hj]; exact hw)
  · rcases h' with ⟨-, -, m2⟩ | ⟨rfl, -⟩
    · exact (m2 j hj).2 (by rw [← e j hj]; exact hw)
    · exact hne rfl
/-- an object of exactly C is an instance of C -/
theorem cinst {p : Program} {l : Launch} {e : Env} {R : Room} {s : State} {m : MethodId} {args : Array Value} {below : List Frame} {meth : Method} {c : Code} {T : State} {locs : List Loc} {cells slots : Nat} (X : Stand p l e R s m args below meth c T locs cells slots) (hexec : p.tables.exec = Jvm.exec) {own C : String} {index : Nat} (hown : s.vm.findClass own = some m.cls) (hlink : (Cond.classLink own index C).before args s = true) {a : Addr} (hE : Exact C a T)
    {g : JFrame} (hg : g.method = m) {rest : List Value} (hstack : g.stack = .ref a :: rest) (hdg : decode c.code g.pc = .ok (.instanceof index, 3)) :
    ∃ T', Stand p l e R s m args below meth c T' locs cells slots ∧ T'.heap = T.heap ∧ ∀ target, Steps p.tables e below (T'.setTop { g with pc := g.pc + 3, stack := .int 1 :: rest }) target → Steps p.tables e below (T.setTop g) target := by
  obtain ⟨cB, h1, D, h2, h3, h4⟩ := hE
  have h1' : s.vm.findClass C = some cB := by rw [← X.warmed.alike.findClass]; exact h1
  obtain ⟨vm', X', st⟩ := X.instanceofYes hexec hown hlink h2 h4 h1' (by rw [h3]; exact Jvm.Free.SB.assignable_self _ _) hg hstack hdg
  exact ⟨_, X', rfl, st⟩
theorem cself {p : Program} {l : Launch} {e : Env} {R : Room} {s : State} {m : MethodId} {args : Array Value} {below : List Frame} {meth : Method} {c : Code} {T : State} {locs : List Loc} {cells slots : Nat} (X : Stand p l e R s m args below meth c T locs cells slots) (hexec : p.tables.exec = Jvm.exec) {own C : String} {index : Nat} (hown : s.vm.findClass own = some m.cls) (hlink : (Cond.classLink own index C).before args s = true) {a : Addr} (hE : Exact C a T)
    {g : JFrame} (hg : g.method = m) {rest : List Value} (hstack : g.stack = .ref a :: rest) (hdg : decode c.code g.pc = .ok (.checkcast index, 3)) :
    ∃ T', Stand p l e R s m args below meth c T' locs cells slots ∧ T'.heap = T.heap ∧ ∀ target, Steps p.tables e below (T'.setTop { g with pc := g.pc + 3, stack := .ref a :: rest }) target → Steps p.tables e below (T.setTop g) target := by
  obtain ⟨cB, h1, D, h2, h3, h4⟩ := hE
  have h1' : s.vm.findClass C = some cB := by rw [← X.warmed.alike.findClass]; exact h1
  obtain ⟨vm', X', st⟩ := X.checkcastYes hexec hown hlink h2 h4 h1' (by rw [h3]; exact Jvm.Free.SB.assignable_self _ _) hg hstack hdg
  exact ⟨_, X', rfl, fun t h => st t (by rw [← hstack] at h; exact h)⟩
namespace SEq
def yN : MethodName := ⟨"java/lang/String", "equals", "(Ljava/lang/Object;)Z"⟩
abbrev yB : ByteArray := jdk_42_method_66_code
theorem d0 : decode yB 0 = .ok (.aload_n 0, 1) := by decide +kernel
theorem d1 : decode yB 1 = .ok (.aload_n 1, 1) := by decide +kernel
theorem d2 : decode yB 2 = .ok (.if_acmp (.ne) 5, 3) := by decide +kernel
theorem d5 : decode yB 5 = .ok (.iconst 1, 1) := by decide +kernel
theorem d6 : decode yB 6 = .ok (.ireturn, 1) := by decide +kernel
theorem d7 : decode yB 7 = .ok (.aload_n 1, 1) := by decide +kernel
theorem d8 : decode yB 8 = .ok (.instanceof 10, 3) := by decide +kernel
theorem d11 : decode yB 11 = .ok (.ifCond (.eq) 43, 3) := by decide +kernel
theorem d14 : decode yB 14 = .ok (.aload_n 1, 1) := by decide +kernel
theorem d15 : decode yB 15 = .ok (.checkcast 10, 3) := by decide +kernel
theorem d18 : decode yB 18 = .ok (.astore_n 2, 1) := by decide +kernel
theorem d19 : decode yB 19 = .ok (.getstatic 38, 3) := by decide +kernel
theorem d22 : decode yB 22 = .ok (.ifCond (.eq) 14, 3) := by decide +kernel
theorem d25 : decode yB 25 = .ok (.aload_n 0, 1) := by decide +kernel
theorem d26 : decode yB 26 = .ok (.getfield 15, 3) := by decide +kernel
theorem d29 : decode yB 29 = .ok (.aload_n 2, 1) := by decide +kernel
theorem d30 : decode yB 30 = .ok (.getfield 15, 3) := by decide +kernel
theorem d33 : decode yB 33 = .ok (.if_icmp (.ne) 21, 3) := by decide +kernel
theorem d36 : decode yB 36 = .ok (.aload_n 0, 1) := by decide +kernel
theorem d37 : decode yB 37 = .ok (.getfield 9, 3) := by decide +kernel
theorem d40 : decode yB 40 = .ok (.aload_n 2, 1) := by decide +kernel
theorem d41 : decode yB 41 = .ok (.getfield 9, 3) := by decide +kernel
theorem d44 : decode yB 44 = .ok (.invokestatic 541, 3) := by decide +kernel
theorem d47 : decode yB 47 = .ok (.ifCond (.eq) 7, 3) := by decide +kernel
theorem d50 : decode yB 50 = .ok (.iconst 1, 1) := by decide +kernel
theorem d51 : decode yB 51 = .ok (.goto 4, 3) := by decide +kernel
theorem d54 : decode yB 54 = .ok (.iconst 0, 1) := by decide +kernel
theorem d55 : decode yB 55 = .ok (.ireturn, 1) := by decide +kernel
def site : List Cond := [.classLink "java/lang/String" 10 "java/lang/String", .fieldLink "java/lang/String" 38 "java/lang/String" "COMPACT_STRINGS" "Z", .fieldLink "java/lang/String" 15 "java/lang/String" "coder" "B", .fieldLink "java/lang/String" 9 "java/lang/String" "value" "[B", LEq.tab] ++ staticW "java/lang/String" 541 LEq.yN
def tab : Cond := tabOf yN yB 3 (some .boolean) site
def P (x t : Addr) (V : Cell) (cd : Int32) (n : Nat) (f : Nat → Int32) (y t' : Addr) (V' : Cell) (cd' : Int32) (k : Nat) (g : Nat → Int32) (z : Int32) (args : Array Value) (s : State) : Prop := args = #[.ref x, .ref y] ∧ Txt x t V cd n f s ∧ Txt y t' V' cd' k g s ∧ StaticIs s "java/lang/String" "COMPACT_STRINGS" "Z" (.int z) ∧ ¬ z = 0
/-- equals(Object) of two Strings: whether the texts are the same -/
theorem law (l : Launch) (x t : Addr) (V : Cell) (cd : Int32) (n : Nat) (f : Nat → Int32) (y t' : Addr) (V' : Cell) (cd' : Int32) (k : Nat) (g : Nat → Int32) (z : Int32) : Law l yN 2 1 1 14 yB 3 (some .boolean) site (P x t V cd n f y t' V' cd' k g z) (Says01 (SameT n f k g)) [] 0 0 := by
  refine Law.of_walk (plainFor_of_name (by decide +kernel)) (by decide +kernel) (by decide +kernel) (by decide) (fun _ _ h => by rw [h.1]; rfl) (fun _ U U' hal hh h => ⟨h.1, h.2.1.mv hal hh, h.2.2.1.mv hal hh, h.2.2.2.1.there hal hh, h.2.2.2.2⟩) (fun r U U' V V' h1 hal h2 h => Says01.mv r U U' V V' h1 hal h2 h) ?_
  intro p e s m args below meth c s₁ X0 hexec hbytes hml hret hlk hnm hown hh0 W hP
  obtain ⟨rfl, hx, hy, s1, hz⟩ := hP
  have c1 : Steps p.tables e below (s₁.setTop (entryFrame m #[.ref x, .ref y] 3)) (s₁.setTop (mkF m 2 #[.val (.ref x), .val (.ref y), .unset] [.ref y, .ref x])) := Steps.trans (entry rfl) (by
    show Steps p.tables e below (s₁.setTop (mkF m 0 #[.val (.ref x), .val (.ref y), .unset] [])) _
    refine XS.aloadN X0.here hexec rfl (hb hbytes d0) rfl rfl ?_
    refine XS.aloadN X0.here hexec rfl (hb hbytes d1) rfl rfl ?_
    exact Steps.refl _)
  by_cases hxy : x = y
  · have c2 : Steps p.tables e below (s₁.setTop (entryFrame m #[.ref x, .ref y] 3)) (s₁.setTop (mkF m 6 #[.val (.ref x), .val (.ref y), .unset] [.int 1])) := c1.trans (by
      refine acmpNo X0.here hexec rfl (hb hbytes d2) rfl rfl rfl (by simp [acmp, hxy]) ?_
      refine iconstV X0.here hexec rfl 1 (hb hbytes d5) (by decide) ?_
      exact Steps.refl _)
    subst hxy
    have ec : cd = cd' := by
      obtain ⟨D, fd, a1, a2, a3⟩ := hx.2.2.1
      obtain ⟨D', fd', b1, b2, b3⟩ := hy.2.2.1
      cases a1.symm.trans b1
      obtain ⟨q1, q2, q3, q4⟩ := a2.1
      obtain ⟨r1, r2, r3, r4⟩ := b2.1
      cases q4.symm.trans r4
      cases a3.symm.trans b3; rfl
    have et : t = t' := by
      obtain ⟨D, fd, a1, a2, a3⟩ := hx.2.1
      obtain ⟨D', fd', b1, b2, b3⟩ := hy.2.1
      cases a1.symm.trans b1
      obtain ⟨q1, q2, q3, q4⟩ := a2.1
      obtain ⟨r1, r2, r3, r4⟩ := b2.1
      cases q4.symm.trans r4
      cases a3.symm.trans b3; rfl
    subst ec et
    have ev : V = V' := by cases hx.2.2.2.1.1.symm.trans hy.2.2.2.1.1; rfl
    subst ev
    have hs : SameT n f k g := (Cod.eqv hx.2.2.2.2.1 hy.2.2.2.2.1 hx.2.2.2.2.2 hy.2.2.2.2.2).mp ⟨rfl, fun _ _ => rfl⟩
    exact ⟨s₁, some (.int 1), _, _, _, X0, rfl, rfl, rfl, (fun h => by cases h), ⟨1, rfl, hh0, Or.inl ⟨rfl, hs⟩⟩, fun fs hl => c2.trans (X0.ireturnOut hexec hret rfl (Or.inr (Or.inl rfl)) (hb hbytes d6) hl)⟩
  · have c2 : Steps p.tables e below (s₁.setTop (entryFrame m #[.ref x, .ref y] 3)) (s₁.setTop (mkF m 8 #[.val (.ref x), .val (.ref y), .unset] [.ref y])) := c1.trans (by
      refine acmpYes X0.here hexec rfl (pc0 := 2) rfl (hb hbytes d2) rfl rfl rfl (by simp [acmp, hxy]) (by decide) rfl ?_
      refine XS.aloadN X0.here hexec rfl (hb hbytes d7) rfl rfl ?_
      exact Steps.refl _)
    obtain ⟨T3, X3, q3, st3⟩ := cinst X0 hexec hown (wk W (.classLink "java/lang/String" 10 "java/lang/String")) (hy.mv X0.warmed.alike hh0).1 (g := (mkF m 8 #[.val (.ref x), .val (.ref y), .unset] [.ref y])) rfl (rest := []) rfl (hb hbytes d8)
    have hh3 := q3.trans hh0
    have c4 : Steps p.tables e below (s₁.setTop (entryFrame m #[.ref x, .ref y] 3)) (T3.setTop (mkF m 15 #[.val (.ref x), .val (.ref y), .unset] [.ref y])) := (c2.trans (st3 _ (Steps.refl _))).trans (by
      refine XS.ifNo X3.here hexec rfl (hb hbytes d11) rfl (i0_eq_f (by decide)) ?_
      refine XS.aloadN X3.here hexec rfl (hb hbytes d14) rfl rfl ?_
      exact Steps.refl _)
    obtain ⟨T5, X5, q5, st5⟩ := cself X3 hexec hown (wk W (.classLink "java/lang/String" 10 "java/lang/String")) (hy.mv X3.warmed.alike hh3).1 (g := (mkF m 15 #[.val (.ref x), .val (.ref y), .unset] [.ref y])) rfl (rest := []) rfl (hb hbytes d15)
    have hh5 := q5.trans hh3
    have c6 : Steps p.tables e below (s₁.setTop (entryFrame m #[.ref x, .ref y] 3)) (T5.setTop (mkF m 19 #[.val (.ref x), .val (.ref y), .val (.ref y)] [])) := (c4.trans (st5 _ (Steps.refl _))).trans (by
      refine XS.astoreN X5.here hexec rfl (hb hbytes d18) rfl rfl rfl ?_
      exact Steps.refl _)
    obtain ⟨T7, X7, q7, st7⟩ := X5.sget hexec hown (wk W (.fieldLink "java/lang/String" 38 "java/lang/String" "COMPACT_STRINGS" "Z")) s1 (fun _ _ h => by rw [hh5]; exact h) (g := (mkF m 19 #[.val (.ref x), .val (.ref y), .val (.ref y)] [])) rfl (hb hbytes d19)
    have hh7 := q7.trans hh5
    have c8 : Steps p.tables e below (s₁.setTop (entryFrame m #[.ref x, .ref y] 3)) (T7.setTop (mkF m 26 #[.val (.ref x), .val (.ref y), .val (.ref y)] [.ref x])) := (c6.trans (st7 _ (Steps.refl _))).trans (by
      refine XS.ifNo X7.here hexec rfl (hb hbytes d22) rfl (i0_eq_f hz) ?_
      refine XS.aloadN X7.here hexec rfl (hb hbytes d25) rfl rfl ?_
      exact Steps.refl _)
    obtain ⟨T9, X9, q9, st9⟩ := X7.hget hexec hown (wk W (.fieldLink "java/lang/String" 15 "java/lang/String" "coder" "B")) (hx.mv X7.warmed.alike hh7).2.2.1 (g := (mkF m 26 #[.val (.ref x), .val (.ref y), .val (.ref y)] [.ref x])) rfl (rest := []) rfl (hb hbytes d26)
    have hh9 := q9.trans hh7
    have c10 : Steps p.tables e below (s₁.setTop (entryFrame m #[.ref x, .ref y] 3)) (T9.setTop (mkF m 30 #[.val (.ref x), .val (.ref y), .val (.ref y)] [.ref y, .int cd])) := (c8.trans (st9 _ (Steps.refl _))).trans (by
      refine XS.aloadN X9.here hexec rfl (hb hbytes d29) rfl rfl ?_
      exact Steps.refl _)
    obtain ⟨T11, X11, q11, st11⟩ := X9.hget hexec hown (wk W (.fieldLink "java/lang/String" 15 "java/lang/String" "coder" "B")) (hy.mv X9.warmed.alike hh9).2.2.1 (g := (mkF m 30 #[.val (.ref x), .val (.ref y), .val (.ref y)] [.ref y, .int cd])) rfl (rest := [.int cd]) rfl (hb hbytes d30)
    have hh11 := q11.trans hh9
    have c12 : Steps p.tables e below (s₁.setTop (entryFrame m #[.ref x, .ref y] 3)) (T11.setTop (mkF m 33 #[.val (.ref x), .val (.ref y), .val (.ref y)] [.int cd', .int cd])) := c10.trans (st11 _ (Steps.refl _))
    by_cases hcd : cd = cd'
    · subst hcd
      have c13 : Steps p.tables e below (s₁.setTop (entryFrame m #[.ref x, .ref y] 3)) (T11.setTop (mkF m 37 #[.val (.ref x), .val (.ref y), .val (.ref y)] [.ref x])) := c12.trans (by
        refine XS.icmpNo X11.here hexec rfl (hb hbytes d33) rfl (ii_ne_f rfl) ?_
        refine XS.aloadN X11.here hexec rfl (hb hbytes d36) rfl rfl ?_
        exact Steps.refl _)
      obtain ⟨T14, X14, q14, st14⟩ := X11.hget hexec hown (wk W (.fieldLink "java/lang/String" 9 "java/lang/String" "value" "[B")) (hx.mv X11.warmed.alike hh11).2.1 (g := (mkF m 37 #[.val (.ref x), .val (.ref y), .val (.ref y)] [.ref x])) rfl (rest := []) rfl (hb hbytes d37)
      have hh14 := q14.trans hh11
      have c15 : Steps p.tables e below (s₁.setTop (entryFrame m #[.ref x, .ref y] 3)) (T14.setTop (mkF m 41 #[.val (.ref x), .val (.ref y), .val (.ref y)] [.ref y, .ref t])) := (c13.trans (st14 _ (Steps.refl _))).trans (by
        refine XS.aloadN X14.here hexec rfl (hb hbytes d40) rfl rfl ?_
        exact Steps.refl _)
      obtain ⟨T16, X16, q16, st16⟩ := X14.hget hexec hown (wk W (.fieldLink "java/lang/String" 9 "java/lang/String" "value" "[B")) (hy.mv X14.warmed.alike hh14).2.1 (g := (mkF m 41 #[.val (.ref x), .val (.ref y), .val (.ref y)] [.ref y, .ref t])) rfl (rest := [.ref t]) rfl (hb hbytes d41)
      have hh16 := q16.trans hh14
      have c17 : Steps p.tables e below (s₁.setTop (entryFrame m #[.ref x, .ref y] 3)) (T16.setTop (mkF m 44 #[.val (.ref x), .val (.ref y), .val (.ref y)] [.ref t', .ref t])) := c15.trans (st16 _ (Steps.refl _))
      obtain ⟨v18, T18, X18, E18, g18⟩ := X16.callS hexec (LEq.law l t V t' V') hown (wks W (staticW "java/lang/String" 541 LEq.yN)) (wk W LEq.tab) (W := 0) (Nat.le_of_ble_eq_true rfl) (Nat.le_of_ble_eq_true rfl) (Nat.le_refl _) (Nat.le_refl _) (g := (mkF m 44 #[.val (.ref x), .val (.ref y), .val (.ref y)] [.ref t', .ref t])) rfl (by rw [hml]; rfl) c17 (argsL := [.ref t, .ref t']) (rest := []) rfl rfl (by show 2 * 0 + 0 ≤ _; decide) (hb hbytes d44) (⟨rfl, hx.2.2.2.1.mv X16.warmed.alike hh16, hx.2.2.2.2.1.ty, hy.2.2.2.1.mv X16.warmed.alike hh16, hy.2.2.2.2.1.ty⟩)
      obtain ⟨v, rfl, q18, hv⟩ := E18
      have iff := Cod.eqv hx.2.2.2.2.1 hy.2.2.2.2.1 hx.2.2.2.2.2 hy.2.2.2.2.2
      rcases hv with ⟨rfl, he⟩ | ⟨rfl, he⟩
      · have c19 : Steps p.tables e below (s₁.setTop (entryFrame m #[.ref x, .ref y] 3)) (T18.setTop (mkF m 55 #[.val (.ref x), .val (.ref y), .val (.ref y)] [.int 1])) := Steps.trans g18 (by
          refine XS.ifNo X18.here hexec rfl (hb hbytes d47) rfl (i0_eq_f (by decide)) ?_
          refine iconstV X18.here hexec rfl 1 (hb hbytes d50) (by decide) ?_
          refine XS.goto X18.here hexec rfl (pc0 := 51) rfl (hb hbytes d51) (by decide) rfl ?_
          exact Steps.refl _)
        exact ⟨T18, some (.int 1), _, _, _, X18, rfl, rfl, rfl, (fun h => by cases h), ⟨1, rfl, q18.trans hh16, Or.inl ⟨rfl, iff.mp he⟩⟩, fun fs hl => c19.trans (X18.ireturnOut hexec hret rfl (Or.inr (Or.inl rfl)) (hb hbytes d55) hl)⟩
      · have c19 : Steps p.tables e below (s₁.setTop (entryFrame m #[.ref x, .ref y] 3)) (T18.setTop (mkF m 55 #[.val (.ref x), .val (.ref y), .val (.ref y)] [.int 0])) := Steps.trans g18 (by
          refine XS.ifYes X18.here hexec rfl (pc0 := 47) rfl (hb hbytes d47) rfl (i0_eq_t rfl) (by decide) rfl ?_
          refine iconstV X18.here hexec rfl 0 (hb hbytes d54) (by decide) ?_
          exact Steps.refl _)
        exact ⟨T18, some (.int 0), _, _, _, X18, rfl, rfl, rfl, (fun h => by cases h), ⟨0, rfl, q18.trans hh16, Or.inr ⟨rfl, fun q => he (iff.mpr q)⟩⟩, fun fs hl => c19.trans (X18.ireturnOut hexec hret rfl (Or.inr (Or.inl rfl)) (hb hbytes d55) hl)⟩
    · have c13 : Steps p.tables e below (s₁.setTop (entryFrame m #[.ref x, .ref y] 3)) (T11.setTop (mkF m 55 #[.val (.ref x), .val (.ref y), .val (.ref y)] [.int 0])) := c12.trans (by
        refine XS.icmpYes X11.here hexec rfl (pc0 := 33) rfl (hb hbytes d33) rfl (ii_ne_t hcd) (by decide) rfl ?_
        refine iconstV X11.here hexec rfl 0 (hb hbytes d54) (by decide) ?_
        exact Steps.refl _)
      exact ⟨T11, some (.int 0), _, _, _, X11, rfl, rfl, rfl, (fun h => by cases h), ⟨0, rfl, hh11, Or.inr ⟨rfl, Cod.dif hx.2.2.2.2.1 hy.2.2.2.2.1 hcd⟩⟩, fun fs hl => c13.trans (X11.ireturnOut hexec hret rfl (Or.inr (Or.inl rfl)) (hb hbytes d55) hl)⟩
theorem pays {l : Launch} {R : Room} {p : Program} {e : Env} {below : List Frame} {s : State} {sargs : Array Value} {len W : Nat} (x t : Addr) (V : Cell) (cd : Int32) (n : Nat) (f : Nat → Int32) (y t' : Addr) (V' : Cell) (cd' : Int32) (k : Nat) (g : Nat → Int32) (z : Int32) (htab : tab.before sargs s = true) (hfr : 2 ≤ R.frames) (hlo : W + 28 ≤ R.locals) :
    Back l R p e below s sargs yN len W (fun A₁ a₁ => A₁.cells + 0 ≤ R.cells ∧ A₁.slots + 0 ≤ R.slots ∧ P x t V cd n f y t' V' cd' k g z a₁ A₁.U) (fun A₁ _ v₁ B₁ => Says01 (SameT n f k g) v₁ A₁.U B₁.U ∧ B₁.locs = A₁.locs ++ [] ∧ B₁.cells = A₁.cells + 0 ∧ B₁.slots = A₁.slots + 0) :=
  (law l x t V cd n f y t' V' cd' k g z).pays htab hfr (by omega)
end SEq
end StrChars
namespace StrChars.Road
open Jvm Sem ClassFile Op Lib Jvm.Stand Jvm.Free Jvm.Free.XT
open Jvm.Lib.Cold (StaticIs)
/-- the words of String.equals(Object) -/
abbrev wordsEq : List Jvm.Cond := [.code SEq.yN SEq.yB 3 (some .boolean), .initialized ST, .classLink ST 10 ST, .fieldLink ST 38 ST "COMPACT_STRINGS" "Z", .fieldLink ST 15 ST "coder" "B", .fieldLink ST 9 ST "value" "[B", .methodLink ST 541 LEq.yN, .static LEq.yN, .code LEq.yN LEq.yB 3 (some .boolean), .initialized "java/lang/StringLatin1"]
theorem tabEq_of {a : Array Value} {s : State} (h : ∀ w ∈ wordsEq, w.before a s = true) : SEq.tab.before a s = true := by
  have hl : LEq.tab.before a s = true := unparts (wk h (.code LEq.yN LEq.yB 3 (some .boolean))) (wks h (.initialized LEq.yN.cls :: LEq.site))
  have q := consq hl h
  exact unparts (wk q (.code SEq.yN SEq.yB 3 (some .boolean))) (wks q (.initialized SEq.yN.cls :: SEq.site))
theorem movedEq {Z s : State} {a0 args : Array Value} (hZ : Z.Warmed39 s.vm) (hw : ∀ d ∈ wordsEq, d.before a0 Z = true) : ∀ d ∈ wordsEq, d.before args s = true := fun d hd => by
  have t : ∀ d ∈ wordsEq, (d.onTables && d.keepsFace) = true := by decide +kernel
  exact RoadKit.mv hZ (hw d hd) (t d hd)
/-- the road's facts of a String, as the laws ask it -/
theorem txt_of {Z U : State} {a0 : Array Value} {kI : Nat} (wi : (Jvm.Cond.instantiable ST kI).before a0 Z = true) (al : Z.vm.Alike U.vm) {x t : Addr} {kb : ClassId} {cs : List Int32} {cd N2 : Int32} {vs : List Value} (E : RoadKit.Exa Z U.heap x ST) (V : RoadKit.Fld Z U.heap x ST "value" "[B" (.ref t)) (C : RoadKit.Fld Z U.heap x ST "coder" "B" (.int cd)) (K : RoadKit.Arv Z U.heap t kb .byte N2 vs (.int 0)) (hc : CodA cs cd N2 vs) (hb : ∀ c ∈ cs, ¬ c < 0 ∧ ¬ (65535 : Int32) < c) (l2 : cs.length ≤ 4000) :
    ∃ A, Txt x t A cd cs.length (fun j => cs.getD j 0) U := by
  obtain ⟨A, K1, K2, K3, K4, K5, K6⟩ := K
  have hcod := hc.cod (by omega) K3 K5
  obtain ⟨D, fV, fC, hB, F1, F2, g1, g2, -, -⟩ := strObj wi al E V C
  exact ⟨A, ⟨_, hB.2.2.1, D, hB.1, rfl, by cases q : D.vm <;> first | rfl | exact absurd q (hB.2.1.2 _)⟩, Has.of hB F1 g1, Has.of hB F2 g2, ⟨K1.1, State.isArrayOf_alike al K1.2.1, K1.2.2, by rcases hcod with ⟨-, q, -⟩ | ⟨-, q, -⟩ <;> omega⟩, hcod, fun j hj => by
    have e : cs.getD j 0 = cs[j] := by simp [List.getD_eq_getElem?_getD, hj]
    show ¬ cs.getD j 0 < 0 ∧ ¬ 65535 < cs.getD j 0
    rw [e]; exact hb _ (List.getElem_mem _)⟩
theorem same_list (cs ds : List Int32) : SameT cs.length (fun j => cs.getD j 0) ds.length (fun j => ds.getD j 0) ↔ cs = ds := by
  constructor
  · rintro ⟨e, q⟩
    refine List.ext_getElem e fun j h1 h2 => ?_
    have := q j h1
    simpa [List.getD_eq_getElem?_getD, h1, h2] using this
  · rintro rfl
    exact ⟨rfl, fun _ _ => rfl⟩
/-- **equals(Object) OF TWO SUCH STRINGS**: 1 just where the chars are the same -/
theorem eqW {p : Program} {l : Launch} {e : Env} {R : Room} {s : State} {args : Array Value} {below : List Frame} {len W : Nat} {Z : State} {a0 : Array Value} {h : Heap} (hZ : Z.Warmed39 s.vm) (hw : ∀ d ∈ wordsEq, d.before a0 Z = true) {kI : Nat} (wi : (Jvm.Cond.instantiable ST kI).before a0 Z = true)
    {x t : Addr} {kb : ClassId} {cs : List Int32} {cd N2 : Int32} {vs : List Value} (E : RoadKit.Exa Z h x ST) (V : RoadKit.Fld Z h x ST "value" "[B" (.ref t)) (C : RoadKit.Fld Z h x ST "coder" "B" (.int cd)) (K : RoadKit.Arv Z h t kb .byte N2 vs (.int 0)) (hc : CodA cs cd N2 vs) (hb : ∀ c ∈ cs, ¬ c < 0 ∧ ¬ (65535 : Int32) < c) (l2 : cs.length ≤ 4000)
    {y t' : Addr} {kb' : ClassId} {ds : List Int32} {cd' N2' : Int32} {vs' : List Value} (E' : RoadKit.Exa Z h y ST) (V' : RoadKit.Fld Z h y ST "value" "[B" (.ref t')) (C' : RoadKit.Fld Z h y ST "coder" "B" (.int cd')) (K' : RoadKit.Arv Z h t' kb' .byte N2' vs' (.int 0)) (hc' : CodA ds cd' N2' vs') (hb' : ∀ c ∈ ds, ¬ c < 0 ∧ ¬ (65535 : Int32) < c) (l2' : ds.length ≤ 4000)
    {z : Int32} (S : RoadKit.Sta Z h ST "COMPACT_STRINGS" "Z" (.int z)) (hz : ¬ z = 0) (hfr : 2 ≤ R.frames) (hlo : W + 28 ≤ R.locals) :
    Back l R p e below s args (⟨"java/lang/String", "equals", "(Ljava/lang/Object;)Z"⟩ : MethodName) len W (fun P a => a = #[.ref x, .ref y] ∧ P.U.heap = h ∧ P.cells + 0 ≤ R.cells ∧ P.slots + 0 ≤ R.slots)
      (fun P _ v B => ∃ L, (((v = some (.int 1) ∧ cs = ds) ∨ (v = some (.int 0) ∧ ¬ cs = ds)) ∧ L = [] ∧ B.U.heap = h) ∧ B.locs = P.locs ++ L ∧ B.cells = P.cells + 0 ∧ B.slots = P.slots + 0) := by
  intro m meth c P g ig mk a X hg hsize hdg hW hn hp'
  obtain ⟨rfl, rfl, r1, r2⟩ := hp'
  have al : Z.vm.Alike P.U.vm := hZ.alike.trans X.warmed.alike
  obtain ⟨A, hx⟩ := txt_of wi al E V C K hc hb l2
  obtain ⟨A', hy⟩ := txt_of wi al E' V' C' K' hc' hb' l2'
  obtain ⟨v, B, X', ⟨⟨w, hv, hh, hq⟩, hl, hk, hs⟩, st⟩ := SEq.pays x t A cd cs.length (fun j => cs.getD j 0) y t' A' cd' ds.length (fun j => ds.getD j 0) z (tabEq_of (movedEq hZ hw)) hfr hlo m meth c P g ig mk _ X hg hsize hdg hW hn ⟨r1, r2, rfl, hx, hy, sta_is al S, hz⟩
  refine ⟨v, B, X', ⟨[], ⟨?_, rfl, hh⟩, hl, hk, hs⟩, st⟩
  rcases hq with ⟨rfl, q⟩ | ⟨rfl, q⟩
  · exact Or.inl ⟨hv, (same_list cs ds).mp q⟩
  · exact Or.inr ⟨hv, fun e => q ((same_list cs ds).mpr e)⟩
end StrChars.Road
namespace StrChars.Road
open Jvm Sem ClassFile Op Lib Jvm.Stand Jvm.Free Jvm.Free.XT
open Jvm.Lib.Cold (StaticIs)
/-- what backV says of its String, as the contracts of this text ask it: cs's low bytes, coder 0 -/
theorem codOf {cs : List Int32} {n : Nat} (hn : cs.length = n) (hb : ∀ c ∈ cs, ¬ 255 < c) : CodA cs 0 (Int32.ofNat n) ((cs.map lo8).map Value.int) := Or.inl ⟨rfl, by rw [hn], by simp [List.map_map, Function.comp_def], hb⟩
end StrChars.Road
end Jvm.Pilot.@@N@@
namespace Jvm.Pilot.@@N@@
open Jvm Jvm.ClassFile Sem Op Lib Jvm.Free Jvm.Stand Jvm.LawKit Jvm.RoadKit Bundle Jvm.Pilot.@@N@@.Jvm.D
theorem own_d2_0 : decode method_2_code 0 = .ok (.iload_n 0, 1) := by decide +kernel
theorem own_d2_1 : decode method_2_code 1 = .ok (.iconst 3, 1) := by decide +kernel
theorem own_d2_2 : decode method_2_code 2 = .ok (.iand, 1) := by decide +kernel
theorem own_d2_3 : decode method_2_code 3 = .ok (.iconst 3, 1) := by decide +kernel
theorem own_d2_4 : decode method_2_code 4 = .ok (.irem, 1) := by decide +kernel
theorem own_d2_5 : decode method_2_code 5 = .ok (.ireturn, 1) := by decide +kernel
theorem own_pn0 : plainName "com/example/cartulary/cartulary/store/SettingsReadsSameListAsPinLaw" = true := by first | (simp [plainName, overriddenIn]; done) | decide +kernel
theorem ef_len (m : MethodId) (p0 : Int32) : entryFrame m #[(.int p0)] 1 = mkF m 0 #[.val (.int p0)] [] := by first | (simp [entryFrame, mkF, argsToLocals, Value.category]; done) | rfl
def fn_len (p0 : Int32) : Int32 := ((p0 &&& (3 : Int32)) % (3 : Int32))
def Q_len (Z : State) (p0 : Int32) (h0 : Heap) (n0 : Nat) (v : Option Value) (h : Heap) (L : List Loc) : Prop := v = some (.int (fn_len p0)) ∧ Fr n0 L ∧ h = h0
set_option maxRecDepth 65536 in
set_option maxHeartbeats 40000000 in
theorem rm_len (l : Launch) (Z : State) (a0 : Array Value) (hw : ∀ d ∈ tables_1, d.before a0 Z = true) (ws : List Jvm.Cond) (p0 : Int32) (h0 : Heap) (n0 : Nat) (Z0 : n0 ≤ h0.size) :
    MetFree l (⟨"com/example/cartulary/cartulary/store/SettingsReadsSameListAsPinLaw", "len", "(I)I"⟩ : MethodName) (head1 (Jvm.Cond.code (⟨"com/example/cartulary/cartulary/store/SettingsReadsSameListAsPinLaw", "len", "(I)I"⟩ : MethodName) method_2_code 1 (some .int) :: ws) ({ frames := 0, cells := 0, slots := 0, locals := 0 } : Room)) (fun a U => a = #[(.int p0)] ∧ Z.Warmed39 U.vm ∧ U.heap = h0) (fun _ _ _ _ _ => True) (fun _ U o U' => ∃ v L, o = .returned v ∧ Q_len Z p0 h0 n0 v U'.heap L ∧ FrameEnd U o U' L ({ frames := 0, cells := 0, slots := 0, locals := 0 } : Room).cells ({ frames := 0, cells := 0, slots := 0, locals := 0 } : Room).slots) := by
  refine MetFree.of_bodySF (plainFor_of_name own_pn0) hisR ?_
  intro p e s m args below meth c s₁ Bd hml0 hP hK
  obtain ⟨rfl, hZ, hh⟩ := hP
  have hx := Bd.exec
  have hby := Bd.bytes
  have hml : c.maxLocals = 1 := hml0
  have hown : s.vm.findClass "com/example/cartulary/cartulary/store/SettingsReadsSameListAsPinLaw" = some m.cls := findClass_of_methodNamed Bd.named
  have hnm := (name_of_methodNamed Bd.named Bd.method).1
  have X0 : Stand p l e ({ frames := 0, cells := 0, slots := 0, locals := 0 } : Room) s m #[(.int p0)] below meth c s₁ [] 0 0 := Stand.of_body Bd
  have e0 : s₁.heap = h0 := by rw [← hh, Bd.state]; rfl
  have N0 := Fr.nil n0
  have pre0 : ∀ t, Steps p.tables e below (s₁.setTop (mkF m 0 #[.val (.int p0)] [])) t → Steps p.tables e below (s₁.setTop (entryFrame m #[(.int p0)] 1)) t := fun t k => castTop (ef_len m p0) k
  have hv : fn_len p0 = ((p0 &&& (3 : Int32)) % (3 : Int32)) := by simp only [fn_len]
  obtain ⟨fs, hr, hrun, hended, hW, hsame⟩ := X0.leave (v := some (.int ((p0 &&& (3 : Int32)) % (3 : Int32)))) (fun h => by rw [Bd.returns] at h; cases h)
  refine ⟨_, _, pre0 _ ?_, hrun, hended, _, _, rfl, ?_, ⟨_, rfl⟩, hW, hsame.mono (by decide) (by decide)⟩
  · show Steps p.tables e below (s₁.setTop (mkF m 0 #[.val (.int p0)] [])) _
    refine XS.iloadN X0.here hx rfl (hb hby own_d2_0) rfl ?_
    show Steps p.tables e below (s₁.setTop (mkF m 1 #[.val (.int p0)] [(.int p0)])) _
    refine XS.iconst X0.here hx rfl (hb hby own_d2_1) ?_
    show Steps p.tables e below (s₁.setTop (mkF m 2 #[.val (.int p0)] [(.int (3 : Int32)), (.int p0)])) _
    refine XS.iand X0.here hx rfl (hb hby own_d2_2) rfl ?_
    show Steps p.tables e below (s₁.setTop (mkF m 3 #[.val (.int p0)] [(.int (p0 &&& (3 : Int32)))])) _
    refine XS.iconst X0.here hx rfl (hb hby own_d2_3) ?_
    show Steps p.tables e below (s₁.setTop (mkF m 4 #[.val (.int p0)] [(.int (3 : Int32)), (.int (p0 &&& (3 : Int32)))])) _
    refine iremM X0 hx rfl (hb hby own_d2_4) rfl (by decide) ?_
    show Steps p.tables e below (s₁.setTop (mkF m 5 #[.val (.int p0)] [(.int ((p0 &&& (3 : Int32)) % (3 : Int32)))])) _
    exact retI X0 hx Bd.returns (hb hby own_d2_5) hr
  · show Q_len Z p0 h0 n0 _ s₁.heap _
    rw [e0]
    exact ⟨by rw [hv], N0, rfl⟩
theorem own_d6_0 : decode method_3_code 0 = .ok (.iload_n 0, 1) := by decide +kernel
theorem own_d6_1 : decode method_3_code 1 = .ok (.iconst 2, 1) := by decide +kernel
theorem own_d6_2 : decode method_3_code 2 = .ok (.iushr, 1) := by decide +kernel
theorem own_d6_3 : decode method_3_code 3 = .ok (.sipush 255, 3) := by decide +kernel
theorem own_d6_6 : decode method_3_code 6 = .ok (.iand, 1) := by decide +kernel
theorem own_d6_7 : decode method_3_code 7 = .ok (.ireturn, 1) := by decide +kernel
theorem ef_c0 (m : MethodId) (p0 : Int32) : entryFrame m #[(.int p0)] 1 = mkF m 0 #[.val (.int p0)] [] := by first | (simp [entryFrame, mkF, argsToLocals, Value.category]; done) | rfl
def fn_c0 (p0 : Int32) : Int32 := (((p0.toUInt32 >>> ((2 : Int32) &&& 31).toUInt32).toInt32) &&& (255 : Int32))
def Q_c0 (Z : State) (p0 : Int32) (h0 : Heap) (n0 : Nat) (v : Option Value) (h : Heap) (L : List Loc) : Prop := v = some (.int (fn_c0 p0)) ∧ Fr n0 L ∧ h = h0
set_option maxRecDepth 65536 in
set_option maxHeartbeats 40000000 in
theorem rm_c0 (l : Launch) (Z : State) (a0 : Array Value) (hw : ∀ d ∈ tables_1, d.before a0 Z = true) (ws : List Jvm.Cond) (p0 : Int32) (h0 : Heap) (n0 : Nat) (Z0 : n0 ≤ h0.size) :
    MetFree l (⟨"com/example/cartulary/cartulary/store/SettingsReadsSameListAsPinLaw", "c0", "(I)I"⟩ : MethodName) (head1 (Jvm.Cond.code (⟨"com/example/cartulary/cartulary/store/SettingsReadsSameListAsPinLaw", "c0", "(I)I"⟩ : MethodName) method_3_code 1 (some .int) :: ws) ({ frames := 0, cells := 0, slots := 0, locals := 0 } : Room)) (fun a U => a = #[(.int p0)] ∧ Z.Warmed39 U.vm ∧ U.heap = h0) (fun _ _ _ _ _ => True) (fun _ U o U' => ∃ v L, o = .returned v ∧ Q_c0 Z p0 h0 n0 v U'.heap L ∧ FrameEnd U o U' L ({ frames := 0, cells := 0, slots := 0, locals := 0 } : Room).cells ({ frames := 0, cells := 0, slots := 0, locals := 0 } : Room).slots) := by
  refine MetFree.of_bodySF (plainFor_of_name own_pn0) hisR ?_
  intro p e s m args below meth c s₁ Bd hml0 hP hK
  obtain ⟨rfl, hZ, hh⟩ := hP
  have hx := Bd.exec
  have hby := Bd.bytes
  have hml : c.maxLocals = 1 := hml0
  have hown : s.vm.findClass "com/example/cartulary/cartulary/store/SettingsReadsSameListAsPinLaw" = some m.cls := findClass_of_methodNamed Bd.named
  have hnm := (name_of_methodNamed Bd.named Bd.method).1
  have X0 : Stand p l e ({ frames := 0, cells := 0, slots := 0, locals := 0 } : Room) s m #[(.int p0)] below meth c s₁ [] 0 0 := Stand.of_body Bd
  have e0 : s₁.heap = h0 := by rw [← hh, Bd.state]; rfl
  have N0 := Fr.nil n0
  have pre0 : ∀ t, Steps p.tables e below (s₁.setTop (mkF m 0 #[.val (.int p0)] [])) t → Steps p.tables e below (s₁.setTop (entryFrame m #[(.int p0)] 1)) t := fun t k => castTop (ef_c0 m p0) k
  have hv : fn_c0 p0 = (((p0.toUInt32 >>> ((2 : Int32) &&& 31).toUInt32).toInt32) &&& (255 : Int32)) := by simp only [fn_c0]
  obtain ⟨fs, hr, hrun, hended, hW, hsame⟩ := X0.leave (v := some (.int (((p0.toUInt32 >>> ((2 : Int32) &&& 31).toUInt32).toInt32) &&& (255 : Int32)))) (fun h => by rw [Bd.returns] at h; cases h)
  refine ⟨_, _, pre0 _ ?_, hrun, hended, _, _, rfl, ?_, ⟨_, rfl⟩, hW, hsame.mono (by decide) (by decide)⟩
  · show Steps p.tables e below (s₁.setTop (mkF m 0 #[.val (.int p0)] [])) _
    refine XS.iloadN X0.here hx rfl (hb hby own_d6_0) rfl ?_
    show Steps p.tables e below (s₁.setTop (mkF m 1 #[.val (.int p0)] [(.int p0)])) _
    refine XS.iconst X0.here hx rfl (hb hby own_d6_1) ?_
    show Steps p.tables e below (s₁.setTop (mkF m 2 #[.val (.int p0)] [(.int (2 : Int32)), (.int p0)])) _
    refine XS.iushr X0.here hx rfl (hb hby own_d6_2) rfl ?_
    show Steps p.tables e below (s₁.setTop (mkF m 3 #[.val (.int p0)] [(.int ((p0.toUInt32 >>> ((2 : Int32) &&& 31).toUInt32).toInt32))])) _
    refine XS.sipush X0.here hx rfl (hb hby own_d6_3) ?_
    show Steps p.tables e below (s₁.setTop (mkF m 6 #[.val (.int p0)] [(.int (255 : Int32)), (.int ((p0.toUInt32 >>> ((2 : Int32) &&& 31).toUInt32).toInt32))])) _
    refine XS.iand X0.here hx rfl (hb hby own_d6_6) rfl ?_
    show Steps p.tables e below (s₁.setTop (mkF m 7 #[.val (.int p0)] [(.int (((p0.toUInt32 >>> ((2 : Int32) &&& 31).toUInt32).toInt32) &&& (255 : Int32)))])) _
    exact retI X0 hx Bd.returns (hb hby own_d6_7) hr
  · show Q_c0 Z p0 h0 n0 _ s₁.heap _
    rw [e0]
    exact ⟨by rw [hv], N0, rfl⟩
theorem own_d7_0 : decode method_4_code 0 = .ok (.iload_n 0, 1) := by decide +kernel
theorem own_d7_1 : decode method_4_code 1 = .ok (.bipush 10, 2) := by decide +kernel
theorem own_d7_3 : decode method_4_code 3 = .ok (.iushr, 1) := by decide +kernel
theorem own_d7_4 : decode method_4_code 4 = .ok (.sipush 255, 3) := by decide +kernel
theorem own_d7_7 : decode method_4_code 7 = .ok (.iand, 1) := by decide +kernel
theorem own_d7_8 : decode method_4_code 8 = .ok (.ireturn, 1) := by decide +kernel
theorem ef_c1 (m : MethodId) (p0 : Int32) : entryFrame m #[(.int p0)] 1 = mkF m 0 #[.val (.int p0)] [] := by first | (simp [entryFrame, mkF, argsToLocals, Value.category]; done) | rfl
def fn_c1 (p0 : Int32) : Int32 := (((p0.toUInt32 >>> ((10 : Int32) &&& 31).toUInt32).toInt32) &&& (255 : Int32))
def Q_c1 (Z : State) (p0 : Int32) (h0 : Heap) (n0 : Nat) (v : Option Value) (h : Heap) (L : List Loc) : Prop := v = some (.int (fn_c1 p0)) ∧ Fr n0 L ∧ h = h0
set_option maxRecDepth 65536 in
set_option maxHeartbeats 40000000 in
theorem rm_c1 (l : Launch) (Z : State) (a0 : Array Value) (hw : ∀ d ∈ tables_1, d.before a0 Z = true) (ws : List Jvm.Cond) (p0 : Int32) (h0 : Heap) (n0 : Nat) (Z0 : n0 ≤ h0.size) :
    MetFree l (⟨"com/example/cartulary/cartulary/store/SettingsReadsSameListAsPinLaw", "c1", "(I)I"⟩ : MethodName) (head1 (Jvm.Cond.code (⟨"com/example/cartulary/cartulary/store/SettingsReadsSameListAsPinLaw", "c1", "(I)I"⟩ : MethodName) method_4_code 1 (some .int) :: ws) ({ frames := 0, cells := 0, slots := 0, locals := 0 } : Room)) (fun a U => a = #[(.int p0)] ∧ Z.Warmed39 U.vm ∧ U.heap = h0) (fun _ _ _ _ _ => True) (fun _ U o U' => ∃ v L, o = .returned v ∧ Q_c1 Z p0 h0 n0 v U'.heap L ∧ FrameEnd U o U' L ({ frames := 0, cells := 0, slots := 0, locals := 0 } : Room).cells ({ frames := 0, cells := 0, slots := 0, locals := 0 } : Room).slots) := by
  refine MetFree.of_bodySF (plainFor_of_name own_pn0) hisR ?_
  intro p e s m args below meth c s₁ Bd hml0 hP hK
  obtain ⟨rfl, hZ, hh⟩ := hP
  have hx := Bd.exec
  have hby := Bd.bytes
  have hml : c.maxLocals = 1 := hml0
  have hown : s.vm.findClass "com/example/cartulary/cartulary/store/SettingsReadsSameListAsPinLaw" = some m.cls := findClass_of_methodNamed Bd.named
  have hnm := (name_of_methodNamed Bd.named Bd.method).1
  have X0 : Stand p l e ({ frames := 0, cells := 0, slots := 0, locals := 0 } : Room) s m #[(.int p0)] below meth c s₁ [] 0 0 := Stand.of_body Bd
  have e0 : s₁.heap = h0 := by rw [← hh, Bd.state]; rfl
  have N0 := Fr.nil n0
  have pre0 : ∀ t, Steps p.tables e below (s₁.setTop (mkF m 0 #[.val (.int p0)] [])) t → Steps p.tables e below (s₁.setTop (entryFrame m #[(.int p0)] 1)) t := fun t k => castTop (ef_c1 m p0) k
  have hv : fn_c1 p0 = (((p0.toUInt32 >>> ((10 : Int32) &&& 31).toUInt32).toInt32) &&& (255 : Int32)) := by simp only [fn_c1]
  obtain ⟨fs, hr, hrun, hended, hW, hsame⟩ := X0.leave (v := some (.int (((p0.toUInt32 >>> ((10 : Int32) &&& 31).toUInt32).toInt32) &&& (255 : Int32)))) (fun h => by rw [Bd.returns] at h; cases h)
  refine ⟨_, _, pre0 _ ?_, hrun, hended, _, _, rfl, ?_, ⟨_, rfl⟩, hW, hsame.mono (by decide) (by decide)⟩
  · show Steps p.tables e below (s₁.setTop (mkF m 0 #[.val (.int p0)] [])) _
    refine XS.iloadN X0.here hx rfl (hb hby own_d7_0) rfl ?_
    show Steps p.tables e below (s₁.setTop (mkF m 1 #[.val (.int p0)] [(.int p0)])) _
    refine XS.bipush X0.here hx rfl (hb hby own_d7_1) ?_
    show Steps p.tables e below (s₁.setTop (mkF m 3 #[.val (.int p0)] [(.int (10 : Int32)), (.int p0)])) _
    refine XS.iushr X0.here hx rfl (hb hby own_d7_3) rfl ?_
    show Steps p.tables e below (s₁.setTop (mkF m 4 #[.val (.int p0)] [(.int ((p0.toUInt32 >>> ((10 : Int32) &&& 31).toUInt32).toInt32))])) _
    refine XS.sipush X0.here hx rfl (hb hby own_d7_4) ?_
    show Steps p.tables e below (s₁.setTop (mkF m 7 #[.val (.int p0)] [(.int (255 : Int32)), (.int ((p0.toUInt32 >>> ((10 : Int32) &&& 31).toUInt32).toInt32))])) _
    refine XS.iand X0.here hx rfl (hb hby own_d7_7) rfl ?_
    show Steps p.tables e below (s₁.setTop (mkF m 8 #[.val (.int p0)] [(.int (((p0.toUInt32 >>> ((10 : Int32) &&& 31).toUInt32).toInt32) &&& (255 : Int32)))])) _
    exact retI X0 hx Bd.returns (hb hby own_d7_8) hr
  · show Q_c1 Z p0 h0 n0 _ s₁.heap _
    rw [e0]
    exact ⟨by rw [hv], N0, rfl⟩
theorem own_d15_0 : decode method_6_code 0 = .ok (.iload_n 0, 1) := by decide +kernel
theorem own_d15_1 : decode method_6_code 1 = .ok (.invokestatic 7, 3) := by decide +kernel
theorem own_pd1 : parseMethodDescriptor "(I)I" = some ⟨[.int], some .int⟩ := by decide +kernel
theorem own_d15_4 : decode method_6_code 4 = .ok (.istore_n 2, 1) := by decide +kernel
theorem own_d15_5 : decode method_6_code 5 = .ok (.iload_n 2, 1) := by decide +kernel
theorem own_d15_6 : decode method_6_code 6 = .ok (.iload_n 1, 1) := by decide +kernel
theorem own_d15_7 : decode method_6_code 7 = .ok (.invokestatic 7, 3) := by decide +kernel
theorem own_d15_10 : decode method_6_code 10 = .ok (.if_icmp .eq 5, 3) := by decide +kernel
theorem own_d15_15 : decode method_6_code 15 = .ok (.iload_n 2, 1) := by decide +kernel
theorem own_d15_16 : decode method_6_code 16 = .ok (.iconst 1, 1) := by decide +kernel
theorem own_d15_17 : decode method_6_code 17 = .ok (.if_icmp .lt 16, 3) := by decide +kernel
theorem own_d15_33 : decode method_6_code 33 = .ok (.iload_n 2, 1) := by decide +kernel
theorem own_d15_34 : decode method_6_code 34 = .ok (.iconst 2, 1) := by decide +kernel
theorem own_d15_35 : decode method_6_code 35 = .ok (.if_icmp .lt 16, 3) := by decide +kernel
theorem own_d15_51 : decode method_6_code 51 = .ok (.iconst 1, 1) := by decide +kernel
theorem own_d15_52 : decode method_6_code 52 = .ok (.ireturn, 1) := by decide +kernel
theorem own_d15_38 : decode method_6_code 38 = .ok (.iload_n 0, 1) := by decide +kernel
theorem own_d15_39 : decode method_6_code 39 = .ok (.invokestatic 25, 3) := by decide +kernel
theorem own_d15_42 : decode method_6_code 42 = .ok (.iload_n 1, 1) := by decide +kernel
theorem own_d15_43 : decode method_6_code 43 = .ok (.invokestatic 25, 3) := by decide +kernel
theorem own_d15_46 : decode method_6_code 46 = .ok (.if_icmp .eq 5, 3) := by decide +kernel
theorem own_d15_49 : decode method_6_code 49 = .ok (.iconst 0, 1) := by decide +kernel
theorem own_d15_50 : decode method_6_code 50 = .ok (.ireturn, 1) := by decide +kernel
theorem own_d15_20 : decode method_6_code 20 = .ok (.iload_n 0, 1) := by decide +kernel
theorem own_d15_21 : decode method_6_code 21 = .ok (.invokestatic 18, 3) := by decide +kernel
theorem own_d15_24 : decode method_6_code 24 = .ok (.iload_n 1, 1) := by decide +kernel
theorem own_d15_25 : decode method_6_code 25 = .ok (.invokestatic 18, 3) := by decide +kernel
theorem own_d15_28 : decode method_6_code 28 = .ok (.if_icmp .eq 5, 3) := by decide +kernel
theorem own_d15_31 : decode method_6_code 31 = .ok (.iconst 0, 1) := by decide +kernel
theorem own_d15_32 : decode method_6_code 32 = .ok (.ireturn, 1) := by decide +kernel
theorem own_d15_13 : decode method_6_code 13 = .ok (.iconst 0, 1) := by decide +kernel
theorem own_d15_14 : decode method_6_code 14 = .ok (.ireturn, 1) := by decide +kernel
theorem ef_same (m : MethodId) (p0 : Int32) (p1 : Int32) : entryFrame m #[(.int p0), (.int p1)] 3 = mkF m 0 #[.val (.int p0), .val (.int p1), .unset] [] := by first | (simp [entryFrame, mkF, argsToLocals, Value.category]; done) | rfl
def fn_same (p0 : Int32) (p1 : Int32) : Int32 := (if (fn_len p0) = (fn_len p1) then (if (fn_len p0) < (1 : Int32) then (if (fn_len p0) < (2 : Int32) then (1 : Int32) else (if (fn_c1 p0) = (fn_c1 p1) then (1 : Int32) else (0 : Int32))) else (if (fn_c0 p0) = (fn_c0 p1) then (if (fn_len p0) < (2 : Int32) then (1 : Int32) else (if (fn_c1 p0) = (fn_c1 p1) then (1 : Int32) else (0 : Int32))) else (0 : Int32))) else (0 : Int32))
def Q_same (Z : State) (p0 : Int32) (p1 : Int32) (h0 : Heap) (n0 : Nat) (v : Option Value) (h : Heap) (L : List Loc) : Prop := v = some (.int (fn_same p0 p1)) ∧ Fr n0 L ∧ h = h0
set_option maxRecDepth 65536 in
set_option maxHeartbeats 40000000 in
theorem rm_same (l : Launch) (Z : State) (a0 : Array Value) (hw : ∀ d ∈ tables_1, d.before a0 Z = true) (ws : List Jvm.Cond) (p0 : Int32) (p1 : Int32) (h0 : Heap) (n0 : Nat) (Z0 : n0 ≤ h0.size) :
    MetFree l (⟨"com/example/cartulary/cartulary/store/SettingsReadsSameListAsPinLaw", "same", "(II)Z"⟩ : MethodName) (head1 (Jvm.Cond.code (⟨"com/example/cartulary/cartulary/store/SettingsReadsSameListAsPinLaw", "same", "(II)Z"⟩ : MethodName) method_6_code 3 (some .boolean) :: ws) ({ frames := 1, cells := 0, slots := 0, locals := 13 } : Room)) (fun a U => a = #[(.int p0), (.int p1)] ∧ Z.Warmed39 U.vm ∧ U.heap = h0) (fun _ _ _ _ _ => True) (fun _ U o U' => ∃ v L, o = .returned v ∧ Q_same Z p0 p1 h0 n0 v U'.heap L ∧ FrameEnd U o U' L ({ frames := 1, cells := 0, slots := 0, locals := 13 } : Room).cells ({ frames := 1, cells := 0, slots := 0, locals := 13 } : Room).slots) := by
  refine MetFree.of_bodySF (plainFor_of_name own_pn0) hisR ?_
  intro p e s m args below meth c s₁ Bd hml0 hP hK
  obtain ⟨rfl, hZ, hh⟩ := hP
  have hx := Bd.exec
  have hby := Bd.bytes
  have hml : c.maxLocals = 3 := hml0
  have hown : s.vm.findClass "com/example/cartulary/cartulary/store/SettingsReadsSameListAsPinLaw" = some m.cls := findClass_of_methodNamed Bd.named
  have hnm := (name_of_methodNamed Bd.named Bd.method).1
  have X0 : Stand p l e ({ frames := 1, cells := 0, slots := 0, locals := 13 } : Room) s m #[(.int p0), (.int p1)] below meth c s₁ [] 0 0 := Stand.of_body Bd
  have e0 : s₁.heap = h0 := by rw [← hh, Bd.state]; rfl
  have N0 := Fr.nil n0
  have pre0 : ∀ t, Steps p.tables e below (s₁.setTop (mkF m 0 #[.val (.int p0), .val (.int p1), .unset] [])) t → Steps p.tables e below (s₁.setTop (entryFrame m #[(.int p0), (.int p1)] 3)) t := fun t k => castTop (ef_same m p0 p1) k
  obtain ⟨_, _, ⟨T1, L1, k1, n1⟩, -, X1, ⟨Lc1, hQ1, l1, y1, z1⟩, st1⟩ := Jvm.LawKit.callS X0 hx (y := (⟨"com/example/cartulary/cartulary/store/SettingsReadsSameListAsPinLaw", "len", "(I)I"⟩ : MethodName)) hown (mvT hZ (hw _ (List.mem_of_getElem? (i := 4) rfl))) (mvT hZ (hw _ (List.mem_of_getElem? (i := 5) rfl))) (mvT hZ (hw _ (List.mem_of_getElem? (i := 2) rfl))) (mvT hZ (hw _ (List.mem_of_getElem? (i := 6) rfl))) (by decide) (backOf (W := 0) (rm_len l Z a0 hw [] p0 h0 n0 Z0) hZ (hw _ (List.mem_of_getElem? (i := 6) rfl)) (hw _ (List.mem_of_getElem? (i := 2) rfl)) (by decide) (by decide)) (g := (mkF m 1 #[.val (.int p0), .val (.int p1), .unset] [(.int p0)])) rfl (by rw [hml]; rfl) (argsL := [(.int p0)]) (rest := []) (lenOf own_pd1 rfl) rfl (by show 2 * 0 + _ ≤ _; exact Nat.le_of_eq rfl) (hb hby own_d15_1) (fun _ _ => ⟨rfl, e0, (by decide : 0 + 0 ≤ _), (by decide : 0 + 0 ≤ _)⟩)
  dsimp only [Pt.U, Pt.locs, Pt.cells, Pt.slots] at X1 l1 y1 z1 st1 hQ1
  subst l1 y1 z1
  obtain ⟨rfl, N1q, e1⟩ := hQ1
  have N1 := Fr.app N0 N1q
  obtain ⟨_, _, ⟨T2, L2, k2, n2⟩, -, X2, ⟨Lc2, hQ2, l2, y2, z2⟩, st2⟩ := Jvm.LawKit.callS X1 hx (y := (⟨"com/example/cartulary/cartulary/store/SettingsReadsSameListAsPinLaw", "len", "(I)I"⟩ : MethodName)) hown (mvT hZ (hw _ (List.mem_of_getElem? (i := 4) rfl))) (mvT hZ (hw _ (List.mem_of_getElem? (i := 5) rfl))) (mvT hZ (hw _ (List.mem_of_getElem? (i := 2) rfl))) (mvT hZ (hw _ (List.mem_of_getElem? (i := 6) rfl))) (by decide) (backOf (W := 1) (rm_len l Z a0 hw [] p1 h0 n0 Z0) hZ (hw _ (List.mem_of_getElem? (i := 6) rfl)) (hw _ (List.mem_of_getElem? (i := 2) rfl)) (by decide) (by decide)) (g := (mkF m 7 #[.val (.int p0), .val (.int p1), .val (.int (fn_len p0))] [(.int p1), (.int (fn_len p0))])) rfl (by rw [hml]; rfl) (argsL := [(.int p1)]) (rest := [(.int (fn_len p0))]) (lenOf own_pd1 rfl) rfl (by show 2 * 0 + _ ≤ _; exact Nat.le_of_eq rfl) (hb hby own_d15_7) (fun _ _ => ⟨rfl, e1, (by decide : 0 + 0 ≤ _), (by decide : 0 + 0 ≤ _)⟩)
  dsimp only [Pt.U, Pt.locs, Pt.cells, Pt.slots] at X2 l2 y2 z2 st2 hQ2
  subst l2 y2 z2
  obtain ⟨rfl, N2q, e2⟩ := hQ2
  have N2 := Fr.app N1 N2q
  have pre4 : ∀ t, Steps p.tables e below (T2.setTop (mkF m 10 #[.val (.int p0), .val (.int p1), .val (.int (fn_len p0))] [(.int (fn_len p1)), (.int (fn_len p0))])) t → Steps p.tables e below (s₁.setTop (entryFrame m #[(.int p0), (.int p1)] 3)) t := fun t k => pre0 t (by
    show Steps p.tables e below (s₁.setTop (mkF m 0 #[.val (.int p0), .val (.int p1), .unset] [])) t
    refine XS.iloadN X0.here hx rfl (hb hby own_d15_0) rfl ?_
    show Steps p.tables e below (s₁.setTop (mkF m 1 #[.val (.int p0), .val (.int p1), .unset] [(.int p0)])) t
    refine st1 _ ?_
    show Steps p.tables e below (T1.setTop (mkF m 4 #[.val (.int p0), .val (.int p1), .unset] [(.int (fn_len p0))])) t
    refine XS.istoreN X1.here hx rfl (hb hby own_d15_4) rfl (l' := #[.val (.int p0), .val (.int p1), .val (.int (fn_len p0))]) rfl ?_
    show Steps p.tables e below (T1.setTop (mkF m 5 #[.val (.int p0), .val (.int p1), .val (.int (fn_len p0))] [])) t
    refine XS.iloadN X1.here hx rfl (hb hby own_d15_5) rfl ?_
    show Steps p.tables e below (T1.setTop (mkF m 6 #[.val (.int p0), .val (.int p1), .val (.int (fn_len p0))] [(.int (fn_len p0))])) t
    refine XS.iloadN X1.here hx rfl (hb hby own_d15_6) rfl ?_
    show Steps p.tables e below (T1.setTop (mkF m 7 #[.val (.int p0), .val (.int p1), .val (.int (fn_len p0))] [(.int p1), (.int (fn_len p0))])) t
    refine st2 _ ?_
    exact k)
  by_cases hc3 : (fn_len p0) = (fn_len p1)
  · have pre6 : ∀ t, Steps p.tables e below (T2.setTop (mkF m 17 #[.val (.int p0), .val (.int p1), .val (.int (fn_len p0))] [(.int (1 : Int32)), (.int (fn_len p0))])) t → Steps p.tables e below (s₁.setTop (entryFrame m #[(.int p0), (.int p1)] 3)) t := fun t k => pre4 t (by
      show Steps p.tables e below (T2.setTop (mkF m 10 #[.val (.int p0), .val (.int p1), .val (.int (fn_len p0))] [(.int (fn_len p1)), (.int (fn_len p0))])) t
      refine XS.icmpYes X2.here hx rfl (pc0 := 10) (pc' := 15) rfl (hb hby own_d15_10) rfl (teq hc3).1 (by decide) (by decide) ?_
      show Steps p.tables e below (T2.setTop (mkF m 15 #[.val (.int p0), .val (.int p1), .val (.int (fn_len p0))] [])) t
      refine XS.iloadN X2.here hx rfl (hb hby own_d15_15) rfl ?_
      show Steps p.tables e below (T2.setTop (mkF m 16 #[.val (.int p0), .val (.int p1), .val (.int (fn_len p0))] [(.int (fn_len p0))])) t
      refine XS.iconst X2.here hx rfl (hb hby own_d15_16) ?_
      exact k)
    by_cases hc5 : (fn_len p0) < (1 : Int32)
    · have pre8 : ∀ t, Steps p.tables e below (T2.setTop (mkF m 35 #[.val (.int p0), .val (.int p1), .val (.int (fn_len p0))] [(.int (2 : Int32)), (.int (fn_len p0))])) t → Steps p.tables e below (s₁.setTop (entryFrame m #[(.int p0), (.int p1)] 3)) t := fun t k => pre6 t (by
        show Steps p.tables e below (T2.setTop (mkF m 17 #[.val (.int p0), .val (.int p1), .val (.int (fn_len p0))] [(.int (1 : Int32)), (.int (fn_len p0))])) t
        refine XS.icmpYes X2.here hx rfl (pc0 := 17) (pc' := 33) rfl (hb hby own_d15_17) rfl (tlt hc5).1 (by decide) (by decide) ?_
        show Steps p.tables e below (T2.setTop (mkF m 33 #[.val (.int p0), .val (.int p1), .val (.int (fn_len p0))] [])) t
        refine XS.iloadN X2.here hx rfl (hb hby own_d15_33) rfl ?_
        show Steps p.tables e below (T2.setTop (mkF m 34 #[.val (.int p0), .val (.int p1), .val (.int (fn_len p0))] [(.int (fn_len p0))])) t
        refine XS.iconst X2.here hx rfl (hb hby own_d15_34) ?_
        exact k)
      by_cases hc7 : (fn_len p0) < (2 : Int32)
      · have hv : fn_same p0 p1 = (1 : Int32) := by simp only [fn_same, if_pos hc3, if_pos hc5, if_pos hc7]
        obtain ⟨fs, hr, hrun, hended, hW, hsame⟩ := X2.leave (v := some (.int (1 : Int32))) (fun h => by rw [Bd.returns] at h; cases h)
        refine ⟨_, _, pre8 _ ?_, hrun, hended, _, _, rfl, ?_, ⟨_, rfl⟩, hW, hsame.mono (by decide) (by decide)⟩
        · show Steps p.tables e below (T2.setTop (mkF m 35 #[.val (.int p0), .val (.int p1), .val (.int (fn_len p0))] [(.int (2 : Int32)), (.int (fn_len p0))])) _
          refine XS.icmpYes X2.here hx rfl (pc0 := 35) (pc' := 51) rfl (hb hby own_d15_35) rfl (tlt hc7).1 (by decide) (by decide) ?_
          show Steps p.tables e below (T2.setTop (mkF m 51 #[.val (.int p0), .val (.int p1), .val (.int (fn_len p0))] [])) _
          refine XS.iconst X2.here hx rfl (hb hby own_d15_51) ?_
          show Steps p.tables e below (T2.setTop (mkF m 52 #[.val (.int p0), .val (.int p1), .val (.int (fn_len p0))] [(.int (1 : Int32))])) _
          exact retN X2 hx (t := .boolean) Bd.returns (by simp) (hb hby own_d15_52) hr
        · show Q_same Z p0 p1 h0 n0 _ T2.heap _
          rw [e2]
          exact ⟨by rw [hv], N2, rfl⟩
      · obtain ⟨_, _, ⟨T9, L9, k9, n9⟩, -, X9, ⟨Lc9, hQ9, l9, y9, z9⟩, st9⟩ := Jvm.LawKit.callS X2 hx (y := (⟨"com/example/cartulary/cartulary/store/SettingsReadsSameListAsPinLaw", "c1", "(I)I"⟩ : MethodName)) hown (mvT hZ (hw _ (List.mem_of_getElem? (i := 32) rfl))) (mvT hZ (hw _ (List.mem_of_getElem? (i := 33) rfl))) (mvT hZ (hw _ (List.mem_of_getElem? (i := 2) rfl))) (mvT hZ (hw _ (List.mem_of_getElem? (i := 34) rfl))) (by decide) (backOf (W := 0) (rm_c1 l Z a0 hw [] p0 h0 n0 Z0) hZ (hw _ (List.mem_of_getElem? (i := 34) rfl)) (hw _ (List.mem_of_getElem? (i := 2) rfl)) (by decide) (by decide)) (g := (mkF m 39 #[.val (.int p0), .val (.int p1), .val (.int (fn_len p0))] [(.int p0)])) rfl (by rw [hml]; rfl) (argsL := [(.int p0)]) (rest := []) (lenOf own_pd1 rfl) rfl (by show 2 * 0 + _ ≤ _; exact Nat.le_of_eq rfl) (hb hby own_d15_39) (fun _ _ => ⟨rfl, e2, (by decide : 0 + 0 ≤ _), (by decide : 0 + 0 ≤ _)⟩)
        dsimp only [Pt.U, Pt.locs, Pt.cells, Pt.slots] at X9 l9 y9 z9 st9 hQ9
        subst l9 y9 z9
        obtain ⟨rfl, N9q, e9⟩ := hQ9
        have N9 := Fr.app N2 N9q
        obtain ⟨_, _, ⟨T10, L10, k10, n10⟩, -, X10, ⟨Lc10, hQ10, l10, y10, z10⟩, st10⟩ := Jvm.LawKit.callS X9 hx (y := (⟨"com/example/cartulary/cartulary/store/SettingsReadsSameListAsPinLaw", "c1", "(I)I"⟩ : MethodName)) hown (mvT hZ (hw _ (List.mem_of_getElem? (i := 32) rfl))) (mvT hZ (hw _ (List.mem_of_getElem? (i := 33) rfl))) (mvT hZ (hw _ (List.mem_of_getElem? (i := 2) rfl))) (mvT hZ (hw _ (List.mem_of_getElem? (i := 34) rfl))) (by decide) (backOf (W := 1) (rm_c1 l Z a0 hw [] p1 h0 n0 Z0) hZ (hw _ (List.mem_of_getElem? (i := 34) rfl)) (hw _ (List.mem_of_getElem? (i := 2) rfl)) (by decide) (by decide)) (g := (mkF m 43 #[.val (.int p0), .val (.int p1), .val (.int (fn_len p0))] [(.int p1), (.int (fn_c1 p0))])) rfl (by rw [hml]; rfl) (argsL := [(.int p1)]) (rest := [(.int (fn_c1 p0))]) (lenOf own_pd1 rfl) rfl (by show 2 * 0 + _ ≤ _; exact Nat.le_of_eq rfl) (hb hby own_d15_43) (fun _ _ => ⟨rfl, e9, (by decide : 0 + 0 ≤ _), (by decide : 0 + 0 ≤ _)⟩)
        dsimp only [Pt.U, Pt.locs, Pt.cells, Pt.slots] at X10 l10 y10 z10 st10 hQ10
        subst l10 y10 z10
        obtain ⟨rfl, N10q, e10⟩ := hQ10
        have N10 := Fr.app N9 N10q
        have pre12 : ∀ t, Steps p.tables e below (T10.setTop (mkF m 46 #[.val (.int p0), .val (.int p1), .val (.int (fn_len p0))] [(.int (fn_c1 p1)), (.int (fn_c1 p0))])) t → Steps p.tables e below (s₁.setTop (entryFrame m #[(.int p0), (.int p1)] 3)) t := fun t k => pre8 t (by
          show Steps p.tables e below (T2.setTop (mkF m 35 #[.val (.int p0), .val (.int p1), .val (.int (fn_len p0))] [(.int (2 : Int32)), (.int (fn_len p0))])) t
          refine XS.icmpNo X2.here hx rfl (hb hby own_d15_35) rfl (flt hc7).1 ?_
          show Steps p.tables e below (T2.setTop (mkF m 38 #[.val (.int p0), .val (.int p1), .val (.int (fn_len p0))] [])) t
          refine XS.iloadN X2.here hx rfl (hb hby own_d15_38) rfl ?_
          show Steps p.tables e below (T2.setTop (mkF m 39 #[.val (.int p0), .val (.int p1), .val (.int (fn_len p0))] [(.int p0)])) t
          refine st9 _ ?_
          show Steps p.tables e below (T9.setTop (mkF m 42 #[.val (.int p0), .val (.int p1), .val (.int (fn_len p0))] [(.int (fn_c1 p0))])) t
          refine XS.iloadN X9.here hx rfl (hb hby own_d15_42) rfl ?_
          show Steps p.tables e below (T9.setTop (mkF m 43 #[.val (.int p0), .val (.int p1), .val (.int (fn_len p0))] [(.int p1), (.int (fn_c1 p0))])) t
          refine st10 _ ?_
          exact k)
        by_cases hc11 : (fn_c1 p0) = (fn_c1 p1)
        · have hv : fn_same p0 p1 = (1 : Int32) := by simp only [fn_same, if_pos hc3, if_pos hc5, if_neg hc7, if_pos hc11]
          obtain ⟨fs, hr, hrun, hended, hW, hsame⟩ := X10.leave (v := some (.int (1 : Int32))) (fun h => by rw [Bd.returns] at h; cases h)
          refine ⟨_, _, pre12 _ ?_, hrun, hended, _, _, rfl, ?_, ⟨_, rfl⟩, hW, hsame.mono (by decide) (by decide)⟩
          · show Steps p.tables e below (T10.setTop (mkF m 46 #[.val (.int p0), .val (.int p1), .val (.int (fn_len p0))] [(.int (fn_c1 p1)), (.int (fn_c1 p0))])) _
            refine XS.icmpYes X10.here hx rfl (pc0 := 46) (pc' := 51) rfl (hb hby own_d15_46) rfl (teq hc11).1 (by decide) (by decide) ?_
            show Steps p.tables e below (T10.setTop (mkF m 51 #[.val (.int p0), .val (.int p1), .val (.int (fn_len p0))] [])) _
            refine XS.iconst X10.here hx rfl (hb hby own_d15_51) ?_
            show Steps p.tables e below (T10.setTop (mkF m 52 #[.val (.int p0), .val (.int p1), .val (.int (fn_len p0))] [(.int (1 : Int32))])) _
            exact retN X10 hx (t := .boolean) Bd.returns (by simp) (hb hby own_d15_52) hr
          · show Q_same Z p0 p1 h0 n0 _ T10.heap _
            rw [e10]
            exact ⟨by rw [hv], N10, rfl⟩
        · have hv : fn_same p0 p1 = (0 : Int32) := by simp only [fn_same, if_pos hc3, if_pos hc5, if_neg hc7, if_neg hc11]
          obtain ⟨fs, hr, hrun, hended, hW, hsame⟩ := X10.leave (v := some (.int (0 : Int32))) (fun h => by rw [Bd.returns] at h; cases h)
          refine ⟨_, _, pre12 _ ?_, hrun, hended, _, _, rfl, ?_, ⟨_, rfl⟩, hW, hsame.mono (by decide) (by decide)⟩
          · show Steps p.tables e below (T10.setTop (mkF m 46 #[.val (.int p0), .val (.int p1), .val (.int (fn_len p0))] [(.int (fn_c1 p1)), (.int (fn_c1 p0))])) _
            refine XS.icmpNo X10.here hx rfl (hb hby own_d15_46) rfl (feq hc11).1 ?_
            show Steps p.tables e below (T10.setTop (mkF m 49 #[.val (.int p0), .val (.int p1), .val (.int (fn_len p0))] [])) _
            refine XS.iconst X10.here hx rfl (hb hby own_d15_49) ?_
            show Steps p.tables e below (T10.setTop (mkF m 50 #[.val (.int p0), .val (.int p1), .val (.int (fn_len p0))] [(.int (0 : Int32))])) _
            exact retN X10 hx (t := .boolean) Bd.returns (by simp) (hb hby own_d15_50) hr
          · show Q_same Z p0 p1 h0 n0 _ T10.heap _
            rw [e10]
            exact ⟨by rw [hv], N10, rfl⟩
    · obtain ⟨_, _, ⟨T13, L13, k13, n13⟩, -, X13, ⟨Lc13, hQ13, l13, y13, z13⟩, st13⟩ := Jvm.LawKit.callS X2 hx (y := (⟨"com/example/cartulary/cartulary/store/SettingsReadsSameListAsPinLaw", "c0", "(I)I"⟩ : MethodName)) hown (mvT hZ (hw _ (List.mem_of_getElem? (i := 29) rfl))) (mvT hZ (hw _ (List.mem_of_getElem? (i := 30) rfl))) (mvT hZ (hw _ (List.mem_of_getElem? (i := 2) rfl))) (mvT hZ (hw _ (List.mem_of_getElem? (i := 31) rfl))) (by decide) (backOf (W := 0) (rm_c0 l Z a0 hw [] p0 h0 n0 Z0) hZ (hw _ (List.mem_of_getElem? (i := 31) rfl)) (hw _ (List.mem_of_getElem? (i := 2) rfl)) (by decide) (by decide)) (g := (mkF m 21 #[.val (.int p0), .val (.int p1), .val (.int (fn_len p0))] [(.int p0)])) rfl (by rw [hml]; rfl) (argsL := [(.int p0)]) (rest := []) (lenOf own_pd1 rfl) rfl (by show 2 * 0 + _ ≤ _; exact Nat.le_of_eq rfl) (hb hby own_d15_21) (fun _ _ => ⟨rfl, e2, (by decide : 0 + 0 ≤ _), (by decide : 0 + 0 ≤ _)⟩)
      dsimp only [Pt.U, Pt.locs, Pt.cells, Pt.slots] at X13 l13 y13 z13 st13 hQ13
      subst l13 y13 z13
      obtain ⟨rfl, N13q, e13⟩ := hQ13
      have N13 := Fr.app N2 N13q
      obtain ⟨_, _, ⟨T14, L14, k14, n14⟩, -, X14, ⟨Lc14, hQ14, l14, y14, z14⟩, st14⟩ := Jvm.LawKit.callS X13 hx (y := (⟨"com/example/cartulary/cartulary/store/SettingsReadsSameListAsPinLaw", "c0", "(I)I"⟩ : MethodName)) hown (mvT hZ (hw _ (List.mem_of_getElem? (i := 29) rfl))) (mvT hZ (hw _ (List.mem_of_getElem? (i := 30) rfl))) (mvT hZ (hw _ (List.mem_of_getElem? (i := 2) rfl))) (mvT hZ (hw _ (List.mem_of_getElem? (i := 31) rfl))) (by decide) (backOf (W := 1) (rm_c0 l Z a0 hw [] p1 h0 n0 Z0) hZ (hw _ (List.mem_of_getElem? (i := 31) rfl)) (hw _ (List.mem_of_getElem? (i := 2) rfl)) (by decide) (by decide)) (g := (mkF m 25 #[.val (.int p0), .val (.int p1), .val (.int (fn_len p0))] [(.int p1), (.int (fn_c0 p0))])) rfl (by rw [hml]; rfl) (argsL := [(.int p1)]) (rest := [(.int (fn_c0 p0))]) (lenOf own_pd1 rfl) rfl (by show 2 * 0 + _ ≤ _; exact Nat.le_of_eq rfl) (hb hby own_d15_25) (fun _ _ => ⟨rfl, e13, (by decide : 0 + 0 ≤ _), (by decide : 0 + 0 ≤ _)⟩)
      dsimp only [Pt.U, Pt.locs, Pt.cells, Pt.slots] at X14 l14 y14 z14 st14 hQ14
      subst l14 y14 z14
      obtain ⟨rfl, N14q, e14⟩ := hQ14
      have N14 := Fr.app N13 N14q
      have pre16 : ∀ t, Steps p.tables e below (T14.setTop (mkF m 28 #[.val (.int p0), .val (.int p1), .val (.int (fn_len p0))] [(.int (fn_c0 p1)), (.int (fn_c0 p0))])) t → Steps p.tables e below (s₁.setTop (entryFrame m #[(.int p0), (.int p1)] 3)) t := fun t k => pre6 t (by
        show Steps p.tables e below (T2.setTop (mkF m 17 #[.val (.int p0), .val (.int p1), .val (.int (fn_len p0))] [(.int (1 : Int32)), (.int (fn_len p0))])) t
        refine XS.icmpNo X2.here hx rfl (hb hby own_d15_17) rfl (flt hc5).1 ?_
        show Steps p.tables e below (T2.setTop (mkF m 20 #[.val (.int p0), .val (.int p1), .val (.int (fn_len p0))] [])) t
        refine XS.iloadN X2.here hx rfl (hb hby own_d15_20) rfl ?_
        show Steps p.tables e below (T2.setTop (mkF m 21 #[.val (.int p0), .val (.int p1), .val (.int (fn_len p0))] [(.int p0)])) t
        refine st13 _ ?_
        show Steps p.tables e below (T13.setTop (mkF m 24 #[.val (.int p0), .val (.int p1), .val (.int (fn_len p0))] [(.int (fn_c0 p0))])) t
        refine XS.iloadN X13.here hx rfl (hb hby own_d15_24) rfl ?_
        show Steps p.tables e below (T13.setTop (mkF m 25 #[.val (.int p0), .val (.int p1), .val (.int (fn_len p0))] [(.int p1), (.int (fn_c0 p0))])) t
        refine st14 _ ?_
        exact k)
      by_cases hc15 : (fn_c0 p0) = (fn_c0 p1)
      · have pre18 : ∀ t, Steps p.tables e below (T14.setTop (mkF m 35 #[.val (.int p0), .val (.int p1), .val (.int (fn_len p0))] [(.int (2 : Int32)), (.int (fn_len p0))])) t → Steps p.tables e below (s₁.setTop (entryFrame m #[(.int p0), (.int p1)] 3)) t := fun t k => pre16 t (by
          show Steps p.tables e below (T14.setTop (mkF m 28 #[.val (.int p0), .val (.int p1), .val (.int (fn_len p0))] [(.int (fn_c0 p1)), (.int (fn_c0 p0))])) t
          refine XS.icmpYes X14.here hx rfl (pc0 := 28) (pc' := 33) rfl (hb hby own_d15_28) rfl (teq hc15).1 (by decide) (by decide) ?_
          show Steps p.tables e below (T14.setTop (mkF m 33 #[.val (.int p0), .val (.int p1), .val (.int (fn_len p0))] [])) t
          refine XS.iloadN X14.here hx rfl (hb hby own_d15_33) rfl ?_
          show Steps p.tables e below (T14.setTop (mkF m 34 #[.val (.int p0), .val (.int p1), .val (.int (fn_len p0))] [(.int (fn_len p0))])) t
          refine XS.iconst X14.here hx rfl (hb hby own_d15_34) ?_
          exact k)
        by_cases hc17 : (fn_len p0) < (2 : Int32)
        · have hv : fn_same p0 p1 = (1 : Int32) := by simp only [fn_same, if_pos hc3, if_neg hc5, if_pos hc15, if_pos hc17]
          obtain ⟨fs, hr, hrun, hended, hW, hsame⟩ := X14.leave (v := some (.int (1 : Int32))) (fun h => by rw [Bd.returns] at h; cases h)
          refine ⟨_, _, pre18 _ ?_, hrun, hended, _, _, rfl, ?_, ⟨_, rfl⟩, hW, hsame.mono (by decide) (by decide)⟩
          · show Steps p.tables e below (T14.setTop (mkF m 35 #[.val (.int p0), .val (.int p1), .val (.int (fn_len p0))] [(.int (2 : Int32)), (.int (fn_len p0))])) _
            refine XS.icmpYes X14.here hx rfl (pc0 := 35) (pc' := 51) rfl (hb hby own_d15_35) rfl (tlt hc17).1 (by decide) (by decide) ?_
            show Steps p.tables e below (T14.setTop (mkF m 51 #[.val (.int p0), .val (.int p1), .val (.int (fn_len p0))] [])) _
            refine XS.iconst X14.here hx rfl (hb hby own_d15_51) ?_
            show Steps p.tables e below (T14.setTop (mkF m 52 #[.val (.int p0), .val (.int p1), .val (.int (fn_len p0))] [(.int (1 : Int32))])) _
            exact retN X14 hx (t := .boolean) Bd.returns (by simp) (hb hby own_d15_52) hr
          · show Q_same Z p0 p1 h0 n0 _ T14.heap _
            rw [e14]
            exact ⟨by rw [hv], N14, rfl⟩
        · obtain ⟨_, _, ⟨T19, L19, k19, n19⟩, -, X19, ⟨Lc19, hQ19, l19, y19, z19⟩, st19⟩ := Jvm.LawKit.callS X14 hx (y := (⟨"com/example/cartulary/cartulary/store/SettingsReadsSameListAsPinLaw", "c1", "(I)I"⟩ : MethodName)) hown (mvT hZ (hw _ (List.mem_of_getElem? (i := 32) rfl))) (mvT hZ (hw _ (List.mem_of_getElem? (i := 33) rfl))) (mvT hZ (hw _ (List.mem_of_getElem? (i := 2) rfl))) (mvT hZ (hw _ (List.mem_of_getElem? (i := 34) rfl))) (by decide) (backOf (W := 0) (rm_c1 l Z a0 hw [] p0 h0 n0 Z0) hZ (hw _ (List.mem_of_getElem? (i := 34) rfl)) (hw _ (List.mem_of_getElem? (i := 2) rfl)) (by decide) (by decide)) (g := (mkF m 39 #[.val (.int p0), .val (.int p1), .val (.int (fn_len p0))] [(.int p0)])) rfl (by rw [hml]; rfl) (argsL := [(.int p0)]) (rest := []) (lenOf own_pd1 rfl) rfl (by show 2 * 0 + _ ≤ _; exact Nat.le_of_eq rfl) (hb hby own_d15_39) (fun _ _ => ⟨rfl, e14, (by decide : 0 + 0 ≤ _), (by decide : 0 + 0 ≤ _)⟩)
          dsimp only [Pt.U, Pt.locs, Pt.cells, Pt.slots] at X19 l19 y19 z19 st19 hQ19
          subst l19 y19 z19
          obtain ⟨rfl, N19q, e19⟩ := hQ19
          have N19 := Fr.app N14 N19q
          obtain ⟨_, _, ⟨T20, L20, k20, n20⟩, -, X20, ⟨Lc20, hQ20, l20, y20, z20⟩, st20⟩ := Jvm.LawKit.callS X19 hx (y := (⟨"com/example/cartulary/cartulary/store/SettingsReadsSameListAsPinLaw", "c1", "(I)I"⟩ : MethodName)) hown (mvT hZ (hw _ (List.mem_of_getElem? (i := 32) rfl))) (mvT hZ (hw _ (List.mem_of_getElem? (i := 33) rfl))) (mvT hZ (hw _ (List.mem_of_getElem? (i := 2) rfl))) (mvT hZ (hw _ (List.mem_of_getElem? (i := 34) rfl))) (by decide) (backOf (W := 1) (rm_c1 l Z a0 hw [] p1 h0 n0 Z0) hZ (hw _ (List.mem_of_getElem? (i := 34) rfl)) (hw _ (List.mem_of_getElem? (i := 2) rfl)) (by decide) (by decide)) (g := (mkF m 43 #[.val (.int p0), .val (.int p1), .val (.int (fn_len p0))] [(.int p1), (.int (fn_c1 p0))])) rfl (by rw [hml]; rfl) (argsL := [(.int p1)]) (rest := [(.int (fn_c1 p0))]) (lenOf own_pd1 rfl) rfl (by show 2 * 0 + _ ≤ _; exact Nat.le_of_eq rfl) (hb hby own_d15_43) (fun _ _ => ⟨rfl, e19, (by decide : 0 + 0 ≤ _), (by decide : 0 + 0 ≤ _)⟩)
          dsimp only [Pt.U, Pt.locs, Pt.cells, Pt.slots] at X20 l20 y20 z20 st20 hQ20
          subst l20 y20 z20
          obtain ⟨rfl, N20q, e20⟩ := hQ20
          have N20 := Fr.app N19 N20q
          have pre22 : ∀ t, Steps p.tables e below (T20.setTop (mkF m 46 #[.val (.int p0), .val (.int p1), .val (.int (fn_len p0))] [(.int (fn_c1 p1)), (.int (fn_c1 p0))])) t → Steps p.tables e below (s₁.setTop (entryFrame m #[(.int p0), (.int p1)] 3)) t := fun t k => pre18 t (by
            show Steps p.tables e below (T14.setTop (mkF m 35 #[.val (.int p0), .val (.int p1), .val (.int (fn_len p0))] [(.int (2 : Int32)), (.int (fn_len p0))])) t
            refine XS.icmpNo X14.here hx rfl (hb hby own_d15_35) rfl (flt hc17).1 ?_
            show Steps p.tables e below (T14.setTop (mkF m 38 #[.val (.int p0), .val (.int p1), .val (.int (fn_len p0))] [])) t
            refine XS.iloadN X14.here hx rfl (hb hby own_d15_38) rfl ?_
            show Steps p.tables e below (T14.setTop (mkF m 39 #[.val (.int p0), .val (.int p1), .val (.int (fn_len p0))] [(.int p0)])) t
            refine st19 _ ?_
            show Steps p.tables e below (T19.setTop (mkF m 42 #[.val (.int p0), .val (.int p1), .val (.int (fn_len p0))] [(.int (fn_c1 p0))])) t
            refine XS.iloadN X19.here hx rfl (hb hby own_d15_42) rfl ?_
            show Steps p.tables e below (T19.setTop (mkF m 43 #[.val (.int p0), .val (.int p1), .val (.int (fn_len p0))] [(.int p1), (.int (fn_c1 p0))])) t
            refine st20 _ ?_
            exact k)
          by_cases hc21 : (fn_c1 p0) = (fn_c1 p1)
          · have hv : fn_same p0 p1 = (1 : Int32) := by simp only [fn_same, if_pos hc3, if_neg hc5, if_pos hc15, if_neg hc17, if_pos hc21]
            obtain ⟨fs, hr, hrun, hended, hW, hsame⟩ := X20.leave (v := some (.int (1 : Int32))) (fun h => by rw [Bd.returns] at h; cases h)
            refine ⟨_, _, pre22 _ ?_, hrun, hended, _, _, rfl, ?_, ⟨_, rfl⟩, hW, hsame.mono (by decide) (by decide)⟩
            · show Steps p.tables e below (T20.setTop (mkF m 46 #[.val (.int p0), .val (.int p1), .val (.int (fn_len p0))] [(.int (fn_c1 p1)), (.int (fn_c1 p0))])) _
              refine XS.icmpYes X20.here hx rfl (pc0 := 46) (pc' := 51) rfl (hb hby own_d15_46) rfl (teq hc21).1 (by decide) (by decide) ?_
              show Steps p.tables e below (T20.setTop (mkF m 51 #[.val (.int p0), .val (.int p1), .val (.int (fn_len p0))] [])) _
              refine XS.iconst X20.here hx rfl (hb hby own_d15_51) ?_
              show Steps p.tables e below (T20.setTop (mkF m 52 #[.val (.int p0), .val (.int p1), .val (.int (fn_len p0))] [(.int (1 : Int32))])) _
              exact retN X20 hx (t := .boolean) Bd.returns (by simp) (hb hby own_d15_52) hr
            · show Q_same Z p0 p1 h0 n0 _ T20.heap _
              rw [e20]
              exact ⟨by rw [hv], N20, rfl⟩
          · have hv : fn_same p0 p1 = (0 : Int32) := by simp only [fn_same, if_pos hc3, if_neg hc5, if_pos hc15, if_neg hc17, if_neg hc21]
            obtain ⟨fs, hr, hrun, hended, hW, hsame⟩ := X20.leave (v := some (.int (0 : Int32))) (fun h => by rw [Bd.returns] at h; cases h)
            refine ⟨_, _, pre22 _ ?_, hrun, hended, _, _, rfl, ?_, ⟨_, rfl⟩, hW, hsame.mono (by decide) (by decide)⟩
            · show Steps p.tables e below (T20.setTop (mkF m 46 #[.val (.int p0), .val (.int p1), .val (.int (fn_len p0))] [(.int (fn_c1 p1)), (.int (fn_c1 p0))])) _
              refine XS.icmpNo X20.here hx rfl (hb hby own_d15_46) rfl (feq hc21).1 ?_
              show Steps p.tables e below (T20.setTop (mkF m 49 #[.val (.int p0), .val (.int p1), .val (.int (fn_len p0))] [])) _
              refine XS.iconst X20.here hx rfl (hb hby own_d15_49) ?_
              show Steps p.tables e below (T20.setTop (mkF m 50 #[.val (.int p0), .val (.int p1), .val (.int (fn_len p0))] [(.int (0 : Int32))])) _
              exact retN X20 hx (t := .boolean) Bd.returns (by simp) (hb hby own_d15_50) hr
            · show Q_same Z p0 p1 h0 n0 _ T20.heap _
              rw [e20]
              exact ⟨by rw [hv], N20, rfl⟩
      · have hv : fn_same p0 p1 = (0 : Int32) := by simp only [fn_same, if_pos hc3, if_neg hc5, if_neg hc15]
        obtain ⟨fs, hr, hrun, hended, hW, hsame⟩ := X14.leave (v := some (.int (0 : Int32))) (fun h => by rw [Bd.returns] at h; cases h)
        refine ⟨_, _, pre16 _ ?_, hrun, hended, _, _, rfl, ?_, ⟨_, rfl⟩, hW, hsame.mono (by decide) (by decide)⟩
        · show Steps p.tables e below (T14.setTop (mkF m 28 #[.val (.int p0), .val (.int p1), .val (.int (fn_len p0))] [(.int (fn_c0 p1)), (.int (fn_c0 p0))])) _
          refine XS.icmpNo X14.here hx rfl (hb hby own_d15_28) rfl (feq hc15).1 ?_
          show Steps p.tables e below (T14.setTop (mkF m 31 #[.val (.int p0), .val (.int p1), .val (.int (fn_len p0))] [])) _
          refine XS.iconst X14.here hx rfl (hb hby own_d15_31) ?_
          show Steps p.tables e below (T14.setTop (mkF m 32 #[.val (.int p0), .val (.int p1), .val (.int (fn_len p0))] [(.int (0 : Int32))])) _
          exact retN X14 hx (t := .boolean) Bd.returns (by simp) (hb hby own_d15_32) hr
        · show Q_same Z p0 p1 h0 n0 _ T14.heap _
          rw [e14]
          exact ⟨by rw [hv], N14, rfl⟩
  · have hv : fn_same p0 p1 = (0 : Int32) := by simp only [fn_same, if_neg hc3]
    obtain ⟨fs, hr, hrun, hended, hW, hsame⟩ := X2.leave (v := some (.int (0 : Int32))) (fun h => by rw [Bd.returns] at h; cases h)
    refine ⟨_, _, pre4 _ ?_, hrun, hended, _, _, rfl, ?_, ⟨_, rfl⟩, hW, hsame.mono (by decide) (by decide)⟩
    · show Steps p.tables e below (T2.setTop (mkF m 10 #[.val (.int p0), .val (.int p1), .val (.int (fn_len p0))] [(.int (fn_len p1)), (.int (fn_len p0))])) _
      refine XS.icmpNo X2.here hx rfl (hb hby own_d15_10) rfl (feq hc3).1 ?_
      show Steps p.tables e below (T2.setTop (mkF m 13 #[.val (.int p0), .val (.int p1), .val (.int (fn_len p0))] [])) _
      refine XS.iconst X2.here hx rfl (hb hby own_d15_13) ?_
      show Steps p.tables e below (T2.setTop (mkF m 14 #[.val (.int p0), .val (.int p1), .val (.int (fn_len p0))] [(.int (0 : Int32))])) _
      exact retN X2 hx (t := .boolean) Bd.returns (by simp) (hb hby own_d15_14) hr
    · show Q_same Z p0 p1 h0 n0 _ T2.heap _
      rw [e2]
      exact ⟨by rw [hv], N2, rfl⟩
theorem own_d12_0 : decode jdk_43_method_3_code 0 = .ok (.iload_n 0, 1) := by decide +kernel
theorem own_d12_1 : decode jdk_43_method_3_code 1 = .ok (.sipush 255, 3) := by decide +kernel
theorem own_d12_4 : decode jdk_43_method_3_code 4 = .ok (.if_icmp .gt 7, 3) := by decide +kernel
theorem own_d12_11 : decode jdk_43_method_3_code 11 = .ok (.iconst 0, 1) := by decide +kernel
theorem own_d12_12 : decode jdk_43_method_3_code 12 = .ok (.ireturn, 1) := by decide +kernel
theorem own_d12_7 : decode jdk_43_method_3_code 7 = .ok (.iconst 1, 1) := by decide +kernel
theorem own_d12_8 : decode jdk_43_method_3_code 8 = .ok (.goto 4, 3) := by decide +kernel
theorem own_pn2 : plainName "java/lang/StringLatin1" = true := by first | (simp [plainName, overriddenIn]; done) | decide +kernel
theorem ef_ce (m : MethodId) (p0 : Int32) : entryFrame m #[(.int p0)] 1 = mkF m 0 #[.val (.int p0)] [] := by first | (simp [entryFrame, mkF, argsToLocals, Value.category]; done) | rfl
def fn_ce (p0 : Int32) : Int32 := (if (255 : Int32) < p0 then (0 : Int32) else (1 : Int32))
def Q_ce (Z : State) (p0 : Int32) (h0 : Heap) (n0 : Nat) (v : Option Value) (h : Heap) (L : List Loc) : Prop := v = some (.int (fn_ce p0)) ∧ Fr n0 L ∧ h = h0
set_option maxRecDepth 65536 in
set_option maxHeartbeats 40000000 in
theorem rm_ce (l : Launch) (Z : State) (a0 : Array Value) (hw : ∀ d ∈ tables_1, d.before a0 Z = true) (ws : List Jvm.Cond) (p0 : Int32) (h0 : Heap) (n0 : Nat) (Z0 : n0 ≤ h0.size) :
    MetFree l (⟨"java/lang/StringLatin1", "canEncode", "(C)Z"⟩ : MethodName) (head1 (Jvm.Cond.code (⟨"java/lang/StringLatin1", "canEncode", "(C)Z"⟩ : MethodName) jdk_43_method_3_code 1 (some .boolean) :: ws) ({ frames := 0, cells := 0, slots := 0, locals := 0 } : Room)) (fun a U => a = #[(.int p0)] ∧ Z.Warmed39 U.vm ∧ U.heap = h0) (fun _ _ _ _ _ => True) (fun _ U o U' => ∃ v L, o = .returned v ∧ Q_ce Z p0 h0 n0 v U'.heap L ∧ FrameEnd U o U' L ({ frames := 0, cells := 0, slots := 0, locals := 0 } : Room).cells ({ frames := 0, cells := 0, slots := 0, locals := 0 } : Room).slots) := by
  refine MetFree.of_bodySF (plainFor_of_name own_pn2) hisR ?_
  intro p e s m args below meth c s₁ Bd hml0 hP hK
  obtain ⟨rfl, hZ, hh⟩ := hP
  have hx := Bd.exec
  have hby := Bd.bytes
  have hml : c.maxLocals = 1 := hml0
  have hown : s.vm.findClass "java/lang/StringLatin1" = some m.cls := findClass_of_methodNamed Bd.named
  have hnm := (name_of_methodNamed Bd.named Bd.method).1
  have X0 : Stand p l e ({ frames := 0, cells := 0, slots := 0, locals := 0 } : Room) s m #[(.int p0)] below meth c s₁ [] 0 0 := Stand.of_body Bd
  have e0 : s₁.heap = h0 := by rw [← hh, Bd.state]; rfl
  have N0 := Fr.nil n0
  have pre0 : ∀ t, Steps p.tables e below (s₁.setTop (mkF m 0 #[.val (.int p0)] [])) t → Steps p.tables e below (s₁.setTop (entryFrame m #[(.int p0)] 1)) t := fun t k => castTop (ef_ce m p0) k
  have pre2 : ∀ t, Steps p.tables e below (s₁.setTop (mkF m 4 #[.val (.int p0)] [(.int (255 : Int32)), (.int p0)])) t → Steps p.tables e below (s₁.setTop (entryFrame m #[(.int p0)] 1)) t := fun t k => pre0 t (by
    show Steps p.tables e below (s₁.setTop (mkF m 0 #[.val (.int p0)] [])) t
    refine XS.iloadN X0.here hx rfl (hb hby own_d12_0) rfl ?_
    show Steps p.tables e below (s₁.setTop (mkF m 1 #[.val (.int p0)] [(.int p0)])) t
    refine XS.sipush X0.here hx rfl (hb hby own_d12_1) ?_
    exact k)
  by_cases hc1 : (255 : Int32) < p0
  · have hv : fn_ce p0 = (0 : Int32) := by simp only [fn_ce, if_pos hc1]
    obtain ⟨fs, hr, hrun, hended, hW, hsame⟩ := X0.leave (v := some (.int (0 : Int32))) (fun h => by rw [Bd.returns] at h; cases h)
    refine ⟨_, _, pre2 _ ?_, hrun, hended, _, _, rfl, ?_, ⟨_, rfl⟩, hW, hsame.mono (by decide) (by decide)⟩
    · show Steps p.tables e below (s₁.setTop (mkF m 4 #[.val (.int p0)] [(.int (255 : Int32)), (.int p0)])) _
      refine XS.icmpYes X0.here hx rfl (pc0 := 4) (pc' := 11) rfl (hb hby own_d12_4) rfl (tlt hc1).2.2.1 (by decide) (by decide) ?_
      show Steps p.tables e below (s₁.setTop (mkF m 11 #[.val (.int p0)] [])) _
      refine XS.iconst X0.here hx rfl (hb hby own_d12_11) ?_
      show Steps p.tables e below (s₁.setTop (mkF m 12 #[.val (.int p0)] [(.int (0 : Int32))])) _
      exact retN X0 hx (t := .boolean) Bd.returns (by simp) (hb hby own_d12_12) hr
    · show Q_ce Z p0 h0 n0 _ s₁.heap _
      rw [e0]
      exact ⟨by rw [hv], N0, rfl⟩
  · have hv : fn_ce p0 = (1 : Int32) := by simp only [fn_ce, if_neg hc1]
    obtain ⟨fs, hr, hrun, hended, hW, hsame⟩ := X0.leave (v := some (.int (1 : Int32))) (fun h => by rw [Bd.returns] at h; cases h)
    refine ⟨_, _, pre2 _ ?_, hrun, hended, _, _, rfl, ?_, ⟨_, rfl⟩, hW, hsame.mono (by decide) (by decide)⟩
    · show Steps p.tables e below (s₁.setTop (mkF m 4 #[.val (.int p0)] [(.int (255 : Int32)), (.int p0)])) _
      refine XS.icmpNo X0.here hx rfl (hb hby own_d12_4) rfl (flt hc1).2.2.1 ?_
      show Steps p.tables e below (s₁.setTop (mkF m 7 #[.val (.int p0)] [])) _
      refine XS.iconst X0.here hx rfl (hb hby own_d12_7) ?_
      show Steps p.tables e below (s₁.setTop (mkF m 8 #[.val (.int p0)] [(.int (1 : Int32))])) _
      refine XS.goto X0.here hx rfl (pc0 := 8) (pc' := 12) rfl (hb hby own_d12_8) (by decide) (by decide) ?_
      show Steps p.tables e below (s₁.setTop (mkF m 12 #[.val (.int p0)] [(.int (1 : Int32))])) _
      exact retN X0 hx (t := .boolean) Bd.returns (by simp) (hb hby own_d12_12) hr
    · show Q_ce Z p0 h0 n0 _ s₁.heap _
      rw [e0]
      exact ⟨by rw [hv], N0, rfl⟩
theorem own_d17_0 : decode jdk_30_method_1_code 0 = .ok (.aload_n 0, 1) := by decide +kernel
theorem own_d17_1 : decode jdk_30_method_1_code 1 = .ok (.invokespecial 1, 3) := by decide +kernel
theorem own_d17_4 : decode jdk_30_method_1_code 4 = .ok (.return_, 1) := by decide +kernel
theorem own_pn3 : plainName "java/lang/Record" = true := by first | (simp [plainName, overriddenIn]; done) | decide +kernel
theorem ef_rec (m : MethodId) (r0 : Addr) : entryFrame m #[(.ref r0)] 1 = mkF m 0 #[.val (.ref r0)] [] := by first | (simp [entryFrame, mkF, argsToLocals, Value.category]; done) | rfl
def Q_rec (Z : State) (r0 : Addr) (h0 : Heap) (n0 : Nat) (v : Option Value) (h : Heap) (L : List Loc) : Prop := v = none ∧ Fr n0 L ∧ h = h0
set_option maxRecDepth 65536 in
set_option maxHeartbeats 40000000 in
theorem rm_rec (l : Launch) (Z : State) (a0 : Array Value) (hw : ∀ d ∈ tables_1, d.before a0 Z = true) (ws : List Jvm.Cond) (r0 : Addr) (h0 : Heap) (n0 : Nat) (Z0 : n0 ≤ h0.size) :
    MetFree l (⟨"java/lang/Record", "<init>", "()V"⟩ : MethodName) (head1 (Jvm.Cond.code (⟨"java/lang/Record", "<init>", "()V"⟩ : MethodName) jdk_30_method_1_code 1 none :: ws) ({ frames := 1, cells := 0, slots := 0, locals := 12 } : Room)) (fun a U => a = #[(.ref r0)] ∧ Z.Warmed39 U.vm ∧ U.heap = h0) (fun _ _ _ _ _ => True) (fun _ U o U' => ∃ v L, o = .returned v ∧ Q_rec Z r0 h0 n0 v U'.heap L ∧ FrameEnd U o U' L ({ frames := 1, cells := 0, slots := 0, locals := 12 } : Room).cells ({ frames := 1, cells := 0, slots := 0, locals := 12 } : Room).slots) := by
  refine MetFree.of_bodySF (plainFor_of_name own_pn3) hisR ?_
  intro p e s m args below meth c s₁ Bd hml0 hP hK
  obtain ⟨rfl, hZ, hh⟩ := hP
  have hx := Bd.exec
  have hby := Bd.bytes
  have hml : c.maxLocals = 1 := hml0
  have hown : s.vm.findClass "java/lang/Record" = some m.cls := findClass_of_methodNamed Bd.named
  have hnm := (name_of_methodNamed Bd.named Bd.method).1
  have X0 : Stand p l e ({ frames := 1, cells := 0, slots := 0, locals := 12 } : Room) s m #[(.ref r0)] below meth c s₁ [] 0 0 := Stand.of_body Bd
  have e0 : s₁.heap = h0 := by rw [← hh, Bd.state]; rfl
  have N0 := Fr.nil n0
  have pre0 : ∀ t, Steps p.tables e below (s₁.setTop (mkF m 0 #[.val (.ref r0)] [])) t → Steps p.tables e below (s₁.setTop (entryFrame m #[(.ref r0)] 1)) t := fun t k => castTop (ef_rec m r0) k
  obtain ⟨T1, X1, e1, st1⟩ := initO X0 hx hZ hown (hw _ (List.mem_of_getElem? (i := 76) rfl)) (hw _ (List.mem_of_getElem? (i := 19) rfl)) (hw _ (List.mem_of_getElem? (i := 20) rfl)) e0 (g := (mkF m 1 #[.val (.ref r0)] [(.ref r0)])) rfl (by rw [hml]; rfl) rfl (hb hby own_d17_1) (by decide) (W := 0) (by show 2 * 0 + _ ≤ _; exact Nat.le_of_eq rfl) (by decide)
  obtain ⟨fs, hr, hrun, hended, hW, hsame⟩ := X1.leave (v := none) (fun _ => rfl)
  refine ⟨_, _, pre0 _ ?_, hrun, hended, _, _, rfl, ?_, ⟨_, rfl⟩, hW, hsame.mono (by decide) (by decide)⟩
  · show Steps p.tables e below (s₁.setTop (mkF m 0 #[.val (.ref r0)] [])) _
    refine XS.aloadN X0.here hx rfl (hb hby own_d17_0) rfl rfl ?_
    show Steps p.tables e below (s₁.setTop (mkF m 1 #[.val (.ref r0)] [(.ref r0)])) _
    refine st1 _ ?_
    show Steps p.tables e below (T1.setTop (mkF m 4 #[.val (.ref r0)] [])) _
    exact X1.returnOut hx Bd.returns (hb hby own_d17_4) hr
  · show Q_rec Z r0 h0 n0 _ T1.heap _
    rw [e1]
    exact ⟨rfl, N0, rfl⟩
abbrev own_ST : String := "java/lang/String"
theorem own_sub : ∀ a ∈ Bundle.stringAtoms, a ∈ tables_1 := by decide +kernel
theorem own_wS {Z : State} {a0 : Array Value} (hw : ∀ d ∈ tables_1, d.before a0 Z = true) : ∀ a ∈ Bundle.stringAtoms, a.before a0 Z = true := fun a ha => hw a (own_sub a ha)
theorem own_EW {Z : State} {a0 : Array Value} (hw : ∀ d ∈ tables_1, d.before a0 Z = true) : EW Z a0 consts_1 := EW.cons (hw _ (List.mem_of_getElem? (i := 21) rfl)) (by decide) EW.nil
theorem own_words {Z : State} {a0 : Array Value} (hw : ∀ d ∈ tables_1, d.before a0 Z = true) : ∀ d ∈ StrChars.Road.words, d.before a0 Z = true := fun d hd => hw d ((by decide +kernel : ∀ d ∈ StrChars.Road.words, d ∈ tables_1) d hd)
theorem own_wordsEq {Z : State} {a0 : Array Value} (hw : ∀ d ∈ tables_1, d.before a0 Z = true) : ∀ d ∈ StrChars.Road.wordsEq, d.before a0 Z = true := fun d hd => hw d ((by decide +kernel : ∀ d ∈ StrChars.Road.wordsEq, d ∈ tables_1) d hd)
theorem own_blank {Z : State} {EL : List (String × Nat)} {vm : Vm} {h : Heap} {x : Addr} (hal : Z.vm.Alike vm) (E : Exa Z h x "java/lang/String") (V : Fld Z h x "java/lang/String" "value" "[B" .null) : Safe Z EL vm h x := fun Bx => by
  obtain ⟨p, -, u, a, -, q, -, F, rfl | rfl⟩ := Bx
  · have hq := F.ha
    obtain ⟨cS, ⟨⟨s1, s2, s3, ⟨cv, kv, iv, s4, s4'⟩, ⟨cc, kc, ic, s5, s5'⟩, s6, s7, s8, s9, s10, s11, s12, s13, s14, s15, s16⟩, hfS, hcS⟩, ⟨kS, k1, k2, k3⟩, hB, hbyt⟩ := F
    obtain ⟨cell, cf, k, i, f, h1, h2, h3, h4, h5, h6, h7⟩ := V
    obtain ⟨kv', z4⟩ := ff_back (U := Wst Z vm h) hal s4
    cases h1.symm.trans (show h[q.sa]? = some q.sC from hq)
    have e4 := h2.symm.trans z4
    simp only [Option.some.injEq, Prod.mk.injEq] at e4
    rw [e4.2.2.2] at h7
    cases h7.symm.trans s8
  · have hd := F.hd
    obtain ⟨cS, -, -, hB, -⟩ := F
    obtain ⟨cell, k, e1, e2, e3, -, -⟩ := E
    cases e1.symm.trans (show h[q.sd]? = some q.SA from hd)
    have hB' : vm.findClass "[B" = some q.SA.cls := hB
    rw [hal.findClass] at hB'
    obtain ⟨k1, q1, q2⟩ := Vm.findClass_spec hB'
    obtain ⟨k2, q3, q4⟩ := Vm.findClass_spec e2
    cases q1.symm.trans q3
    exact absurd (q2.symm.trans q4) (by decide)
def own_cs (p : Int32) : List Int32 := if (fn_len p) = (0 : Int32) then [] else if (fn_len p) = (1 : Int32) then [fn_c0 p] else [fn_c0 p, fn_c1 p]
theorem own_r0 (p : Int32) : 0 ≤ (fn_c0 p).toInt ∧ (fn_c0 p).toInt ≤ 255 := by
  unfold fn_c0; exact c_and _ _ (by decide)
theorem own_r1 (p : Int32) : 0 ≤ (fn_c1 p).toInt ∧ (fn_c1 p).toInt ≤ 255 := by
  unfold fn_c1; exact c_and _ _ (by decide)
theorem own_i2c {x : Int32} (h : 0 ≤ x.toInt ∧ x.toInt ≤ 255) : x.toUInt32.toUInt16.toUInt32.toInt32 = x := by
  have := c_i2c x
  rw [← Int32.toInt_inj]; omega
theorem own_nc {x : Int32} (h : 0 ≤ x.toInt ∧ x.toInt ≤ 255) : nar .char x = x := own_i2c h
theorem own_b8 (x : Int32) : nar .byte (x.toInt8.toInt32) = x.toInt8.toInt32 := by
  show (x.toInt8.toInt32).toInt8.toInt32 = _
  have h1 := c_i2b x
  have h2 := c_i2b (x.toInt8.toInt32)
  rw [← Int32.toInt_inj]; omega
theorem own_rg {x : Int32} (h : 0 ≤ x.toInt ∧ x.toInt ≤ 255) : ¬ x < 0 ∧ ¬ (255 : Int32) < x := by
  have e0 : (0 : Int32).toInt = 0 := by decide
  have e1 : (255 : Int32).toInt = 255 := by decide
  rw [Int32.lt_iff_toInt_lt, Int32.lt_iff_toInt_lt]; omega
theorem own_csr (p : Int32) : ∀ c ∈ own_cs p, ¬ c < 0 ∧ ¬ (255 : Int32) < c := by
  intro c hc
  unfold own_cs at hc
  split at hc
  · cases hc
  · split at hc
    · simp only [List.mem_cons, List.not_mem_nil, or_false] at hc
      subst hc; exact own_rg (own_r0 p)
    · simp only [List.mem_cons, List.not_mem_nil, or_false] at hc
      rcases hc with rfl | rfl
      · exact own_rg (own_r0 p)
      · exact own_rg (own_r1 p)
theorem own_csl (p : Int32) : (own_cs p).length ≤ 4000 := by
  unfold own_cs; split
  · decide
  · split
    · exact Nat.le_of_ble_eq_true rfl
    · exact Nat.le_of_ble_eq_true rfl
theorem own_up {cs : List Int32} (h : ∀ c ∈ cs, ¬ c < 0 ∧ ¬ (255 : Int32) < c) : ∀ c ∈ cs, ¬ c < 0 ∧ ¬ (65535 : Int32) < c := fun c hc => ⟨(h c hc).1, fun q => (h c hc).2 (by rw [Int32.lt_iff_toInt_lt] at q ⊢; have e1 : (65535 : Int32).toInt = 65535 := rfl; have e2 : (255 : Int32).toInt = 255 := rfl; omega)⟩
abbrev own_bs (cs : List Int32) : List Value := (cs.map fun c => c.toInt8.toInt32).map Value.int
/-- the object at a is a String of these chars (below 256) -/
def Str (Z : State) (h : Heap) (a t : Addr) (kb : ClassId) (cs : List Int32) : Prop := Exa Z h a "java/lang/String" ∧ Fld Z h a "java/lang/String" "coder" "B" (.int (0 : Int32)) ∧ Fld Z h a "java/lang/String" "value" "[B" (.ref t) ∧ Arv Z h t kb .byte (Int32.ofNat cs.length) (own_bs cs) (.int (0 : Int32))
theorem own_ce {p : Int32} (h : ¬ (255 : Int32) < p) : ¬ (fn_ce p) = (0 : Int32) := by
  unfold fn_ce; rw [if_neg h]; decide
theorem own_d13_0 : decode jdk_43_method_46_code 0 = .ok (.iconst 1, 1) := by decide +kernel
theorem own_d13_1 : decode jdk_43_method_46_code 1 = .ok (.newarray .byte, 2) := by decide +kernel
theorem own_d13_3 : decode jdk_43_method_46_code 3 = .ok (.dup, 1) := by decide +kernel
theorem own_d13_4 : decode jdk_43_method_46_code 4 = .ok (.iconst 0, 1) := by decide +kernel
theorem own_d13_5 : decode jdk_43_method_46_code 5 = .ok (.iload_n 0, 1) := by decide +kernel
theorem own_d13_6 : decode jdk_43_method_46_code 6 = .ok (.i2b, 1) := by decide +kernel
theorem own_d13_7 : decode jdk_43_method_46_code 7 = .ok (.bastore, 1) := by decide +kernel
theorem own_d13_8 : decode jdk_43_method_46_code 8 = .ok (.areturn, 1) := by decide +kernel
theorem ef_tb (m : MethodId) (p0 : Int32) : entryFrame m #[(.int p0)] 1 = mkF m 0 #[.val (.int p0)] [] := by first | (simp [entryFrame, mkF, argsToLocals, Value.category]; done) | rfl
def Q_tb (Z : State) (p0 : Int32) (h0 : Heap) (n0 : Nat) (v : Option Value) (h : Heap) (L : List Loc) : Prop := ∃ (b : Addr) (k : ClassId), v = some (.ref b) ∧ Fr n0 L ∧ h0.size ≤ b ∧ Keep h0 h [] ∧ Arv Z h b k .byte (1 : Int32) [(.int (p0.toInt8.toInt32))] (.int (0 : Int32))
set_option maxRecDepth 65536 in
set_option maxHeartbeats 40000000 in
theorem rm_tb (l : Launch) (Z : State) (a0 : Array Value) (hw : ∀ d ∈ tables_1, d.before a0 Z = true) (ws : List Jvm.Cond) (p0 : Int32) (h0 : Heap) (n0 : Nat) (Z0 : n0 ≤ h0.size) :
    MetFree l (⟨"java/lang/StringLatin1", "toBytes", "(C)[B"⟩ : MethodName) (head1 (Jvm.Cond.code (⟨"java/lang/StringLatin1", "toBytes", "(C)[B"⟩ : MethodName) jdk_43_method_46_code 1 (some (.array .byte)) :: ws) ({ frames := 0, cells := 1, slots := 1, locals := 0 } : Room)) (fun a U => a = #[(.int p0)] ∧ Z.Warmed39 U.vm ∧ U.heap = h0) (fun _ _ _ _ _ => True) (fun _ U o U' => ∃ v L, o = .returned v ∧ Q_tb Z p0 h0 n0 v U'.heap L ∧ FrameEnd U o U' L ({ frames := 0, cells := 1, slots := 1, locals := 0 } : Room).cells ({ frames := 0, cells := 1, slots := 1, locals := 0 } : Room).slots) := by
  refine MetFree.of_bodySF (plainFor_of_name own_pn2) hisR ?_
  intro p e s m args below meth c s₁ Bd hml0 hP hK
  obtain ⟨rfl, hZ, hh⟩ := hP
  have hx := Bd.exec
  have hby := Bd.bytes
  have hml : c.maxLocals = 1 := hml0
  have hown : s.vm.findClass "java/lang/StringLatin1" = some m.cls := findClass_of_methodNamed Bd.named
  have hnm := (name_of_methodNamed Bd.named Bd.method).1
  have X0 : Stand p l e ({ frames := 0, cells := 1, slots := 1, locals := 0 } : Room) s m #[(.int p0)] below meth c s₁ [] 0 0 := Stand.of_body Bd
  have e0 : s₁.heap = h0 := by rw [← hh, Bd.state]; rfl
  have N0 := Fr.nil n0
  have pre0 : ∀ t, Steps p.tables e below (s₁.setTop (mkF m 0 #[.val (.int p0)] [])) t → Steps p.tables e below (s₁.setTop (entryFrame m #[(.int p0)] 1)) t := fun t k => castTop (ef_tb m p0) k
  have K0 : Keep h0 h0 [] := Keep.refl h0 _
  obtain ⟨T1, h1, k1, X1, e1, E1, A1, st1⟩ := newP X0 hx hZ (hw _ (List.mem_of_getElem? (i := 22) rfl)) e0 (g := (mkF m 1 #[.val (.int p0)] [(.int (1 : Int32))])) rfl (hb hby own_d13_1) rfl (by decide) (cap := 1) (by decide) (by decide) (by decide) (by decide)
  obtain ⟨b1, g1⟩ : ∃ z, z = h0.size := ⟨_, rfl⟩
  rw [← g1] at A1 st1
  have g_b1 : n0 ≤ b1 := Nat.le_trans Z0 (Nat.le_of_eq g1.symm)
  have sz_b1 : h0.size ≤ b1 := Nat.le_trans K0.1 (Nat.le_of_eq g1.symm)
  have Z1 : n0 ≤ h1.size := Nat.le_trans Z0 E1.1
  have K1 := K0.ext E1
  have V_b1 : Arv Z h1 b1 k1 .byte (1 : Int32) [(.int (0 : Int32))] (.int (0 : Int32)) := (Arv.new A1 (by decide)).pad (pad_rep [] (.int (0 : Int32)) 1)
  obtain ⟨cl3, Ar3, q3, S3, Nn3, Hh3, G3⟩ := id V_b1
  obtain ⟨T4, h4, X4, e4, W4, st4⟩ := stB X1 hx hZ e1 Ar3 (j := (0 : Int32)) (inb_of S3 ⟨by decide, by decide⟩) (g := (mkF m 7 #[.val (.int p0)] [(.int (p0.toInt8.toInt32)), (.int (0 : Int32)), (.ref b1), (.ref b1)])) rfl rfl (hb hby own_d13_7)
  have V4 : Arv Z h4 b1 k1 .byte (1 : Int32) [(.int (nar .byte (p0.toInt8.toInt32)))] (.int (0 : Int32)) := Arv.set Ar3 q3 S3 Nn3 Hh3 G3 (fits_nar_byte _) W4 0 rfl (Nat.le_of_ble_eq_true rfl)
  have N4 := Fr.snoc X4 N0 g_b1
  have Z4 : n0 ≤ h4.size := Nat.le_trans Z1 (Keep.of_wr W4).1
  have K4 := K1.wr W4 (Or.inr sz_b1)
  obtain ⟨fs, hr, hrun, hended, hW, hsame⟩ := X4.leave (v := some (.ref b1)) (fun h => by rw [Bd.returns] at h; cases h)
  refine ⟨_, _, pre0 _ ?_, hrun, hended, _, _, rfl, ?_, ⟨_, rfl⟩, hW, hsame.mono (by decide) (by decide)⟩
  · show Steps p.tables e below (s₁.setTop (mkF m 0 #[.val (.int p0)] [])) _
    refine XS.iconst X0.here hx rfl (hb hby own_d13_0) ?_
    show Steps p.tables e below (s₁.setTop (mkF m 1 #[.val (.int p0)] [(.int (1 : Int32))])) _
    refine st1 _ ?_
    show Steps p.tables e below (T1.setTop (mkF m 3 #[.val (.int p0)] [(.ref b1)])) _
    refine XS.dup X1.here hx rfl (hb hby own_d13_3) rfl rfl ?_
    show Steps p.tables e below (T1.setTop (mkF m 4 #[.val (.int p0)] [(.ref b1), (.ref b1)])) _
    refine XS.iconst X1.here hx rfl (hb hby own_d13_4) ?_
    show Steps p.tables e below (T1.setTop (mkF m 5 #[.val (.int p0)] [(.int (0 : Int32)), (.ref b1), (.ref b1)])) _
    refine XS.iloadN X1.here hx rfl (hb hby own_d13_5) rfl ?_
    show Steps p.tables e below (T1.setTop (mkF m 6 #[.val (.int p0)] [(.int p0), (.int (0 : Int32)), (.ref b1), (.ref b1)])) _
    refine XS.i2b X1.here hx rfl (hb hby own_d13_6) rfl ?_
    show Steps p.tables e below (T1.setTop (mkF m 7 #[.val (.int p0)] [(.int (p0.toInt8.toInt32)), (.int (0 : Int32)), (.ref b1), (.ref b1)])) _
    refine st4 _ ?_
    show Steps p.tables e below (T4.setTop (mkF m 8 #[.val (.int p0)] [(.ref b1)])) _
    jvm_step X4.here [X4.here.top, hx, (hb hby own_d13_8), X4.method', Bd.returns, Value.isRef, FieldType.isReference]
    first | (intro acts; rw [hr _ acts rfl rfl rfl]) | rw [hr _ _ rfl rfl rfl]
    exact Steps.refl _
  · show Q_tb Z p0 h0 n0 _ T4.heap _
    rw [e4]
    exact ⟨b1, k1, rfl, N4, sz_b1, K4, by have q := V4; rw [own_b8] at q; exact q⟩
theorem own_d14_0 : decode jdk_42_method_151_code 0 = .ok (.aload_n 0, 1) := by decide +kernel
theorem own_d14_1 : decode jdk_42_method_151_code 1 = .ok (.invokespecial 1, 3) := by decide +kernel
theorem own_d14_4 : decode jdk_42_method_151_code 4 = .ok (.aload_n 0, 1) := by decide +kernel
theorem own_d14_5 : decode jdk_42_method_151_code 5 = .ok (.aload_n 1, 1) := by decide +kernel
theorem own_d14_6 : decode jdk_42_method_151_code 6 = .ok (.putfield 9, 3) := by decide +kernel
theorem own_d14_9 : decode jdk_42_method_151_code 9 = .ok (.aload_n 0, 1) := by decide +kernel
theorem own_d14_10 : decode jdk_42_method_151_code 10 = .ok (.iload_n 2, 1) := by decide +kernel
theorem own_d14_11 : decode jdk_42_method_151_code 11 = .ok (.putfield 15, 3) := by decide +kernel
theorem own_d14_14 : decode jdk_42_method_151_code 14 = .ok (.return_, 1) := by decide +kernel
theorem own_pn4 : plainName "java/lang/String" = true := by first | (simp [plainName, overriddenIn]; done) | decide +kernel
theorem ef_ibb (m : MethodId) (r0 : Addr) (r1 : Addr) : entryFrame m #[(.ref r0), (.ref r1), (.int (0 : Int32))] 3 = mkF m 0 #[.val (.ref r0), .val (.ref r1), .val (.int (0 : Int32))] [] := by first | (simp [entryFrame, mkF, argsToLocals, Value.category]; done) | rfl
def Q_ibb (Z : State) (r0 : Addr) (r1 : Addr) (h0 : Heap) (n0 : Nat) (v : Option Value) (h : Heap) (L : List Loc) : Prop := v = none ∧ Fr n0 L ∧ Keep h0 h [r0] ∧ Exa Z h r0 "java/lang/String" ∧ Fld Z h r0 "java/lang/String" "coder" "B" (.int (0 : Int32)) ∧ Fld Z h r0 "java/lang/String" "value" "[B" (.ref r1)
set_option maxRecDepth 65536 in
set_option maxHeartbeats 40000000 in
theorem rm_ibb (l : Launch) (Z : State) (a0 : Array Value) (hw : ∀ d ∈ tables_1, d.before a0 Z = true) (ws : List Jvm.Cond) (r0 : Addr) (r1 : Addr) (h0 : Heap) (n0 : Nat) (Z0 : n0 ≤ h0.size) (E_r0 : Exa Z h0 r0 "java/lang/String") (g_r0 : n0 ≤ r0) (F_value : Fld Z h0 r0 "java/lang/String" "value" "[B" .null) (F_coder : Fld Z h0 r0 "java/lang/String" "coder" "B" (.int (0 : Int32))) :
    MetFree l (⟨"java/lang/String", "<init>", "([BB)V"⟩ : MethodName) (head1 (Jvm.Cond.code (⟨"java/lang/String", "<init>", "([BB)V"⟩ : MethodName) jdk_42_method_151_code 3 none :: ws) ({ frames := 1, cells := 0, slots := 0, locals := 12 } : Room)) (fun a U => a = #[(.ref r0), (.ref r1), (.int (0 : Int32))] ∧ Z.Warmed39 U.vm ∧ U.heap = h0) (fun _ _ _ _ _ => True) (fun _ U o U' => ∃ v L, o = .returned v ∧ Q_ibb Z r0 r1 h0 n0 v U'.heap L ∧ FrameEnd U o U' L ({ frames := 1, cells := 0, slots := 0, locals := 12 } : Room).cells ({ frames := 1, cells := 0, slots := 0, locals := 12 } : Room).slots) := by
  refine MetFree.of_bodySF (plainFor_of_name own_pn4) hisR ?_
  intro p e s m args below meth c s₁ Bd hml0 hP hK
  obtain ⟨rfl, hZ, hh⟩ := hP
  have hx := Bd.exec
  have hby := Bd.bytes
  have hml : c.maxLocals = 3 := hml0
  have hown : s.vm.findClass "java/lang/String" = some m.cls := findClass_of_methodNamed Bd.named
  have hnm := (name_of_methodNamed Bd.named Bd.method).1
  have X0 : Stand p l e ({ frames := 1, cells := 0, slots := 0, locals := 12 } : Room) s m #[(.ref r0), (.ref r1), (.int (0 : Int32))] below meth c s₁ [] 0 0 := Stand.of_body Bd
  have e0 : s₁.heap = h0 := by rw [← hh, Bd.state]; rfl
  have N0 := Fr.nil n0
  have pre0 : ∀ t, Steps p.tables e below (s₁.setTop (mkF m 0 #[.val (.ref r0), .val (.ref r1), .val (.int (0 : Int32))] [])) t → Steps p.tables e below (s₁.setTop (entryFrame m #[(.ref r0), (.ref r1), (.int (0 : Int32))] 3)) t := fun t k => castTop (ef_ibb m r0 r1) k
  have K0 : Keep h0 h0 [r0] := Keep.refl h0 _
  obtain ⟨T1, X1, e1, st1⟩ := initO X0 hx hZ hown (hw _ (List.mem_of_getElem? (i := 18) rfl)) (hw _ (List.mem_of_getElem? (i := 19) rfl)) (hw _ (List.mem_of_getElem? (i := 20) rfl)) e0 (g := (mkF m 1 #[.val (.ref r0), .val (.ref r1), .val (.int (0 : Int32))] [(.ref r0)])) rfl (by rw [hml]; rfl) rfl (hb hby own_d14_1) (by decide) (W := 0) (by show 2 * 0 + _ ≤ _; exact Nat.le_of_eq rfl) (by decide)
  obtain ⟨T2, h2, X2, e2, W2, st2⟩ := putF X1 hx hZ hown (host := "") (Or.inl (hw _ (List.mem_of_getElem? (i := 27) rfl))) Via.refl e1 F_value E_r0 (Or.inr ⟨(hw _ (List.mem_of_getElem? (i := 23) rfl)), rfl, hnm⟩) (hw _ (List.mem_of_getElem? (i := 8) rfl)) (ty := (.array .byte)) (by decide) rfl rfl (g := (mkF m 6 #[.val (.ref r0), .val (.ref r1), .val (.int (0 : Int32))] [(.ref r1), (.ref r0)])) rfl rfl (hb hby own_d14_6)
  have Fw2 := F_value.same W2
  have f3_1 := E_r0.wr W2
  have f3_3 := F_coder.other W2 (Or.inr (slot_ne (Or.inr (hw _ (List.mem_of_getElem? (i := 24) rfl))) (Or.inr (hw _ (List.mem_of_getElem? (i := 23) rfl))) (by decide) (t := .byte) (t' := (.array .byte)) (by decide) (by decide)))
  have N2 := Fr.snoc X2 N0 g_r0
  have Z2 : n0 ≤ h2.size := Nat.le_trans Z0 (Keep.of_wr W2).1
  have K2 := K0.wr W2 (Or.inl (by simp))
  obtain ⟨T4, h4, X4, e4, W4, st4⟩ := putFN X2 hx hZ hown (hw _ (List.mem_of_getElem? (i := 28) rfl)) Via.refl e2 f3_3 f3_1 (Or.inr ⟨(hw _ (List.mem_of_getElem? (i := 24) rfl)), rfl, hnm⟩) (hw _ (List.mem_of_getElem? (i := 8) rfl)) (ty := .byte) (v' := (.int (0 : Int32))) (by decide) rfl rfl (g := (mkF m 11 #[.val (.ref r0), .val (.ref r1), .val (.int (0 : Int32))] [(.int (0 : Int32)), (.ref r0)])) rfl rfl (hb hby own_d14_11)
  have Fw4 := f3_3.same W4
  have f5_1 := f3_1.wr W4
  have f5_2 := Fw2.other W4 (Or.inr (slot_ne (Or.inr (hw _ (List.mem_of_getElem? (i := 23) rfl))) (Or.inr (hw _ (List.mem_of_getElem? (i := 24) rfl))) (by decide) (t := (.array .byte)) (t' := .byte) (by decide) (by decide)))
  have N4 := Fr.snoc X4 N2 g_r0
  have Z4 : n0 ≤ h4.size := Nat.le_trans Z2 (Keep.of_wr W4).1
  have K4 := K2.wr W4 (Or.inl (by simp))
  obtain ⟨fs, hr, hrun, hended, hW, hsame⟩ := X4.leave (v := none) (fun _ => rfl)
  refine ⟨_, _, pre0 _ ?_, hrun, hended, _, _, rfl, ?_, ⟨_, rfl⟩, hW, hsame.mono (by decide) (by decide)⟩
  · show Steps p.tables e below (s₁.setTop (mkF m 0 #[.val (.ref r0), .val (.ref r1), .val (.int (0 : Int32))] [])) _
    refine XS.aloadN X0.here hx rfl (hb hby own_d14_0) rfl rfl ?_
    show Steps p.tables e below (s₁.setTop (mkF m 1 #[.val (.ref r0), .val (.ref r1), .val (.int (0 : Int32))] [(.ref r0)])) _
    refine st1 _ ?_
    show Steps p.tables e below (T1.setTop (mkF m 4 #[.val (.ref r0), .val (.ref r1), .val (.int (0 : Int32))] [])) _
    refine XS.aloadN X1.here hx rfl (hb hby own_d14_4) rfl rfl ?_
    show Steps p.tables e below (T1.setTop (mkF m 5 #[.val (.ref r0), .val (.ref r1), .val (.int (0 : Int32))] [(.ref r0)])) _
    refine XS.aloadN X1.here hx rfl (hb hby own_d14_5) rfl rfl ?_
    show Steps p.tables e below (T1.setTop (mkF m 6 #[.val (.ref r0), .val (.ref r1), .val (.int (0 : Int32))] [(.ref r1), (.ref r0)])) _
    refine st2 _ ?_
    show Steps p.tables e below (T2.setTop (mkF m 9 #[.val (.ref r0), .val (.ref r1), .val (.int (0 : Int32))] [])) _
    refine XS.aloadN X2.here hx rfl (hb hby own_d14_9) rfl rfl ?_
    show Steps p.tables e below (T2.setTop (mkF m 10 #[.val (.ref r0), .val (.ref r1), .val (.int (0 : Int32))] [(.ref r0)])) _
    refine XS.iloadN X2.here hx rfl (hb hby own_d14_10) rfl ?_
    show Steps p.tables e below (T2.setTop (mkF m 11 #[.val (.ref r0), .val (.ref r1), .val (.int (0 : Int32))] [(.int (0 : Int32)), (.ref r0)])) _
    refine st4 _ ?_
    show Steps p.tables e below (T4.setTop (mkF m 14 #[.val (.ref r0), .val (.ref r1), .val (.int (0 : Int32))] [])) _
    exact X4.returnOut hx Bd.returns (hb hby own_d14_14) hr
  · show Q_ibb Z r0 r1 h0 n0 _ T4.heap _
    rw [e4]
    exact ⟨rfl, N4, K4, f5_1, Fw4, f5_2⟩
theorem own_d11_0 : decode jdk_42_method_139_code 0 = .ok (.getstatic 38, 3) := by decide +kernel
theorem own_d11_3 : decode jdk_42_method_139_code 3 = .ok (.ifCond .eq 23, 3) := by decide +kernel
theorem own_d11_6 : decode jdk_42_method_139_code 6 = .ok (.iload_n 0, 1) := by decide +kernel
theorem own_d11_7 : decode jdk_42_method_139_code 7 = .ok (.invokestatic 1015, 3) := by decide +kernel
theorem own_pd5 : parseMethodDescriptor "(C)Z" = some ⟨[.char], some .boolean⟩ := by decide +kernel
theorem own_d11_10 : decode jdk_42_method_139_code 10 = .ok (.ifCond .eq 16, 3) := by decide +kernel
theorem own_d11_13 : decode jdk_42_method_139_code 13 = .ok (.new 10, 3) := by decide +kernel
theorem own_d11_16 : decode jdk_42_method_139_code 16 = .ok (.dup, 1) := by decide +kernel
theorem own_d11_17 : decode jdk_42_method_139_code 17 = .ok (.iload_n 0, 1) := by decide +kernel
theorem own_d11_18 : decode jdk_42_method_139_code 18 = .ok (.invokestatic 1018, 3) := by decide +kernel
theorem own_pd6 : parseMethodDescriptor "(C)[B" = some ⟨[.char], some (.array .byte)⟩ := by decide +kernel
theorem own_d11_21 : decode jdk_42_method_139_code 21 = .ok (.iconst 0, 1) := by decide +kernel
theorem own_d11_22 : decode jdk_42_method_139_code 22 = .ok (.invokespecial 209, 3) := by decide +kernel
theorem own_pd7 : parseMethodDescriptor "([BB)V" = some ⟨[(.array .byte), .byte], none⟩ := by decide +kernel
theorem own_d11_25 : decode jdk_42_method_139_code 25 = .ok (.areturn, 1) := by decide +kernel
theorem ef_vo (m : MethodId) (p0 : Int32) : entryFrame m #[(.int p0)] 1 = mkF m 0 #[.val (.int p0)] [] := by first | (simp [entryFrame, mkF, argsToLocals, Value.category]; done) | rfl
def Q_vo (Z : State) (p0 : Int32) (G1 : Int32) (h0 : Heap) (n0 : Nat) (v : Option Value) (h : Heap) (L : List Loc) : Prop := ∃ (a t : Addr) (kb : ClassId), v = some (.ref a) ∧ Fr n0 L ∧ Keep h0 h [] ∧ Str Z h a t kb [p0]
set_option maxRecDepth 65536 in
set_option maxHeartbeats 40000000 in
theorem rm_vo (l : Launch) (Z : State) (a0 : Array Value) (hw : ∀ d ∈ tables_1, d.before a0 Z = true) (ws : List Jvm.Cond) (p0 : Int32) (G1 : Int32) (h0 : Heap) (n0 : Nat) (Z0 : n0 ≤ h0.size) (O2 : Sta Z Z.heap "java/lang/String" "COMPACT_STRINGS" "Z" (.int G1)) (P5 : ¬ (G1 = (0 : Int32))) (X00 : Old Z n0 h0) (hp : ¬ (255 : Int32) < p0) :
    MetFree l (⟨"java/lang/String", "valueOf", "(C)Ljava/lang/String;"⟩ : MethodName) (head1 (Jvm.Cond.code (⟨"java/lang/String", "valueOf", "(C)Ljava/lang/String;"⟩ : MethodName) jdk_42_method_139_code 1 (some (.object "java/lang/String")) :: ws) ({ frames := 2, cells := 2, slots := 5, locals := 27 } : Room)) (fun a U => a = #[(.int p0)] ∧ Z.Warmed39 U.vm ∧ U.heap = h0) (fun _ _ _ _ _ => True) (fun _ U o U' => ∃ v L, o = .returned v ∧ Q_vo Z p0 G1 h0 n0 v U'.heap L ∧ FrameEnd U o U' L ({ frames := 2, cells := 2, slots := 5, locals := 27 } : Room).cells ({ frames := 2, cells := 2, slots := 5, locals := 27 } : Room).slots) := by
  refine MetFree.of_bodySF (plainFor_of_name own_pn4) hisR ?_
  intro p e s m args below meth c s₁ Bd hml0 hP hK
  obtain ⟨rfl, hZ, hh⟩ := hP
  have hx := Bd.exec
  have hby := Bd.bytes
  have hml : c.maxLocals = 1 := hml0
  have hown : s.vm.findClass "java/lang/String" = some m.cls := findClass_of_methodNamed Bd.named
  have hnm := (name_of_methodNamed Bd.named Bd.method).1
  have X0 : Stand p l e ({ frames := 2, cells := 2, slots := 5, locals := 27 } : Room) s m #[(.int p0)] below meth c s₁ [] 0 0 := Stand.of_body Bd
  have e0 : s₁.heap = h0 := by rw [← hh, Bd.state]; rfl
  have N0 := Fr.nil n0
  have pre0 : ∀ t, Steps p.tables e below (s₁.setTop (mkF m 0 #[.val (.int p0)] [])) t → Steps p.tables e below (s₁.setTop (entryFrame m #[(.int p0)] 1)) t := fun t k => castTop (ef_vo m p0) k
  have K0 : Keep h0 h0 [] := Keep.refl h0 _
  obtain ⟨T1, X1, e1, st1⟩ := getS2 X0 hx hZ hown (host := "") (Or.inl (hw _ (List.mem_of_getElem? (i := 35) rfl))) Via.refl e0 (O2.ext X00.2) (g := (mkF m 0 #[.val (.int p0)] [])) rfl (hb hby own_d11_0)
  obtain ⟨_, _, ⟨T2, L2, k2, n2⟩, -, X2, ⟨Lc2, hQ2, l2, y2, z2⟩, st2⟩ := Jvm.LawKit.callS X1 hx (y := (⟨"java/lang/StringLatin1", "canEncode", "(C)Z"⟩ : MethodName)) hown (mvT hZ (hw _ (List.mem_of_getElem? (i := 49) rfl))) (mvT hZ (hw _ (List.mem_of_getElem? (i := 50) rfl))) (mvT hZ (hw _ (List.mem_of_getElem? (i := 51) rfl))) (mvT hZ (hw _ (List.mem_of_getElem? (i := 52) rfl))) (by decide) (backOf (W := 0) (rm_ce l Z a0 hw [] p0 h0 n0 Z0) hZ (hw _ (List.mem_of_getElem? (i := 52) rfl)) (hw _ (List.mem_of_getElem? (i := 51) rfl)) (by decide) (by decide)) (g := (mkF m 7 #[.val (.int p0)] [(.int p0)])) rfl (by rw [hml]; rfl) (argsL := [(.int p0)]) (rest := []) (lenOf own_pd5 rfl) rfl (by show 2 * 0 + _ ≤ _; exact Nat.le_of_eq rfl) (hb hby own_d11_7) (fun _ _ => ⟨rfl, e1, (by decide : 0 + 0 ≤ _), (by decide : 0 + 0 ≤ _)⟩)
  dsimp only [Pt.U, Pt.locs, Pt.cells, Pt.slots] at X2 l2 y2 z2 st2 hQ2
  subst l2 y2 z2
  obtain ⟨rfl, N2q, e2⟩ := hQ2
  have N2 := Fr.app N0 N2q
  obtain ⟨T3, h3, X3, e3, E3, A3, D3, -, st3⟩ := newO X2 hx hZ hown (hw _ (List.mem_of_getElem? (i := 53) rfl)) (hw _ (List.mem_of_getElem? (i := 8) rfl)) (hw _ (List.mem_of_getElem? (i := 9) rfl)) e2 (g := (mkF m 13 #[.val (.int p0)] [])) rfl (hb hby own_d11_13) (by decide) (by decide)
  obtain ⟨b3, g3⟩ : ∃ z, z = h0.size := ⟨_, rfl⟩
  rw [← g3] at A3 D3 st3
  have g_b3 : n0 ≤ b3 := Nat.le_trans Z0 (Nat.le_of_eq g3.symm)
  have sz_b3 : h0.size ≤ b3 := Nat.le_trans K0.1 (Nat.le_of_eq g3.symm)
  have od4 := X00.ext E3
  have Z3 : n0 ≤ h3.size := Nat.le_trans Z0 E3.1
  have K3 := K0.ext E3
  have F_value_b3 : Fld Z h3 b3 "java/lang/String" "value" "[B" .null := D3 (Or.inr (hw _ (List.mem_of_getElem? (i := 23) rfl))) (ty := (.array .byte)) (by decide)
  have F_coder_b3 : Fld Z h3 b3 "java/lang/String" "coder" "B" (.int (0 : Int32)) := D3 (Or.inr (hw _ (List.mem_of_getElem? (i := 24) rfl))) (ty := .byte) (by decide)
  obtain ⟨_, _, ⟨T5, L5, k5, n5⟩, -, X5, ⟨Lc5, hQ5, l5, y5, z5⟩, st5⟩ := Jvm.LawKit.callS X3 hx (y := (⟨"java/lang/StringLatin1", "toBytes", "(C)[B"⟩ : MethodName)) hown (mvT hZ (hw _ (List.mem_of_getElem? (i := 54) rfl))) (mvT hZ (hw _ (List.mem_of_getElem? (i := 55) rfl))) (mvT hZ (hw _ (List.mem_of_getElem? (i := 51) rfl))) (mvT hZ (hw _ (List.mem_of_getElem? (i := 56) rfl))) (by decide) (backOf (W := 2) (rm_tb l Z a0 hw [] p0 h3 n0 Z3) hZ (hw _ (List.mem_of_getElem? (i := 56) rfl)) (hw _ (List.mem_of_getElem? (i := 51) rfl)) (by decide) (by decide)) (g := (mkF m 18 #[.val (.int p0)] [(.int p0), (.ref b3), (.ref b3)])) rfl (by rw [hml]; rfl) (argsL := [(.int p0)]) (rest := [(.ref b3), (.ref b3)]) (lenOf own_pd6 rfl) rfl (by show 2 * 0 + _ ≤ _; exact Nat.le_of_eq rfl) (hb hby own_d11_18) (fun _ _ => ⟨rfl, e3, (by decide : 1 + 1 ≤ _), (by decide : 4 + 1 ≤ _)⟩)
  dsimp only [Pt.U, Pt.locs, Pt.cells, Pt.slots] at X5 l5 y5 z5 st5 hQ5
  subst l5 y5 z5
  obtain ⟨b5, kq5, rfl, Nq5, szq5, Kq5, Vq5⟩ := hQ5
  have N5 := Fr.app N2 Nq5
  have od6 := od4.keep Kq5 all0
  have f6_1 := A3.keep Kq5
  have f6_2 := F_value_b3.keep Kq5 nin0
  have f6_3 := F_coder_b3.keep Kq5 nin0
  have Z5 : n0 ≤ T5.heap.size := Nat.le_trans Z3 Kq5.1
  have K5 := K3.trans Kq5 all0
  have ne_b3_b5 : b3 ≠ b5 := Nat.ne_of_lt (Nat.lt_of_lt_of_le A3.lt szq5)
  obtain ⟨_, _, ⟨T7, L7, k7, n7⟩, -, X7, ⟨Lc7, hQ7, l7, y7, z7⟩, st7⟩ := X5.specialBack hx (y := (⟨"java/lang/String", "<init>", "([BB)V"⟩ : MethodName)) rfl hown (mvT hZ (hw _ (List.mem_of_getElem? (i := 57) rfl))) (mvT hZ (hw _ (List.mem_of_getElem? (i := 58) rfl))) (mvT hZ (hw _ (List.mem_of_getElem? (i := 59) rfl))) (by decide) (backOf (W := 1) (rm_ibb l Z a0 hw [] b3 b5 T5.heap n0 Z5 f6_1 g_b3 f6_2 f6_3) hZ (hw _ (List.mem_of_getElem? (i := 59) rfl)) (hw _ (List.mem_of_getElem? (i := 9) rfl)) (by decide) (by decide)) (g := (mkF m 22 #[.val (.int p0)] [(.int (0 : Int32)), (.ref b5), (.ref b3), (.ref b3)])) rfl (by rw [hml]; rfl) (Steps.refl _) (a := b3) (argsL := [(.ref b5), (.int (0 : Int32))]) (rest := [(.ref b3)]) (lenOf own_pd7 rfl) rfl (by show 2 * 0 + _ ≤ _; exact Nat.le_of_eq rfl) (hb hby own_d11_22) (fun _ _ => ⟨rfl, rfl, (by decide : 2 + 0 ≤ _), (by decide : 5 + 0 ≤ _)⟩)
  dsimp only [Pt.U, Pt.locs, Pt.cells, Pt.slots] at X7 l7 y7 z7 st7 hQ7
  subst l7 y7 z7
  obtain ⟨rfl, Nq7, Kq7, Eq7, Fcq7, Fvq7⟩ := hQ7
  have N7 := Fr.app N5 Nq7
  have od8 := od6.keep Kq7 (allS g_b3 all0)
  have f8_1 := f6_1.keep Kq7
  have f8_4 := Vq5.keep Kq7 (ninS (Ne.symm ne_b3_b5) nin0)
  have Z7 : n0 ≤ T7.heap.size := Nat.le_trans Z5 Kq7.1
  have K7 := K5.trans Kq7 (allS (Or.inr sz_b3) all0)
  obtain ⟨fs, hr, hrun, hended, hW, hsame⟩ := X7.leave (v := some (.ref b3)) (fun h => by rw [Bd.returns] at h; cases h)
  refine ⟨_, _, pre0 _ ?_, hrun, hended, _, _, rfl, ?_, ⟨_, rfl⟩, hW, hsame.mono (by decide) (by decide)⟩
  · show Steps p.tables e below (s₁.setTop (mkF m 0 #[.val (.int p0)] [])) _
    refine st1 _ ?_
    show Steps p.tables e below (T1.setTop (mkF m 3 #[.val (.int p0)] [(.int G1)])) _
    refine XS.ifNo X1.here hx rfl (hb hby own_d11_3) rfl ((if0 _ _).trans (feq P5).1) ?_
    show Steps p.tables e below (T1.setTop (mkF m 6 #[.val (.int p0)] [])) _
    refine XS.iloadN X1.here hx rfl (hb hby own_d11_6) rfl ?_
    show Steps p.tables e below (T1.setTop (mkF m 7 #[.val (.int p0)] [(.int p0)])) _
    refine st2 _ ?_
    show Steps p.tables e below (T2.setTop (mkF m 10 #[.val (.int p0)] [(.int (fn_ce p0))])) _
    refine XS.ifNo X2.here hx rfl (hb hby own_d11_10) rfl ((if0 _ _).trans (feq (own_ce hp)).1) ?_
    show Steps p.tables e below (T2.setTop (mkF m 13 #[.val (.int p0)] [])) _
    refine st3 _ ?_
    show Steps p.tables e below (T3.setTop (mkF m 16 #[.val (.int p0)] [(.ref b3)])) _
    refine XS.dup X3.here hx rfl (hb hby own_d11_16) rfl rfl ?_
    show Steps p.tables e below (T3.setTop (mkF m 17 #[.val (.int p0)] [(.ref b3), (.ref b3)])) _
    refine XS.iloadN X3.here hx rfl (hb hby own_d11_17) rfl ?_
    show Steps p.tables e below (T3.setTop (mkF m 18 #[.val (.int p0)] [(.int p0), (.ref b3), (.ref b3)])) _
    refine st5 _ ?_
    show Steps p.tables e below (T5.setTop (mkF m 21 #[.val (.int p0)] [(.ref b5), (.ref b3), (.ref b3)])) _
    refine XS.iconst X5.here hx rfl (hb hby own_d11_21) ?_
    show Steps p.tables e below (T5.setTop (mkF m 22 #[.val (.int p0)] [(.int (0 : Int32)), (.ref b5), (.ref b3), (.ref b3)])) _
    refine st7.trans ?_
    show Steps p.tables e below (T7.setTop (mkF m 25 #[.val (.int p0)] [(.ref b3)])) _
    jvm_step X7.here [X7.here.top, hx, (hb hby own_d11_25), X7.method', Bd.returns, Value.isRef, FieldType.isReference]
    first | (intro acts; rw [hr _ acts rfl rfl rfl]) | rw [hr _ _ rfl rfl rfl]
    exact Steps.refl _
  · show Q_vo Z p0 G1 h0 n0 _ T7.heap _
    exact ⟨b3, b5, kq5, rfl, N7, K7, f8_1, Fcq7, Fvq7, f8_4⟩
theorem own_d4_0 : decode jdk_42_method_149_code 0 = .ok (.aload_n 0, 1) := by decide +kernel
theorem own_d4_1 : decode jdk_42_method_149_code 1 = .ok (.invokespecial 1, 3) := by decide +kernel
theorem own_d4_4 : decode jdk_42_method_149_code 4 = .ok (.iload_n 3, 1) := by decide +kernel
theorem own_d4_5 : decode jdk_42_method_149_code 5 = .ok (.ifCond .ne 22, 3) := by decide +kernel
theorem own_d4_8 : decode jdk_42_method_149_code 8 = .ok (.aload_n 0, 1) := by decide +kernel
theorem own_d4_9 : decode jdk_42_method_149_code 9 = .ok (.ldc 7, 2) := by decide +kernel
theorem own_d4_11 : decode jdk_42_method_149_code 11 = .ok (.getfield 9, 3) := by decide +kernel
theorem own_d4_14 : decode jdk_42_method_149_code 14 = .ok (.putfield 9, 3) := by decide +kernel
theorem own_d4_17 : decode jdk_42_method_149_code 17 = .ok (.aload_n 0, 1) := by decide +kernel
theorem own_d4_18 : decode jdk_42_method_149_code 18 = .ok (.ldc 7, 2) := by decide +kernel
theorem own_d4_20 : decode jdk_42_method_149_code 20 = .ok (.getfield 15, 3) := by decide +kernel
theorem own_d4_23 : decode jdk_42_method_149_code 23 = .ok (.putfield 15, 3) := by decide +kernel
theorem own_d4_26 : decode jdk_42_method_149_code 26 = .ok (.return_, 1) := by decide +kernel
theorem ef_e4 (m : MethodId) (r0 : Addr) (r1 : Addr) : entryFrame m #[(.ref r0), (.ref r1), (.int (0 : Int32)), (.int (0 : Int32)), .null] 6 = mkF m 0 #[.val (.ref r0), .val (.ref r1), .val (.int (0 : Int32)), .val (.int (0 : Int32)), .val .null, .unset] [] := by first | (simp [entryFrame, mkF, argsToLocals, Value.category]; done) | rfl
def Q_e4 (Z : State) (r0 : Addr) (r1 : Addr) (h0 : Heap) (n0 : Nat) (v : Option Value) (h : Heap) (L : List Loc) : Prop := v = none ∧ Fr n0 L ∧ Keep h0 h [r0] ∧ ∃ (t : Addr) (kb : ClassId), Str Z h r0 t kb []
set_option maxRecDepth 65536 in
set_option maxHeartbeats 40000000 in
theorem rm_e4 (l : Launch) (Z : State) (a0 : Array Value) (hw : ∀ d ∈ tables_1, d.before a0 Z = true) (ws : List Jvm.Cond) (r0 : Addr) (r1 : Addr) (h0 : Heap) (n0 : Nat) (Z0 : n0 ≤ h0.size) (E_r0 : Exa Z h0 r0 "java/lang/String") (g_r0 : n0 ≤ r0) (F_value : Fld Z h0 r0 "java/lang/String" "value" "[B" .null) (F_coder : Fld Z h0 r0 "java/lang/String" "coder" "B" (.int (0 : Int32))) (al : True) :
    MetFree l (⟨"java/lang/String", "<init>", "([CIILjava/lang/Void;)V"⟩ : MethodName) (head1 (Jvm.Cond.code (⟨"java/lang/String", "<init>", "([CIILjava/lang/Void;)V"⟩ : MethodName) jdk_42_method_149_code 6 none :: ws) ({ frames := 1, cells := 4, slots := 8, locals := 12 } : Room)) (fun a U => a = #[(.ref r0), (.ref r1), (.int (0 : Int32)), (.int (0 : Int32)), .null] ∧ Z.Warmed39 U.vm ∧ U.heap = h0 ∧ CHv Z consts_1 U.vm h0) (fun _ _ _ _ _ => True) (fun _ U o U' => ∃ v L, o = .returned v ∧ Q_e4 Z r0 r1 h0 n0 v U'.heap L ∧ CHr Z consts_1 U.vm U.heap U'.vm U'.heap ∧ ReturnedEndW U o U' L ({ frames := 1, cells := 4, slots := 8, locals := 12 } : Room).cells ({ frames := 1, cells := 4, slots := 8, locals := 12 } : Room).slots) := by
  refine MetFree.of_bodySF (plainFor_of_name own_pn4) hisR ?_
  intro p e s m args below meth c s₁ Bd hml0 hP hK
  obtain ⟨rfl, hZ, hh, hC0⟩ := hP
  have hx := Bd.exec
  have hby := Bd.bytes
  have hml : c.maxLocals = 6 := hml0
  have hown : s.vm.findClass "java/lang/String" = some m.cls := findClass_of_methodNamed Bd.named
  have hnm := (name_of_methodNamed Bd.named Bd.method).1
  have X0 : Stand p l e ({ frames := 1, cells := 4, slots := 8, locals := 12 } : Room) (s.setVm s.vm) m #[(.ref r0), (.ref r1), (.int (0 : Int32)), (.int (0 : Int32)), .null] below meth c s₁ [] 0 0 := Stand.of_body Bd
  have e0 : s₁.heap = h0 := by rw [← hh, Bd.state]; rfl
  have N0 := Fr.nil n0
  have pre0 : ∀ t, Steps p.tables e below (s₁.setTop (mkF m 0 #[.val (.ref r0), .val (.ref r1), .val (.int (0 : Int32)), .val (.int (0 : Int32)), .val .null, .unset] [])) t → Steps p.tables e below (s₁.setTop (entryFrame m #[(.ref r0), (.ref r1), (.int (0 : Int32)), (.int (0 : Int32)), .null] 6)) t := fun t k => castTop (ef_e4 m r0 r1) k
  have hEL := own_EW hw
  have wS := own_wS hw
  have hS0 : s.Since s.vm s.heap.size := (State.WarmedH.refl s).since _
  have hk0 : s.heap.size ≤ h0.size := by rw [hh]; exact Nat.le_refl _
  have hA0 : CHr Z consts_1 s.vm h0 s.vm h0 := CHr.refl hC0
  have K0 : Keep h0 h0 [r0] := Keep.refl h0 _
  have sb_r0 : Safe Z consts_1 s.vm h0 r0 := own_blank hZ.alike E_r0 F_value
  have pre1 : ∀ t, Steps p.tables e below (s₁.setTop (mkF m 1 #[.val (.ref r0), .val (.ref r1), .val (.int (0 : Int32)), .val (.int (0 : Int32)), .val .null, .unset] [(.ref r0)])) t → Steps p.tables e below (s₁.setTop (entryFrame m #[(.ref r0), (.ref r1), (.int (0 : Int32)), (.int (0 : Int32)), .null] 6)) t := fun t k => pre0 t (by
    show Steps p.tables e below (s₁.setTop (mkF m 0 #[.val (.ref r0), .val (.ref r1), .val (.int (0 : Int32)), .val (.int (0 : Int32)), .val .null, .unset] [])) t
    refine XS.aloadN X0.here hx rfl (hb hby own_d4_0) rfl rfl ?_
    exact k)
  obtain ⟨T2, X2, e2, st2⟩ := initO X0 hx hZ hown (hw _ (List.mem_of_getElem? (i := 18) rfl)) (hw _ (List.mem_of_getElem? (i := 19) rfl)) (hw _ (List.mem_of_getElem? (i := 20) rfl)) e0 (g := (mkF m 1 #[.val (.ref r0), .val (.ref r1), .val (.int (0 : Int32)), .val (.int (0 : Int32)), .val .null, .unset] [(.ref r0)])) rfl (by rw [hml]; rfl) rfl (hb hby own_d4_1) (by decide) (W := 0) (by show 2 * 0 + _ ≤ _; exact Nat.le_of_eq rfl) (by decide)
  have pre3 : ∀ t, Steps p.tables e below (T2.setTop (mkF m 9 #[.val (.ref r0), .val (.ref r1), .val (.int (0 : Int32)), .val (.int (0 : Int32)), .val .null, .unset] [(.ref r0)])) t → Steps p.tables e below (s₁.setTop (entryFrame m #[(.ref r0), (.ref r1), (.int (0 : Int32)), (.int (0 : Int32)), .null] 6)) t := fun t k => pre1 t (by
    show Steps p.tables e below (s₁.setTop (mkF m 1 #[.val (.ref r0), .val (.ref r1), .val (.int (0 : Int32)), .val (.int (0 : Int32)), .val .null, .unset] [(.ref r0)])) t
    refine st2 _ ?_
    show Steps p.tables e below (T2.setTop (mkF m 4 #[.val (.ref r0), .val (.ref r1), .val (.int (0 : Int32)), .val (.int (0 : Int32)), .val .null, .unset] [])) t
    refine XS.iloadN X2.here hx rfl (hb hby own_d4_4) rfl ?_
    show Steps p.tables e below (T2.setTop (mkF m 5 #[.val (.ref r0), .val (.ref r1), .val (.int (0 : Int32)), .val (.int (0 : Int32)), .val .null, .unset] [(.int (0 : Int32))])) t
    refine XS.ifNo X2.here hx rfl (hb hby own_d4_5) rfl ((if0 _ _).trans (teq (by decide : (0 : Int32) = (0 : Int32))).2) ?_
    show Steps p.tables e below (T2.setTop (mkF m 8 #[.val (.ref r0), .val (.ref r1), .val (.int (0 : Int32)), .val (.int (0 : Int32)), .val .null, .unset] [])) t
    refine XS.aloadN X2.here hx rfl (hb hby own_d4_8) rfl rfl ?_
    exact k)
  obtain ⟨a4, T4, h4, k14, b4, kk4, X4, e4, E4, hS4, hkk4, hZ, hown, Ex4, Fc4, Fv4, Av4, lta4, ltb4, hR4, -, hsf4, st4⟩ := ldcCH X2 hx hZ hown (hw _ (List.mem_of_getElem? (i := 21) rfl)) wS e2 hS0 hk0 hEL (by simp [consts_1]) hC0 (vs := []) (z := (0 : Int32)) ⟨by decide, by decide⟩ (by decide) (by decide) (g := (mkF m 9 #[.val (.ref r0), .val (.ref r1), .val (.int (0 : Int32)), .val (.int (0 : Int32)), .val .null, .unset] [(.ref r0)])) rfl (hb hby own_d4_9) (n := 0) (by decide) (by decide) (by decide) (by decide)
  have sg4_r0 := hR4.safe E_r0.lt sb_r0
  have f5_1 := E_r0.ext E4
  have f5_2 := F_value.ext E4
  have f5_3 := F_coder.ext E4
  have hA4 := hA0.trans hR4
  have hC4 := hR4.1
  have Z4 : n0 ≤ h4.size := Nat.le_trans Z0 E4.1
  have K4 := K0.ext E4
  obtain ⟨T6, X6, e6, st6⟩ := getF X4 hx hZ hown (host := "") (Or.inl (hw _ (List.mem_of_getElem? (i := 27) rfl))) Via.refl e4 Fv4 (g := (mkF m 11 #[.val (.ref r0), .val (.ref r1), .val (.int (0 : Int32)), .val (.int (0 : Int32)), .val .null, .unset] [(.ref a4), (.ref r0)])) rfl rfl (hb hby own_d4_11)
  obtain ⟨T7, h7, X7, e7, W7, st7⟩ := putF X6 hx hZ hown (host := "") (Or.inl (hw _ (List.mem_of_getElem? (i := 27) rfl))) Via.refl e6 f5_2 f5_1 (Or.inr ⟨(hw _ (List.mem_of_getElem? (i := 23) rfl)), rfl, hnm⟩) (hw _ (List.mem_of_getElem? (i := 8) rfl)) (ty := (.array .byte)) (by decide) rfl rfl (g := (mkF m 14 #[.val (.ref r0), .val (.ref r1), .val (.int (0 : Int32)), .val (.int (0 : Int32)), .val .null, .unset] [(.ref b4), (.ref r0)])) rfl rfl (hb hby own_d4_14)
  have Fw7 := f5_2.same W7
  have sf8_r0 := Safe.wr W7 sg4_r0 hC4 sg4_r0
  have hr8 := CHr.wr W7 sg4_r0 hC4
  have hA8 := hA4.trans hr8
  have hC8 := hr8.1
  have hk8 := Nat.le_trans hkk4 hr8.2.1
  have f8_1 := f5_1.wr W7
  have f8_3 := f5_3.other W7 (Or.inr (slot_ne (Or.inr (hw _ (List.mem_of_getElem? (i := 24) rfl))) (Or.inr (hw _ (List.mem_of_getElem? (i := 23) rfl))) (by decide) (t := .byte) (t' := (.array .byte)) (by decide) (by decide)))
  have f8_4 := Ex4.wr W7
  have f8_5 := Fc4.other W7 (Or.inl (Ne.symm (hsf4 _ sg4_r0).1))
  have f8_6 := Fv4.other W7 (Or.inl (Ne.symm (hsf4 _ sg4_r0).1))
  have f8_7 := Av4.other W7 (Ne.symm (hsf4 _ sg4_r0).2)
  have N7 := Fr.snoc X7 N0 g_r0
  have Z7 : n0 ≤ h7.size := Nat.le_trans Z4 (Keep.of_wr W7).1
  have K7 := K4.wr W7 (Or.inl (by simp))
  have pre9 : ∀ t, Steps p.tables e below (T7.setTop (mkF m 18 #[.val (.ref r0), .val (.ref r1), .val (.int (0 : Int32)), .val (.int (0 : Int32)), .val .null, .unset] [(.ref r0)])) t → Steps p.tables e below (s₁.setTop (entryFrame m #[(.ref r0), (.ref r1), (.int (0 : Int32)), (.int (0 : Int32)), .null] 6)) t := fun t k => pre3 t (by
    show Steps p.tables e below (T2.setTop (mkF m 9 #[.val (.ref r0), .val (.ref r1), .val (.int (0 : Int32)), .val (.int (0 : Int32)), .val .null, .unset] [(.ref r0)])) t
    refine st4 _ ?_
    show Steps p.tables e below (T4.setTop (mkF m 11 #[.val (.ref r0), .val (.ref r1), .val (.int (0 : Int32)), .val (.int (0 : Int32)), .val .null, .unset] [(.ref a4), (.ref r0)])) t
    refine st6 _ ?_
    show Steps p.tables e below (T6.setTop (mkF m 14 #[.val (.ref r0), .val (.ref r1), .val (.int (0 : Int32)), .val (.int (0 : Int32)), .val .null, .unset] [(.ref b4), (.ref r0)])) t
    refine st7 _ ?_
    show Steps p.tables e below (T7.setTop (mkF m 17 #[.val (.ref r0), .val (.ref r1), .val (.int (0 : Int32)), .val (.int (0 : Int32)), .val .null, .unset] [])) t
    refine XS.aloadN X7.here hx rfl (hb hby own_d4_17) rfl rfl ?_
    exact k)
  obtain ⟨a10, T10, h10, k110, b10, kk10, X10, e10, E10, hS10, hkk10, hZ, hown, Ex10, Fc10, Fv10, Av10, lta10, ltb10, hR10, -, hsf10, st10⟩ := ldcCH X7 hx hZ hown (hw _ (List.mem_of_getElem? (i := 21) rfl)) wS e7 hS4 hk8 hEL (by simp [consts_1]) hC8 (vs := []) (z := (0 : Int32)) ⟨by decide, by decide⟩ (by decide) (by decide) (g := (mkF m 18 #[.val (.ref r0), .val (.ref r1), .val (.int (0 : Int32)), .val (.int (0 : Int32)), .val .null, .unset] [(.ref r0)])) rfl (hb hby own_d4_18) (n := 0) (by decide) (by decide) (by decide) (by decide)
  have sg10_r0 := hR10.safe f8_1.lt sf8_r0
  have f11_1 := f8_1.ext E10
  have f11_2 := Fw7.ext E10
  have f11_3 := f8_3.ext E10
  have f11_4 := f8_4.ext E10
  have f11_5 := f8_5.ext E10
  have f11_6 := f8_6.ext E10
  have f11_7 := f8_7.ext E10
  have hA10 := hA8.trans hR10
  have hC10 := hR10.1
  have Z10 : n0 ≤ h10.size := Nat.le_trans Z7 E10.1
  have K10 := K7.ext E10
  obtain ⟨T12, X12, e12, st12⟩ := getF X10 hx hZ hown (host := "") (Or.inl (hw _ (List.mem_of_getElem? (i := 28) rfl))) Via.refl e10 Fc10 (g := (mkF m 20 #[.val (.ref r0), .val (.ref r1), .val (.int (0 : Int32)), .val (.int (0 : Int32)), .val .null, .unset] [(.ref a10), (.ref r0)])) rfl rfl (hb hby own_d4_20)
  obtain ⟨T13, h13, X13, e13, W13, st13⟩ := putFN X12 hx hZ hown (hw _ (List.mem_of_getElem? (i := 28) rfl)) Via.refl e12 f11_3 f11_1 (Or.inr ⟨(hw _ (List.mem_of_getElem? (i := 24) rfl)), rfl, hnm⟩) (hw _ (List.mem_of_getElem? (i := 8) rfl)) (ty := .byte) (v' := (.int (0 : Int32))) (by decide) rfl rfl (g := (mkF m 23 #[.val (.ref r0), .val (.ref r1), .val (.int (0 : Int32)), .val (.int (0 : Int32)), .val .null, .unset] [(.int (0 : Int32)), (.ref r0)])) rfl rfl (hb hby own_d4_23)
  have Fw13 := f11_3.same W13
  have sf14_r0 := Safe.wr W13 sg10_r0 hC10 sg10_r0
  have hr14 := CHr.wr W13 sg10_r0 hC10
  have hA14 := hA10.trans hr14
  have hC14 := hr14.1
  have hk14 := Nat.le_trans hkk10 hr14.2.1
  have f14_1 := f11_1.wr W13
  have f14_2 := f11_2.other W13 (Or.inr (slot_ne (Or.inr (hw _ (List.mem_of_getElem? (i := 23) rfl))) (Or.inr (hw _ (List.mem_of_getElem? (i := 24) rfl))) (by decide) (t := (.array .byte)) (t' := .byte) (by decide) (by decide)))
  have f14_4 := f11_4.wr W13
  have f14_5 := f11_5.other W13 (Or.inl (Ne.symm (hsf4 _ sg4_r0).1))
  have f14_6 := f11_6.other W13 (Or.inl (Ne.symm (hsf4 _ sg4_r0).1))
  have f14_7 := f11_7.other W13 (Ne.symm (hsf4 _ sg4_r0).2)
  have f14_8 := Ex10.wr W13
  have f14_9 := Fc10.other W13 (Or.inl (Ne.symm (hsf10 _ sg10_r0).1))
  have f14_10 := Fv10.other W13 (Or.inl (Ne.symm (hsf10 _ sg10_r0).1))
  have f14_11 := Av10.other W13 (Ne.symm (hsf10 _ sg10_r0).2)
  have N13 := Fr.snoc X13 N7 g_r0
  have Z13 : n0 ≤ h13.size := Nat.le_trans Z10 (Keep.of_wr W13).1
  have K13 := K10.wr W13 (Or.inl (by simp))
  obtain ⟨fs, hr, hrun, hended, hEnd⟩ := X13.leaveW hS10 (by rw [e13]; exact hk14) (v := none) (fun _ => rfl)
  have hAe := hA14.trans (CHv.at X13 hZ hEL hC14)
  refine ⟨_, _, pre9 _ ?_, hrun, hended, _, _, rfl, ?_, ?_, hEnd.1, hEnd.2.1, hEnd.2.2.1, hEnd.2.2.2.mono (by decide) (by decide)⟩
  · show Steps p.tables e below (T7.setTop (mkF m 18 #[.val (.ref r0), .val (.ref r1), .val (.int (0 : Int32)), .val (.int (0 : Int32)), .val .null, .unset] [(.ref r0)])) _
    refine st10 _ ?_
    show Steps p.tables e below (T10.setTop (mkF m 20 #[.val (.ref r0), .val (.ref r1), .val (.int (0 : Int32)), .val (.int (0 : Int32)), .val .null, .unset] [(.ref a10), (.ref r0)])) _
    refine st12 _ ?_
    show Steps p.tables e below (T12.setTop (mkF m 23 #[.val (.ref r0), .val (.ref r1), .val (.int (0 : Int32)), .val (.int (0 : Int32)), .val .null, .unset] [(.int (0 : Int32)), (.ref r0)])) _
    refine st13 _ ?_
    show Steps p.tables e below (T13.setTop (mkF m 26 #[.val (.ref r0), .val (.ref r1), .val (.int (0 : Int32)), .val (.int (0 : Int32)), .val .null, .unset] [])) _
    exact X13.returnOut hx Bd.returns (hb hby own_d4_26) hr
  · show Q_e4 Z r0 r1 h0 n0 _ T13.heap _
    rw [e13]
    exact ⟨rfl, N13, K13, b4, kk4, f14_1, Fw13, f14_2, f14_7⟩
  · rw [hh]
    show CHr Z consts_1 s.vm h0 T13.vm T13.heap
    rw [e13]
    exact hAe
theorem own_d3_0 : decode jdk_42_method_3_code 0 = .ok (.aload_n 0, 1) := by decide +kernel
theorem own_d3_1 : decode jdk_42_method_3_code 1 = .ok (.aload_n 1, 1) := by decide +kernel
theorem own_d3_2 : decode jdk_42_method_3_code 2 = .ok (.iconst 0, 1) := by decide +kernel
theorem own_d3_3 : decode jdk_42_method_3_code 3 = .ok (.aload_n 1, 1) := by decide +kernel
theorem own_d3_4 : decode jdk_42_method_3_code 4 = .ok (.arraylength, 1) := by decide +kernel
theorem own_d3_5 : decode jdk_42_method_3_code 5 = .ok (.aconst_null, 1) := by decide +kernel
theorem own_d3_6 : decode jdk_42_method_3_code 6 = .ok (.invokespecial 27, 3) := by decide +kernel
theorem own_pd8 : parseMethodDescriptor "([CIILjava/lang/Void;)V" = some ⟨[(.array .char), .int, .int, (.object "java/lang/Void")], none⟩ := by decide +kernel
theorem own_d3_9 : decode jdk_42_method_3_code 9 = .ok (.return_, 1) := by decide +kernel
theorem ef_e3 (m : MethodId) (r0 : Addr) (r1 : Addr) : entryFrame m #[(.ref r0), (.ref r1)] 2 = mkF m 0 #[.val (.ref r0), .val (.ref r1)] [] := by first | (simp [entryFrame, mkF, argsToLocals, Value.category]; done) | rfl
def Q_e3 (Z : State) (r0 : Addr) (r1 : Addr) (kc : ClassId) (h0 : Heap) (n0 : Nat) (v : Option Value) (h : Heap) (L : List Loc) : Prop := v = none ∧ Fr n0 L ∧ Keep h0 h [r0] ∧ ∃ (t : Addr) (kb : ClassId), Str Z h r0 t kb []
set_option maxRecDepth 65536 in
set_option maxHeartbeats 40000000 in
theorem rm_e3 (l : Launch) (Z : State) (a0 : Array Value) (hw : ∀ d ∈ tables_1, d.before a0 Z = true) (ws : List Jvm.Cond) (r0 : Addr) (r1 : Addr) (kc : ClassId) (h0 : Heap) (n0 : Nat) (Z0 : n0 ≤ h0.size) (E_r0 : Exa Z h0 r0 "java/lang/String") (g_r0 : n0 ≤ r0) (F_value : Fld Z h0 r0 "java/lang/String" "value" "[B" .null) (F_coder : Fld Z h0 r0 "java/lang/String" "coder" "B" (.int (0 : Int32))) (al : True) (V_r1 : Arv Z h0 r1 kc .char (0 : Int32) [] (.int (0 : Int32))) (ne1 : r1 ≠ r0) :
    MetFree l (⟨"java/lang/String", "<init>", "([C)V"⟩ : MethodName) (head1 (Jvm.Cond.code (⟨"java/lang/String", "<init>", "([C)V"⟩ : MethodName) jdk_42_method_3_code 2 none :: ws) ({ frames := 2, cells := 4, slots := 8, locals := 29 } : Room)) (fun a U => a = #[(.ref r0), (.ref r1)] ∧ Z.Warmed39 U.vm ∧ U.heap = h0 ∧ CHv Z consts_1 U.vm h0) (fun _ _ _ _ _ => True) (fun _ U o U' => ∃ v L, o = .returned v ∧ Q_e3 Z r0 r1 kc h0 n0 v U'.heap L ∧ CHr Z consts_1 U.vm U.heap U'.vm U'.heap ∧ ReturnedEndW U o U' L ({ frames := 2, cells := 4, slots := 8, locals := 29 } : Room).cells ({ frames := 2, cells := 4, slots := 8, locals := 29 } : Room).slots) := by
  refine MetFree.of_bodySF (plainFor_of_name own_pn4) hisR ?_
  intro p e s m args below meth c s₁ Bd hml0 hP hK
  obtain ⟨rfl, hZ, hh, hC0⟩ := hP
  have hx := Bd.exec
  have hby := Bd.bytes
  have hml : c.maxLocals = 2 := hml0
  have hown : s.vm.findClass "java/lang/String" = some m.cls := findClass_of_methodNamed Bd.named
  have hnm := (name_of_methodNamed Bd.named Bd.method).1
  have X0 : Stand p l e ({ frames := 2, cells := 4, slots := 8, locals := 29 } : Room) (s.setVm s.vm) m #[(.ref r0), (.ref r1)] below meth c s₁ [] 0 0 := Stand.of_body Bd
  have e0 : s₁.heap = h0 := by rw [← hh, Bd.state]; rfl
  have N0 := Fr.nil n0
  have pre0 : ∀ t, Steps p.tables e below (s₁.setTop (mkF m 0 #[.val (.ref r0), .val (.ref r1)] [])) t → Steps p.tables e below (s₁.setTop (entryFrame m #[(.ref r0), (.ref r1)] 2)) t := fun t k => castTop (ef_e3 m r0 r1) k
  have hEL := own_EW hw
  have wS := own_wS hw
  have hS0 : s.Since s.vm s.heap.size := (State.WarmedH.refl s).since _
  have hk0 : s.heap.size ≤ h0.size := by rw [hh]; exact Nat.le_refl _
  have hA0 : CHr Z consts_1 s.vm h0 s.vm h0 := CHr.refl hC0
  have K0 : Keep h0 h0 [r0] := Keep.refl h0 _
  have sb_r0 : Safe Z consts_1 s.vm h0 r0 := own_blank hZ.alike E_r0 F_value
  obtain ⟨cl1, Ar1, q1, S1, Nn1, Hh1, G1⟩ := id V_r1
  have pre2 : ∀ t, Steps p.tables e below (s₁.setTop (mkF m 6 #[.val (.ref r0), .val (.ref r1)] [.null, (.int (0 : Int32)), (.int (0 : Int32)), (.ref r1), (.ref r0)])) t → Steps p.tables e below (s₁.setTop (entryFrame m #[(.ref r0), (.ref r1)] 2)) t := fun t k => pre0 t (by
    show Steps p.tables e below (s₁.setTop (mkF m 0 #[.val (.ref r0), .val (.ref r1)] [])) t
    refine XS.aloadN X0.here hx rfl (hb hby own_d3_0) rfl rfl ?_
    show Steps p.tables e below (s₁.setTop (mkF m 1 #[.val (.ref r0), .val (.ref r1)] [(.ref r0)])) t
    refine XS.aloadN X0.here hx rfl (hb hby own_d3_1) rfl rfl ?_
    show Steps p.tables e below (s₁.setTop (mkF m 2 #[.val (.ref r0), .val (.ref r1)] [(.ref r1), (.ref r0)])) t
    refine XS.iconst X0.here hx rfl (hb hby own_d3_2) ?_
    show Steps p.tables e below (s₁.setTop (mkF m 3 #[.val (.ref r0), .val (.ref r1)] [(.int (0 : Int32)), (.ref r1), (.ref r0)])) t
    refine XS.aloadN X0.here hx rfl (hb hby own_d3_3) rfl rfl ?_
    show Steps p.tables e below (s₁.setTop (mkF m 4 #[.val (.ref r0), .val (.ref r1)] [(.ref r1), (.int (0 : Int32)), (.ref r1), (.ref r0)])) t
    refine X0.arraylength hx (by rw [e0]; exact Ar1.1) (State.isArrayOf_alike hZ.alike Ar1.2.1) (g := (mkF m 4 #[.val (.ref r0), .val (.ref r1)] [(.ref r1), (.int (0 : Int32)), (.ref r1), (.ref r0)])) rfl rfl (hb hby own_d3_4) _ ?_
    rw [len_of S1 Nn1]
    show Steps p.tables e below (s₁.setTop (mkF m 5 #[.val (.ref r0), .val (.ref r1)] [(.int (0 : Int32)), (.int (0 : Int32)), (.ref r1), (.ref r0)])) t
    refine XS.aconstNull X0.here hx rfl (hb hby own_d3_5) ?_
    exact k)
  obtain ⟨_, _, ⟨T3, L3, k3, n3⟩, -, Xs3, hs3, hg3, ⟨Lc3, hQ3, l3, y3, z3, hR3⟩, st3⟩ := X0.specialBackS hx (y := (⟨"java/lang/String", "<init>", "([CIILjava/lang/Void;)V"⟩ : MethodName)) rfl hown (mvT hZ (hw _ (List.mem_of_getElem? (i := 14) rfl))) (mvT hZ (hw _ (List.mem_of_getElem? (i := 15) rfl))) (mvT hZ (hw _ (List.mem_of_getElem? (i := 17) rfl))) (by decide) (backOfSH (W := 0) (rm_e4 l Z a0 hw [] r0 r1 h0 n0 Z0 E_r0 g_r0 F_value F_coder trivial) hZ (hw _ (List.mem_of_getElem? (i := 17) rfl)) (hw _ (List.mem_of_getElem? (i := 9) rfl)) (by decide) (by decide) hEL hC0) (g := (mkF m 6 #[.val (.ref r0), .val (.ref r1)] [.null, (.int (0 : Int32)), (.int (0 : Int32)), (.ref r1), (.ref r0)])) rfl (by rw [hml]; rfl) (Steps.refl _) (a := r0) (argsL := [(.ref r1), (.int (0 : Int32)), (.int (0 : Int32)), .null]) (rest := []) (lenOf own_pd8 rfl) rfl (by show 2 * 0 + _ ≤ _; exact Nat.le_of_eq rfl) (hb hby own_d3_6) (fun _ _ => ⟨rfl, e0, (by decide : 0 + 4 ≤ _), (by decide : 0 + 8 ≤ _)⟩)
  dsimp only [Pt.U, Pt.locs, Pt.cells, Pt.slots] at Xs3 hs3 hg3 l3 y3 z3 st3 hQ3 hR3
  subst l3 y3 z3
  obtain ⟨X3, hS3, hZ, hown⟩ := rebS hS0 (by rw [e0]; exact hk0) Xs3 hs3 hg3 hZ hown
  obtain ⟨rfl, Nq3, Kq3, t3, kb3, Es3, Fs3_c, Fs3_v, Vs3⟩ := hQ3
  have N3 := Fr.app N0 Nq3
  have sg3_r0 := hR3.safe E_r0.lt sb_r0
  have f4_1 := E_r0.keep Kq3
  have f4_4 := V_r1.keep Kq3 (ninS ne1 nin0)
  have hA3 := hA0.trans hR3
  have hC3 := hR3.1
  have hk3 : T3.heap.size ≤ T3.heap.size := Nat.le_refl _
  have Z3 : n0 ≤ T3.heap.size := Nat.le_trans Z0 Kq3.1
  have K3 := K0.trans Kq3 (allS (Or.inl (by simp)) all0)
  obtain ⟨fs, hr, hrun, hended, hEnd⟩ := X3.leaveW hS3 hk3 (v := none) (fun _ => rfl)
  have hAe := hA3.trans (CHv.at X3 hZ hEL hC3)
  refine ⟨_, _, pre2 _ ?_, hrun, hended, _, _, rfl, ?_, ?_, hEnd.1, hEnd.2.1, hEnd.2.2.1, hEnd.2.2.2.mono (by decide) (by decide)⟩
  · show Steps p.tables e below (s₁.setTop (mkF m 6 #[.val (.ref r0), .val (.ref r1)] [.null, (.int (0 : Int32)), (.int (0 : Int32)), (.ref r1), (.ref r0)])) _
    refine st3.trans ?_
    show Steps p.tables e below (T3.setTop (mkF m 9 #[.val (.ref r0), .val (.ref r1)] [])) _
    exact X3.returnOut hx Bd.returns (hb hby own_d3_9) hr
  · show Q_e3 Z r0 r1 kc h0 n0 _ T3.heap _
    exact ⟨rfl, N3, K3, t3, kb3, f4_1, Fs3_c, Fs3_v, Vs3⟩
  · rw [hh]
    show CHr Z consts_1 s.vm h0 T3.vm T3.heap
    exact hAe
theorem own_d1_0 : decode method_5_code 0 = .ok (.iload_n 0, 1) := by decide +kernel
theorem own_d1_1 : decode method_5_code 1 = .ok (.invokestatic 7, 3) := by decide +kernel
theorem own_d1_4 : decode method_5_code 4 = .ok (.istore_n 1, 1) := by decide +kernel
theorem own_d1_5 : decode method_5_code 5 = .ok (.iload_n 1, 1) := by decide +kernel
theorem own_d1_6 : decode method_5_code 6 = .ok (.ifCond .ne 14, 3) := by decide +kernel
theorem own_d1_9 : decode method_5_code 9 = .ok (.new 13, 3) := by decide +kernel
theorem own_d1_12 : decode method_5_code 12 = .ok (.dup, 1) := by decide +kernel
theorem own_d1_13 : decode method_5_code 13 = .ok (.iconst 0, 1) := by decide +kernel
theorem own_d1_14 : decode method_5_code 14 = .ok (.newarray .char, 2) := by decide +kernel
theorem own_d1_16 : decode method_5_code 16 = .ok (.invokespecial 15, 3) := by decide +kernel
theorem own_pd9 : parseMethodDescriptor "([C)V" = some ⟨[(.array .char)], none⟩ := by decide +kernel
theorem own_d1_19 : decode method_5_code 19 = .ok (.areturn, 1) := by decide +kernel
theorem own_d1_20 : decode method_5_code 20 = .ok (.iload_n 1, 1) := by decide +kernel
theorem own_d1_21 : decode method_5_code 21 = .ok (.iconst 1, 1) := by decide +kernel
theorem own_d1_22 : decode method_5_code 22 = .ok (.if_icmp .ne 12, 3) := by decide +kernel
theorem own_d1_25 : decode method_5_code 25 = .ok (.iload_n 0, 1) := by decide +kernel
theorem own_d1_26 : decode method_5_code 26 = .ok (.invokestatic 18, 3) := by decide +kernel
theorem own_d1_29 : decode method_5_code 29 = .ok (.i2c, 1) := by decide +kernel
theorem own_d1_30 : decode method_5_code 30 = .ok (.invokestatic 21, 3) := by decide +kernel
theorem own_pd10 : parseMethodDescriptor "(C)Ljava/lang/String;" = some ⟨[.char], some (.object "java/lang/String")⟩ := by decide +kernel
theorem own_d1_33 : decode method_5_code 33 = .ok (.areturn, 1) := by decide +kernel
theorem own_d1_34 : decode method_5_code 34 = .ok (.iconst 2, 1) := by decide +kernel
theorem own_d1_35 : decode method_5_code 35 = .ok (.newarray .char, 2) := by decide +kernel
theorem own_d1_37 : decode method_5_code 37 = .ok (.astore_n 2, 1) := by decide +kernel
theorem own_d1_38 : decode method_5_code 38 = .ok (.aload_n 2, 1) := by decide +kernel
theorem own_d1_39 : decode method_5_code 39 = .ok (.iconst 0, 1) := by decide +kernel
theorem own_d1_40 : decode method_5_code 40 = .ok (.iload_n 0, 1) := by decide +kernel
theorem own_d1_41 : decode method_5_code 41 = .ok (.invokestatic 18, 3) := by decide +kernel
theorem own_d1_44 : decode method_5_code 44 = .ok (.i2c, 1) := by decide +kernel
theorem own_d1_45 : decode method_5_code 45 = .ok (.castore, 1) := by decide +kernel
theorem own_d1_46 : decode method_5_code 46 = .ok (.aload_n 2, 1) := by decide +kernel
theorem own_d1_47 : decode method_5_code 47 = .ok (.iconst 1, 1) := by decide +kernel
theorem own_d1_48 : decode method_5_code 48 = .ok (.iload_n 0, 1) := by decide +kernel
theorem own_d1_49 : decode method_5_code 49 = .ok (.invokestatic 25, 3) := by decide +kernel
theorem own_d1_52 : decode method_5_code 52 = .ok (.i2c, 1) := by decide +kernel
theorem own_d1_53 : decode method_5_code 53 = .ok (.castore, 1) := by decide +kernel
theorem own_d1_54 : decode method_5_code 54 = .ok (.new 13, 3) := by decide +kernel
theorem own_d1_57 : decode method_5_code 57 = .ok (.dup, 1) := by decide +kernel
theorem own_d1_58 : decode method_5_code 58 = .ok (.aload_n 2, 1) := by decide +kernel
theorem own_d1_59 : decode method_5_code 59 = .ok (.invokespecial 15, 3) := by decide +kernel
theorem own_d1_62 : decode method_5_code 62 = .ok (.areturn, 1) := by decide +kernel
theorem ef_str (m : MethodId) (p0 : Int32) : entryFrame m #[(.int p0)] 3 = mkF m 0 #[.val (.int p0), .unset, .unset] [] := by first | (simp [entryFrame, mkF, argsToLocals, Value.category]; done) | rfl
def Q_str (Z : State) (p0 : Int32) (G1 : Int32) (h0 : Heap) (n0 : Nat) (v : Option Value) (h : Heap) (L : List Loc) : Prop := ∃ (a t : Addr) (kb : ClassId), v = some (.ref a) ∧ Fr n0 L ∧ Keep h0 h [] ∧ Str Z h a t kb (own_cs p0)
set_option maxRecDepth 65536 in
set_option maxHeartbeats 40000000 in
theorem rm_str (l : Launch) (Z : State) (a0 : Array Value) (hw : ∀ d ∈ tables_1, d.before a0 Z = true) (ws : List Jvm.Cond) (p0 : Int32) (G1 : Int32) (h0 : Heap) (n0 : Nat) (Z0 : n0 ≤ h0.size) (O2 : Sta Z Z.heap "java/lang/String" "COMPACT_STRINGS" "Z" (.int G1)) (P5 : ¬ (G1 = (0 : Int32))) (X00 : Old Z n0 h0) :
    MetFree l (⟨"com/example/cartulary/cartulary/store/SettingsReadsSameListAsPinLaw", "str", "(I)Ljava/lang/String;"⟩ : MethodName) (head1 (Jvm.Cond.code (⟨"com/example/cartulary/cartulary/store/SettingsReadsSameListAsPinLaw", "str", "(I)Ljava/lang/String;"⟩ : MethodName) method_5_code 3 (some (.object "java/lang/String")) :: ws) ({ frames := 4, cells := 6, slots := 12, locals := 66 } : Room)) (fun a U => a = #[(.int p0)] ∧ Z.Warmed39 U.vm ∧ U.heap = h0 ∧ CHv Z consts_1 U.vm h0) (fun _ _ _ _ _ => True) (fun _ U o U' => ∃ v L, o = .returned v ∧ Q_str Z p0 G1 h0 n0 v U'.heap L ∧ CHr Z consts_1 U.vm U.heap U'.vm U'.heap ∧ ReturnedEndW U o U' L ({ frames := 4, cells := 6, slots := 12, locals := 66 } : Room).cells ({ frames := 4, cells := 6, slots := 12, locals := 66 } : Room).slots) := by
  refine MetFree.of_bodySF (plainFor_of_name own_pn0) hisR ?_
  intro p e s m args below meth c s₁ Bd hml0 hP hK
  obtain ⟨rfl, hZ, hh, hC0⟩ := hP
  have hx := Bd.exec
  have hby := Bd.bytes
  have hml : c.maxLocals = 3 := hml0
  have hown : s.vm.findClass "com/example/cartulary/cartulary/store/SettingsReadsSameListAsPinLaw" = some m.cls := findClass_of_methodNamed Bd.named
  have hnm := (name_of_methodNamed Bd.named Bd.method).1
  have X0 : Stand p l e ({ frames := 4, cells := 6, slots := 12, locals := 66 } : Room) (s.setVm s.vm) m #[(.int p0)] below meth c s₁ [] 0 0 := Stand.of_body Bd
  have e0 : s₁.heap = h0 := by rw [← hh, Bd.state]; rfl
  have N0 := Fr.nil n0
  have pre0 : ∀ t, Steps p.tables e below (s₁.setTop (mkF m 0 #[.val (.int p0), .unset, .unset] [])) t → Steps p.tables e below (s₁.setTop (entryFrame m #[(.int p0)] 3)) t := fun t k => castTop (ef_str m p0) k
  have hEL := own_EW hw
  have wS := own_wS hw
  have hS0 : s.Since s.vm s.heap.size := (State.WarmedH.refl s).since _
  have hk0 : s.heap.size ≤ h0.size := by rw [hh]; exact Nat.le_refl _
  have hA0 : CHr Z consts_1 s.vm h0 s.vm h0 := CHr.refl hC0
  have K0 : Keep h0 h0 [] := Keep.refl h0 _
  have pre1 : ∀ t, Steps p.tables e below (s₁.setTop (mkF m 1 #[.val (.int p0), .unset, .unset] [(.int p0)])) t → Steps p.tables e below (s₁.setTop (entryFrame m #[(.int p0)] 3)) t := fun t k => pre0 t (by
    show Steps p.tables e below (s₁.setTop (mkF m 0 #[.val (.int p0), .unset, .unset] [])) t
    refine XS.iloadN X0.here hx rfl (hb hby own_d1_0) rfl ?_
    exact k)
  obtain ⟨_, _, ⟨T2, L2, k2, n2⟩, -, X2, ⟨Lc2, hQ2, l2, y2, z2⟩, st2⟩ := Jvm.LawKit.callS X0 hx (y := (⟨"com/example/cartulary/cartulary/store/SettingsReadsSameListAsPinLaw", "len", "(I)I"⟩ : MethodName)) hown (mvT hZ (hw _ (List.mem_of_getElem? (i := 4) rfl))) (mvT hZ (hw _ (List.mem_of_getElem? (i := 5) rfl))) (mvT hZ (hw _ (List.mem_of_getElem? (i := 2) rfl))) (mvT hZ (hw _ (List.mem_of_getElem? (i := 6) rfl))) (by decide) (backOf (W := 0) (rm_len l Z a0 hw [] p0 h0 n0 Z0) hZ (hw _ (List.mem_of_getElem? (i := 6) rfl)) (hw _ (List.mem_of_getElem? (i := 2) rfl)) (by decide) (by decide)) (g := (mkF m 1 #[.val (.int p0), .unset, .unset] [(.int p0)])) rfl (by rw [hml]; rfl) (argsL := [(.int p0)]) (rest := []) (lenOf own_pd1 rfl) rfl (by show 2 * 0 + _ ≤ _; exact Nat.le_of_eq rfl) (hb hby own_d1_1) (fun _ _ => ⟨rfl, e0, (by decide : 0 + 0 ≤ _), (by decide : 0 + 0 ≤ _)⟩)
  dsimp only [Pt.U, Pt.locs, Pt.cells, Pt.slots] at X2 l2 y2 z2 st2 hQ2
  subst l2 y2 z2
  obtain ⟨rfl, N2q, e2⟩ := hQ2
  have N2 := Fr.app N0 N2q
  have pre4 : ∀ t, Steps p.tables e below (T2.setTop (mkF m 6 #[.val (.int p0), .val (.int (fn_len p0)), .unset] [(.int (fn_len p0))])) t → Steps p.tables e below (s₁.setTop (entryFrame m #[(.int p0)] 3)) t := fun t k => pre1 t (by
    show Steps p.tables e below (s₁.setTop (mkF m 1 #[.val (.int p0), .unset, .unset] [(.int p0)])) t
    refine st2 _ ?_
    show Steps p.tables e below (T2.setTop (mkF m 4 #[.val (.int p0), .unset, .unset] [(.int (fn_len p0))])) t
    refine XS.istoreN X2.here hx rfl (hb hby own_d1_4) rfl (l' := #[.val (.int p0), .val (.int (fn_len p0)), .unset]) rfl ?_
    show Steps p.tables e below (T2.setTop (mkF m 5 #[.val (.int p0), .val (.int (fn_len p0)), .unset] [])) t
    refine XS.iloadN X2.here hx rfl (hb hby own_d1_5) rfl ?_
    exact k)
  by_cases hc3 : (fn_len p0) = (0 : Int32)
  · obtain ⟨T5, h5, X5, e5, E5, A5, D5, -, st5⟩ := newO X2 hx hZ hown (hw _ (List.mem_of_getElem? (i := 7) rfl)) (hw _ (List.mem_of_getElem? (i := 8) rfl)) (hw _ (List.mem_of_getElem? (i := 9) rfl)) e2 (g := (mkF m 9 #[.val (.int p0), .val (.int (fn_len p0)), .unset] [])) rfl (hb hby own_d1_9) (by decide) (by decide)
    obtain ⟨b5, g5⟩ : ∃ z, z = h0.size := ⟨_, rfl⟩
    rw [← g5] at A5 D5 st5
    have g_b5 : n0 ≤ b5 := Nat.le_trans Z0 (Nat.le_of_eq g5.symm)
    have sz_b5 : h0.size ≤ b5 := Nat.le_trans K0.1 (Nat.le_of_eq g5.symm)
    have sn_b5 := Safe.ext E5 hC0 (Safe.new (Nat.le_of_eq g5.symm))
    have hr6 := CHr.ext E5 hC0
    have hA6 := hA0.trans hr6
    have hC6 := hr6.1
    have hk6 := Nat.le_trans hk0 hr6.2.1
    have od6 := X00.ext E5
    have Z5 : n0 ≤ h5.size := Nat.le_trans Z0 E5.1
    have K5 := K0.ext E5
    have F_value_b5 : Fld Z h5 b5 "java/lang/String" "value" "[B" .null := D5 (Or.inr (hw _ (List.mem_of_getElem? (i := 23) rfl))) (ty := (.array .byte)) (by decide)
    have F_coder_b5 : Fld Z h5 b5 "java/lang/String" "coder" "B" (.int (0 : Int32)) := D5 (Or.inr (hw _ (List.mem_of_getElem? (i := 24) rfl))) (ty := .byte) (by decide)
    obtain ⟨T7, h7, k7, X7, e7, E7, A7, st7⟩ := newP X5 hx hZ (hw _ (List.mem_of_getElem? (i := 10) rfl)) e5 (g := (mkF m 14 #[.val (.int p0), .val (.int (fn_len p0)), .unset] [(.int (0 : Int32)), (.ref b5), (.ref b5)])) rfl (hb hby own_d1_14) rfl (by decide) (cap := 0) (by decide) (by decide) (by decide) (by decide)
    obtain ⟨b7, g7⟩ : ∃ z, z = h5.size := ⟨_, rfl⟩
    rw [← g7] at A7 st7
    have ne_b5_b7 : b5 ≠ b7 := Nat.ne_of_lt (Nat.lt_of_lt_of_le A5.lt (Nat.le_of_eq g7.symm))
    have g_b7 : n0 ≤ b7 := Nat.le_trans Z5 (Nat.le_of_eq g7.symm)
    have sz_b7 : h0.size ≤ b7 := Nat.le_trans K5.1 (Nat.le_of_eq g7.symm)
    have sn_b7 := Safe.ext E7 hC6 (Safe.new (Nat.le_of_eq g7.symm))
    have sf8_b5 := Safe.ext E7 hC6 sn_b5
    have hr8 := CHr.ext E7 hC6
    have hA8 := hA6.trans hr8
    have hC8 := hr8.1
    have hk8 := Nat.le_trans hk6 hr8.2.1
    have od8 := od6.ext E7
    have f8_1 := A5.ext E7
    have f8_2 := F_value_b5.ext E7
    have f8_3 := F_coder_b5.ext E7
    have Z7 : n0 ≤ h7.size := Nat.le_trans Z5 E7.1
    have K7 := K5.ext E7
    have V_b7 : Arv Z h7 b7 k7 .char (0 : Int32) [] (.int (0 : Int32)) := (Arv.new A7 (by decide)).pad (pad_rep [] (.int (0 : Int32)) 0)
    have pre9 : ∀ t, Steps p.tables e below (T7.setTop (mkF m 16 #[.val (.int p0), .val (.int (fn_len p0)), .unset] [(.ref b7), (.ref b5), (.ref b5)])) t → Steps p.tables e below (s₁.setTop (entryFrame m #[(.int p0)] 3)) t := fun t k => pre4 t (by
      show Steps p.tables e below (T2.setTop (mkF m 6 #[.val (.int p0), .val (.int (fn_len p0)), .unset] [(.int (fn_len p0))])) t
      refine XS.ifNo X2.here hx rfl (hb hby own_d1_6) rfl ((if0 _ _).trans (teq hc3).2) ?_
      show Steps p.tables e below (T2.setTop (mkF m 9 #[.val (.int p0), .val (.int (fn_len p0)), .unset] [])) t
      refine st5 _ ?_
      show Steps p.tables e below (T5.setTop (mkF m 12 #[.val (.int p0), .val (.int (fn_len p0)), .unset] [(.ref b5)])) t
      refine XS.dup X5.here hx rfl (hb hby own_d1_12) rfl rfl ?_
      show Steps p.tables e below (T5.setTop (mkF m 13 #[.val (.int p0), .val (.int (fn_len p0)), .unset] [(.ref b5), (.ref b5)])) t
      refine XS.iconst X5.here hx rfl (hb hby own_d1_13) ?_
      show Steps p.tables e below (T5.setTop (mkF m 14 #[.val (.int p0), .val (.int (fn_len p0)), .unset] [(.int (0 : Int32)), (.ref b5), (.ref b5)])) t
      refine st7 _ ?_
      exact k)
    obtain ⟨_, _, ⟨T10, L10, k10, n10⟩, -, Xs10, hs10, hg10, ⟨Lc10, hQ10, l10, y10, z10, hR10⟩, st10⟩ := X7.specialBackS hx (y := (⟨"java/lang/String", "<init>", "([C)V"⟩ : MethodName)) rfl hown (mvT hZ (hw _ (List.mem_of_getElem? (i := 11) rfl))) (mvT hZ (hw _ (List.mem_of_getElem? (i := 12) rfl))) (mvT hZ (hw _ (List.mem_of_getElem? (i := 13) rfl))) (by decide) (backOfSH (W := 1) (rm_e3 l Z a0 hw [] b5 b7 k7 h7 n0 Z7 f8_1 g_b5 f8_2 f8_3 trivial V_b7 (Ne.symm ne_b5_b7)) hZ (hw _ (List.mem_of_getElem? (i := 13) rfl)) (hw _ (List.mem_of_getElem? (i := 9) rfl)) (by decide) (by decide) hEL hC8) (g := (mkF m 16 #[.val (.int p0), .val (.int (fn_len p0)), .unset] [(.ref b7), (.ref b5), (.ref b5)])) rfl (by rw [hml]; rfl) (Steps.refl _) (a := b5) (argsL := [(.ref b7)]) (rest := [(.ref b5)]) (lenOf own_pd9 rfl) rfl (by show 2 * 0 + _ ≤ _; exact Nat.le_of_eq rfl) (hb hby own_d1_16) (fun _ _ => ⟨rfl, e7, (by decide : 2 + 4 ≤ _), (by decide : 4 + 8 ≤ _)⟩)
    dsimp only [Pt.U, Pt.locs, Pt.cells, Pt.slots] at Xs10 hs10 hg10 l10 y10 z10 st10 hQ10 hR10
    subst l10 y10 z10
    obtain ⟨X10, hS10, hZ, hown⟩ := rebS hS0 (by rw [e7]; exact hk8) Xs10 hs10 hg10 hZ hown
    obtain ⟨rfl, Nq10, Kq10, t10, kb10, Es10, Fs10_c, Fs10_v, Vs10⟩ := hQ10
    have N10 := Fr.app N2 Nq10
    have sg10_b5 := hR10.safe f8_1.lt sf8_b5
    have sg10_b7 := hR10.safe V_b7.lt sn_b7
    have od11 := od8.keep Kq10 (allS g_b5 all0)
    have f11_1 := f8_1.keep Kq10
    have f11_4 := V_b7.keep Kq10 (ninS (Ne.symm ne_b5_b7) nin0)
    have hA10 := hA8.trans hR10
    have hC10 := hR10.1
    have hk10 : T10.heap.size ≤ T10.heap.size := Nat.le_refl _
    have Z10 : n0 ≤ T10.heap.size := Nat.le_trans Z7 Kq10.1
    have K10 := K7.trans Kq10 (allS (Or.inr sz_b5) all0)
    obtain ⟨fs, hr, hrun, hended, hEnd⟩ := X10.leaveW hS10 hk10 (v := some (.ref b5)) (fun h => by rw [Bd.returns] at h; cases h)
    have hAe := hA10.trans (CHv.at X10 hZ hEL hC10)
    refine ⟨_, _, pre9 _ ?_, hrun, hended, _, _, rfl, ?_, ?_, hEnd.1, hEnd.2.1, hEnd.2.2.1, hEnd.2.2.2.mono (by decide) (by decide)⟩
    · show Steps p.tables e below (T7.setTop (mkF m 16 #[.val (.int p0), .val (.int (fn_len p0)), .unset] [(.ref b7), (.ref b5), (.ref b5)])) _
      refine st10.trans ?_
      show Steps p.tables e below (T10.setTop (mkF m 19 #[.val (.int p0), .val (.int (fn_len p0)), .unset] [(.ref b5)])) _
      jvm_step X10.here [X10.here.top, hx, (hb hby own_d1_19), X10.method', Bd.returns, Value.isRef, FieldType.isReference]
      first | (intro acts; rw [hr _ acts rfl rfl rfl]) | rw [hr _ _ rfl rfl rfl]
      exact Steps.refl _
    · show Q_str Z p0 G1 h0 n0 _ T10.heap _
      exact (by
                have hcs : own_cs p0 = [] := by simp only [own_cs, if_pos hc3]
                unfold Q_str
                rw [hcs]
                exact ⟨b5, t10, kb10, rfl, N10, K10, f11_1, Fs10_c, Fs10_v, Vs10⟩)
    · rw [hh]
      show CHr Z consts_1 s.vm h0 T10.vm T10.heap
      exact hAe
  · have pre13 : ∀ t, Steps p.tables e below (T2.setTop (mkF m 22 #[.val (.int p0), .val (.int (fn_len p0)), .unset] [(.int (1 : Int32)), (.int (fn_len p0))])) t → Steps p.tables e below (s₁.setTop (entryFrame m #[(.int p0)] 3)) t := fun t k => pre4 t (by
      show Steps p.tables e below (T2.setTop (mkF m 6 #[.val (.int p0), .val (.int (fn_len p0)), .unset] [(.int (fn_len p0))])) t
      refine XS.ifYes X2.here hx rfl (pc0 := 6) (pc' := 20) rfl (hb hby own_d1_6) rfl ((if0 _ _).trans (feq hc3).2) (by decide) (by decide) ?_
      show Steps p.tables e below (T2.setTop (mkF m 20 #[.val (.int p0), .val (.int (fn_len p0)), .unset] [])) t
      refine XS.iloadN X2.here hx rfl (hb hby own_d1_20) rfl ?_
      show Steps p.tables e below (T2.setTop (mkF m 21 #[.val (.int p0), .val (.int (fn_len p0)), .unset] [(.int (fn_len p0))])) t
      refine XS.iconst X2.here hx rfl (hb hby own_d1_21) ?_
      exact k)
    by_cases hc12 : (fn_len p0) = (1 : Int32)
    · have pre14 : ∀ t, Steps p.tables e below (T2.setTop (mkF m 26 #[.val (.int p0), .val (.int (fn_len p0)), .unset] [(.int p0)])) t → Steps p.tables e below (s₁.setTop (entryFrame m #[(.int p0)] 3)) t := fun t k => pre13 t (by
        show Steps p.tables e below (T2.setTop (mkF m 22 #[.val (.int p0), .val (.int (fn_len p0)), .unset] [(.int (1 : Int32)), (.int (fn_len p0))])) t
        refine XS.icmpNo X2.here hx rfl (hb hby own_d1_22) rfl (teq hc12).2 ?_
        show Steps p.tables e below (T2.setTop (mkF m 25 #[.val (.int p0), .val (.int (fn_len p0)), .unset] [])) t
        refine XS.iloadN X2.here hx rfl (hb hby own_d1_25) rfl ?_
        exact k)
      obtain ⟨_, _, ⟨T15, L15, k15, n15⟩, -, X15, ⟨Lc15, hQ15, l15, y15, z15⟩, st15⟩ := Jvm.LawKit.callS X2 hx (y := (⟨"com/example/cartulary/cartulary/store/SettingsReadsSameListAsPinLaw", "c0", "(I)I"⟩ : MethodName)) hown (mvT hZ (hw _ (List.mem_of_getElem? (i := 29) rfl))) (mvT hZ (hw _ (List.mem_of_getElem? (i := 30) rfl))) (mvT hZ (hw _ (List.mem_of_getElem? (i := 2) rfl))) (mvT hZ (hw _ (List.mem_of_getElem? (i := 31) rfl))) (by decide) (backOf (W := 0) (rm_c0 l Z a0 hw [] p0 h0 n0 Z0) hZ (hw _ (List.mem_of_getElem? (i := 31) rfl)) (hw _ (List.mem_of_getElem? (i := 2) rfl)) (by decide) (by decide)) (g := (mkF m 26 #[.val (.int p0), .val (.int (fn_len p0)), .unset] [(.int p0)])) rfl (by rw [hml]; rfl) (argsL := [(.int p0)]) (rest := []) (lenOf own_pd1 rfl) rfl (by show 2 * 0 + _ ≤ _; exact Nat.le_of_eq rfl) (hb hby own_d1_26) (fun _ _ => ⟨rfl, e2, (by decide : 0 + 0 ≤ _), (by decide : 0 + 0 ≤ _)⟩)
      dsimp only [Pt.U, Pt.locs, Pt.cells, Pt.slots] at X15 l15 y15 z15 st15 hQ15
      subst l15 y15 z15
      obtain ⟨rfl, N15q, e15⟩ := hQ15
      have N15 := Fr.app N2 N15q
      have pre16 : ∀ t, Steps p.tables e below (T15.setTop (mkF m 30 #[.val (.int p0), .val (.int (fn_len p0)), .unset] [(.int ((fn_c0 p0).toUInt32.toUInt16.toUInt32.toInt32))])) t → Steps p.tables e below (s₁.setTop (entryFrame m #[(.int p0)] 3)) t := fun t k => pre14 t (by
        show Steps p.tables e below (T2.setTop (mkF m 26 #[.val (.int p0), .val (.int (fn_len p0)), .unset] [(.int p0)])) t
        refine st15 _ ?_
        show Steps p.tables e below (T15.setTop (mkF m 29 #[.val (.int p0), .val (.int (fn_len p0)), .unset] [(.int (fn_c0 p0))])) t
        refine XS.i2c X15.here hx rfl (hb hby own_d1_29) rfl ?_
        exact k)
      rw [own_i2c (own_r0 p0)] at pre16
      obtain ⟨_, _, ⟨T17, L17, k17, n17⟩, -, X17, ⟨Lc17, hQ17, l17, y17, z17⟩, st17⟩ := Jvm.LawKit.callS X15 hx (y := (⟨"java/lang/String", "valueOf", "(C)Ljava/lang/String;"⟩ : MethodName)) hown (mvT hZ (hw _ (List.mem_of_getElem? (i := 46) rfl))) (mvT hZ (hw _ (List.mem_of_getElem? (i := 47) rfl))) (mvT hZ (hw _ (List.mem_of_getElem? (i := 9) rfl))) (mvT hZ (hw _ (List.mem_of_getElem? (i := 48) rfl))) (by decide) (backOf (W := 0) (rm_vo l Z a0 hw [] (fn_c0 p0) G1 h0 n0 Z0 O2 P5 X00 (own_rg (own_r0 p0)).2) hZ (hw _ (List.mem_of_getElem? (i := 48) rfl)) (hw _ (List.mem_of_getElem? (i := 9) rfl)) (by decide) (by decide)) (g := (mkF m 30 #[.val (.int p0), .val (.int (fn_len p0)), .unset] [(.int (fn_c0 p0))])) rfl (by rw [hml]; rfl) (argsL := [(.int (fn_c0 p0))]) (rest := []) (lenOf own_pd10 rfl) rfl (by show 2 * 0 + _ ≤ _; exact Nat.le_of_eq rfl) (hb hby own_d1_30) (fun _ _ => ⟨rfl, e15, (by decide : 0 + 2 ≤ _), (by decide : 0 + 5 ≤ _)⟩)
      dsimp only [Pt.U, Pt.locs, Pt.cells, Pt.slots] at X17 l17 y17 z17 st17 hQ17
      subst l17 y17 z17
      obtain ⟨s17, t17, kb17, rfl, Nq17, Kq17, Es17, Fs17_c, Fs17_v, Vs17⟩ := hQ17
      have N17 := Fr.app N15 Nq17
      have hr18 := CHr.keep Kq17 all0 hC0
      have hA18 := hA0.trans hr18
      have hC18 := hr18.1
      have hk18 := Nat.le_trans hk0 hr18.2.1
      have od18 := X00.keep Kq17 all0
      have Z17 : n0 ≤ T17.heap.size := Nat.le_trans Z0 Kq17.1
      have K17 := K0.trans Kq17 all0
      obtain ⟨fs, hr, hrun, hended, hEnd⟩ := X17.leaveW hS0 hk18 (v := some (.ref s17)) (fun h => by rw [Bd.returns] at h; cases h)
      have hAe := hA18.trans (CHv.at X17 hZ hEL hC18)
      refine ⟨_, _, pre16 _ ?_, hrun, hended, _, _, rfl, ?_, ?_, hEnd.1, hEnd.2.1, hEnd.2.2.1, hEnd.2.2.2.mono (by decide) (by decide)⟩
      · show Steps p.tables e below (T15.setTop (mkF m 30 #[.val (.int p0), .val (.int (fn_len p0)), .unset] [(.int (fn_c0 p0))])) _
        refine st17 _ ?_
        show Steps p.tables e below (T17.setTop (mkF m 33 #[.val (.int p0), .val (.int (fn_len p0)), .unset] [(.ref s17)])) _
        jvm_step X17.here [X17.here.top, hx, (hb hby own_d1_33), X17.method', Bd.returns, Value.isRef, FieldType.isReference]
        first | (intro acts; rw [hr _ acts rfl rfl rfl]) | rw [hr _ _ rfl rfl rfl]
        exact Steps.refl _
      · show Q_str Z p0 G1 h0 n0 _ T17.heap _
        exact (by
                have hcs : own_cs p0 = [fn_c0 p0] := by simp only [own_cs, if_neg hc3, if_pos hc12]
                unfold Q_str
                rw [hcs]
                exact ⟨s17, t17, kb17, rfl, N17, K17, Es17, Fs17_c, Fs17_v, Vs17⟩)
      · rw [hh]
        show CHr Z consts_1 s.vm h0 T17.vm T17.heap
        exact hAe
    · obtain ⟨T19, h19, k19, X19, e19, E19, A19, st19⟩ := newP X2 hx hZ (hw _ (List.mem_of_getElem? (i := 10) rfl)) e2 (g := (mkF m 35 #[.val (.int p0), .val (.int (fn_len p0)), .unset] [(.int (2 : Int32))])) rfl (hb hby own_d1_35) rfl (by decide) (cap := 2) (by decide) (by decide) (by decide) (by decide)
      obtain ⟨b19, g19⟩ : ∃ z, z = h0.size := ⟨_, rfl⟩
      rw [← g19] at A19 st19
      have g_b19 : n0 ≤ b19 := Nat.le_trans Z0 (Nat.le_of_eq g19.symm)
      have sz_b19 : h0.size ≤ b19 := Nat.le_trans K0.1 (Nat.le_of_eq g19.symm)
      have sn_b19 := Safe.ext E19 hC0 (Safe.new (Nat.le_of_eq g19.symm))
      have hr20 := CHr.ext E19 hC0
      have hA20 := hA0.trans hr20
      have hC20 := hr20.1
      have hk20 := Nat.le_trans hk0 hr20.2.1
      have od20 := X00.ext E19
      have Z19 : n0 ≤ h19.size := Nat.le_trans Z0 E19.1
      have K19 := K0.ext E19
      have V_b19 : Arv Z h19 b19 k19 .char (2 : Int32) [(.int (0 : Int32)), (.int (0 : Int32))] (.int (0 : Int32)) := (Arv.new A19 (by decide)).pad (pad_rep [] (.int (0 : Int32)) 2)
      have pre21 : ∀ t, Steps p.tables e below (T19.setTop (mkF m 41 #[.val (.int p0), .val (.int (fn_len p0)), .val (.ref b19)] [(.int p0), (.int (0 : Int32)), (.ref b19)])) t → Steps p.tables e below (s₁.setTop (entryFrame m #[(.int p0)] 3)) t := fun t k => pre13 t (by
        show Steps p.tables e below (T2.setTop (mkF m 22 #[.val (.int p0), .val (.int (fn_len p0)), .unset] [(.int (1 : Int32)), (.int (fn_len p0))])) t
        refine XS.icmpYes X2.here hx rfl (pc0 := 22) (pc' := 34) rfl (hb hby own_d1_22) rfl (feq hc12).2 (by decide) (by decide) ?_
        show Steps p.tables e below (T2.setTop (mkF m 34 #[.val (.int p0), .val (.int (fn_len p0)), .unset] [])) t
        refine XS.iconst X2.here hx rfl (hb hby own_d1_34) ?_
        show Steps p.tables e below (T2.setTop (mkF m 35 #[.val (.int p0), .val (.int (fn_len p0)), .unset] [(.int (2 : Int32))])) t
        refine st19 _ ?_
        show Steps p.tables e below (T19.setTop (mkF m 37 #[.val (.int p0), .val (.int (fn_len p0)), .unset] [(.ref b19)])) t
        refine XS.astoreN X19.here hx rfl (hb hby own_d1_37) rfl rfl (l' := #[.val (.int p0), .val (.int (fn_len p0)), .val (.ref b19)]) rfl ?_
        show Steps p.tables e below (T19.setTop (mkF m 38 #[.val (.int p0), .val (.int (fn_len p0)), .val (.ref b19)] [])) t
        refine XS.aloadN X19.here hx rfl (hb hby own_d1_38) rfl rfl ?_
        show Steps p.tables e below (T19.setTop (mkF m 39 #[.val (.int p0), .val (.int (fn_len p0)), .val (.ref b19)] [(.ref b19)])) t
        refine XS.iconst X19.here hx rfl (hb hby own_d1_39) ?_
        show Steps p.tables e below (T19.setTop (mkF m 40 #[.val (.int p0), .val (.int (fn_len p0)), .val (.ref b19)] [(.int (0 : Int32)), (.ref b19)])) t
        refine XS.iloadN X19.here hx rfl (hb hby own_d1_40) rfl ?_
        exact k)
      obtain ⟨_, _, ⟨T22, L22, k22, n22⟩, -, X22, ⟨Lc22, hQ22, l22, y22, z22⟩, st22⟩ := Jvm.LawKit.callS X19 hx (y := (⟨"com/example/cartulary/cartulary/store/SettingsReadsSameListAsPinLaw", "c0", "(I)I"⟩ : MethodName)) hown (mvT hZ (hw _ (List.mem_of_getElem? (i := 29) rfl))) (mvT hZ (hw _ (List.mem_of_getElem? (i := 30) rfl))) (mvT hZ (hw _ (List.mem_of_getElem? (i := 2) rfl))) (mvT hZ (hw _ (List.mem_of_getElem? (i := 31) rfl))) (by decide) (backOf (W := 2) (rm_c0 l Z a0 hw [] p0 h19 n0 Z19) hZ (hw _ (List.mem_of_getElem? (i := 31) rfl)) (hw _ (List.mem_of_getElem? (i := 2) rfl)) (by decide) (by decide)) (g := (mkF m 41 #[.val (.int p0), .val (.int (fn_len p0)), .val (.ref b19)] [(.int p0), (.int (0 : Int32)), (.ref b19)])) rfl (by rw [hml]; rfl) (argsL := [(.int p0)]) (rest := [(.int (0 : Int32)), (.ref b19)]) (lenOf own_pd1 rfl) rfl (by show 2 * 0 + _ ≤ _; exact Nat.le_of_eq rfl) (hb hby own_d1_41) (fun _ _ => ⟨rfl, e19, (by decide : 1 + 0 ≤ _), (by decide : 2 + 0 ≤ _)⟩)
      dsimp only [Pt.U, Pt.locs, Pt.cells, Pt.slots] at X22 l22 y22 z22 st22 hQ22
      subst l22 y22 z22
      obtain ⟨rfl, N22q, e22⟩ := hQ22
      have N22 := Fr.app N2 N22q
      have pre23 : ∀ t, Steps p.tables e below (T22.setTop (mkF m 45 #[.val (.int p0), .val (.int (fn_len p0)), .val (.ref b19)] [(.int ((fn_c0 p0).toUInt32.toUInt16.toUInt32.toInt32)), (.int (0 : Int32)), (.ref b19)])) t → Steps p.tables e below (s₁.setTop (entryFrame m #[(.int p0)] 3)) t := fun t k => pre21 t (by
        show Steps p.tables e below (T19.setTop (mkF m 41 #[.val (.int p0), .val (.int (fn_len p0)), .val (.ref b19)] [(.int p0), (.int (0 : Int32)), (.ref b19)])) t
        refine st22 _ ?_
        show Steps p.tables e below (T22.setTop (mkF m 44 #[.val (.int p0), .val (.int (fn_len p0)), .val (.ref b19)] [(.int (fn_c0 p0)), (.int (0 : Int32)), (.ref b19)])) t
        refine XS.i2c X22.here hx rfl (hb hby own_d1_44) rfl ?_
        exact k)
      rw [own_i2c (own_r0 p0)] at pre23
      obtain ⟨cl24, Ar24, q24, S24, Nn24, Hh24, G24⟩ := id V_b19
      obtain ⟨T25, h25, X25, e25, W25, st25⟩ := stC X22 hx hZ e22 Ar24 (j := (0 : Int32)) (inb_of S24 ⟨by decide, by decide⟩) (g := (mkF m 45 #[.val (.int p0), .val (.int (fn_len p0)), .val (.ref b19)] [(.int (fn_c0 p0)), (.int (0 : Int32)), (.ref b19)])) rfl rfl (hb hby own_d1_45)
      have V25 : Arv Z h25 b19 k19 .char (2 : Int32) [(.int (nar .char (fn_c0 p0))), (.int (0 : Int32))] (.int (0 : Int32)) := Arv.set Ar24 q24 S24 Nn24 Hh24 G24 (fits_nar_char _) W25 0 rfl (Nat.le_of_ble_eq_true rfl)
      have sf26_b19 := Safe.wr W25 sn_b19 hC20 sn_b19
      have hr26 := CHr.wr W25 sn_b19 hC20
      have hA26 := hA20.trans hr26
      have hC26 := hr26.1
      have hk26 := Nat.le_trans hk20 hr26.2.1
      have od26 := od20.wr W25 g_b19
      have N25 := Fr.snoc X25 N22 g_b19
      have Z25 : n0 ≤ h25.size := Nat.le_trans Z19 (Keep.of_wr W25).1
      have K25 := K19.wr W25 (Or.inr sz_b19)
      have pre27 : ∀ t, Steps p.tables e below (T25.setTop (mkF m 49 #[.val (.int p0), .val (.int (fn_len p0)), .val (.ref b19)] [(.int p0), (.int (1 : Int32)), (.ref b19)])) t → Steps p.tables e below (s₁.setTop (entryFrame m #[(.int p0)] 3)) t := fun t k => pre23 t (by
        show Steps p.tables e below (T22.setTop (mkF m 45 #[.val (.int p0), .val (.int (fn_len p0)), .val (.ref b19)] [(.int (fn_c0 p0)), (.int (0 : Int32)), (.ref b19)])) t
        refine st25 _ ?_
        show Steps p.tables e below (T25.setTop (mkF m 46 #[.val (.int p0), .val (.int (fn_len p0)), .val (.ref b19)] [])) t
        refine XS.aloadN X25.here hx rfl (hb hby own_d1_46) rfl rfl ?_
        show Steps p.tables e below (T25.setTop (mkF m 47 #[.val (.int p0), .val (.int (fn_len p0)), .val (.ref b19)] [(.ref b19)])) t
        refine XS.iconst X25.here hx rfl (hb hby own_d1_47) ?_
        show Steps p.tables e below (T25.setTop (mkF m 48 #[.val (.int p0), .val (.int (fn_len p0)), .val (.ref b19)] [(.int (1 : Int32)), (.ref b19)])) t
        refine XS.iloadN X25.here hx rfl (hb hby own_d1_48) rfl ?_
        exact k)
      obtain ⟨_, _, ⟨T28, L28, k28, n28⟩, -, X28, ⟨Lc28, hQ28, l28, y28, z28⟩, st28⟩ := Jvm.LawKit.callS X25 hx (y := (⟨"com/example/cartulary/cartulary/store/SettingsReadsSameListAsPinLaw", "c1", "(I)I"⟩ : MethodName)) hown (mvT hZ (hw _ (List.mem_of_getElem? (i := 32) rfl))) (mvT hZ (hw _ (List.mem_of_getElem? (i := 33) rfl))) (mvT hZ (hw _ (List.mem_of_getElem? (i := 2) rfl))) (mvT hZ (hw _ (List.mem_of_getElem? (i := 34) rfl))) (by decide) (backOf (W := 2) (rm_c1 l Z a0 hw [] p0 h25 n0 Z25) hZ (hw _ (List.mem_of_getElem? (i := 34) rfl)) (hw _ (List.mem_of_getElem? (i := 2) rfl)) (by decide) (by decide)) (g := (mkF m 49 #[.val (.int p0), .val (.int (fn_len p0)), .val (.ref b19)] [(.int p0), (.int (1 : Int32)), (.ref b19)])) rfl (by rw [hml]; rfl) (argsL := [(.int p0)]) (rest := [(.int (1 : Int32)), (.ref b19)]) (lenOf own_pd1 rfl) rfl (by show 2 * 0 + _ ≤ _; exact Nat.le_of_eq rfl) (hb hby own_d1_49) (fun _ _ => ⟨rfl, e25, (by decide : 1 + 0 ≤ _), (by decide : 2 + 0 ≤ _)⟩)
      dsimp only [Pt.U, Pt.locs, Pt.cells, Pt.slots] at X28 l28 y28 z28 st28 hQ28
      subst l28 y28 z28
      obtain ⟨rfl, N28q, e28⟩ := hQ28
      have N28 := Fr.app N25 N28q
      have pre29 : ∀ t, Steps p.tables e below (T28.setTop (mkF m 53 #[.val (.int p0), .val (.int (fn_len p0)), .val (.ref b19)] [(.int ((fn_c1 p0).toUInt32.toUInt16.toUInt32.toInt32)), (.int (1 : Int32)), (.ref b19)])) t → Steps p.tables e below (s₁.setTop (entryFrame m #[(.int p0)] 3)) t := fun t k => pre27 t (by
        show Steps p.tables e below (T25.setTop (mkF m 49 #[.val (.int p0), .val (.int (fn_len p0)), .val (.ref b19)] [(.int p0), (.int (1 : Int32)), (.ref b19)])) t
        refine st28 _ ?_
        show Steps p.tables e below (T28.setTop (mkF m 52 #[.val (.int p0), .val (.int (fn_len p0)), .val (.ref b19)] [(.int (fn_c1 p0)), (.int (1 : Int32)), (.ref b19)])) t
        refine XS.i2c X28.here hx rfl (hb hby own_d1_52) rfl ?_
        exact k)
      rw [own_i2c (own_r1 p0)] at pre29
      obtain ⟨cl30, Ar30, q30, S30, Nn30, Hh30, G30⟩ := id V25
      obtain ⟨T31, h31, X31, e31, W31, st31⟩ := stC X28 hx hZ e28 Ar30 (j := (1 : Int32)) (inb_of S30 ⟨by decide, by decide⟩) (g := (mkF m 53 #[.val (.int p0), .val (.int (fn_len p0)), .val (.ref b19)] [(.int (fn_c1 p0)), (.int (1 : Int32)), (.ref b19)])) rfl rfl (hb hby own_d1_53)
      have V31 : Arv Z h31 b19 k19 .char (2 : Int32) [(.int (nar .char (fn_c0 p0))), (.int (nar .char (fn_c1 p0)))] (.int (0 : Int32)) := Arv.set Ar30 q30 S30 Nn30 Hh30 G30 (fits_nar_char _) W31 1 rfl (Nat.le_of_ble_eq_true rfl)
      have sf32_b19 := Safe.wr W31 sf26_b19 hC26 sf26_b19
      have hr32 := CHr.wr W31 sf26_b19 hC26
      have hA32 := hA26.trans hr32
      have hC32 := hr32.1
      have hk32 := Nat.le_trans hk26 hr32.2.1
      have od32 := od26.wr W31 g_b19
      have N31 := Fr.snoc X31 N28 g_b19
      have Z31 : n0 ≤ h31.size := Nat.le_trans Z25 (Keep.of_wr W31).1
      have K31 := K25.wr W31 (Or.inr sz_b19)
      obtain ⟨T33, h33, X33, e33, E33, A33, D33, -, st33⟩ := newO X31 hx hZ hown (hw _ (List.mem_of_getElem? (i := 7) rfl)) (hw _ (List.mem_of_getElem? (i := 8) rfl)) (hw _ (List.mem_of_getElem? (i := 9) rfl)) e31 (g := (mkF m 54 #[.val (.int p0), .val (.int (fn_len p0)), .val (.ref b19)] [])) rfl (hb hby own_d1_54) (by decide) (by decide)
      obtain ⟨b33, g33⟩ : ∃ z, z = h31.size := ⟨_, rfl⟩
      rw [← g33] at A33 D33 st33
      have ne_b19_b33 : b19 ≠ b33 := Nat.ne_of_lt (Nat.lt_of_lt_of_le V31.lt (Nat.le_of_eq g33.symm))
      have g_b33 : n0 ≤ b33 := Nat.le_trans Z31 (Nat.le_of_eq g33.symm)
      have sz_b33 : h0.size ≤ b33 := Nat.le_trans K31.1 (Nat.le_of_eq g33.symm)
      have sn_b33 := Safe.ext E33 hC32 (Safe.new (Nat.le_of_eq g33.symm))
      have sf34_b19 := Safe.ext E33 hC32 sf32_b19
      have hr34 := CHr.ext E33 hC32
      have hA34 := hA32.trans hr34
      have hC34 := hr34.1
      have hk34 := Nat.le_trans hk32 hr34.2.1
      have od34 := od32.ext E33
      have f34_1 := V31.ext E33
      have Z33 : n0 ≤ h33.size := Nat.le_trans Z31 E33.1
      have K33 := K31.ext E33
      have F_value_b33 : Fld Z h33 b33 "java/lang/String" "value" "[B" .null := D33 (Or.inr (hw _ (List.mem_of_getElem? (i := 23) rfl))) (ty := (.array .byte)) (by decide)
      have F_coder_b33 : Fld Z h33 b33 "java/lang/String" "coder" "B" (.int (0 : Int32)) := D33 (Or.inr (hw _ (List.mem_of_getElem? (i := 24) rfl))) (ty := .byte) (by decide)
      have pre35 : ∀ t, Steps p.tables e below (T33.setTop (mkF m 59 #[.val (.int p0), .val (.int (fn_len p0)), .val (.ref b19)] [(.ref b19), (.ref b33), (.ref b33)])) t → Steps p.tables e below (s₁.setTop (entryFrame m #[(.int p0)] 3)) t := fun t k => pre29 t (by
        show Steps p.tables e below (T28.setTop (mkF m 53 #[.val (.int p0), .val (.int (fn_len p0)), .val (.ref b19)] [(.int (fn_c1 p0)), (.int (1 : Int32)), (.ref b19)])) t
        refine st31 _ ?_
        show Steps p.tables e below (T31.setTop (mkF m 54 #[.val (.int p0), .val (.int (fn_len p0)), .val (.ref b19)] [])) t
        refine st33 _ ?_
        show Steps p.tables e below (T33.setTop (mkF m 57 #[.val (.int p0), .val (.int (fn_len p0)), .val (.ref b19)] [(.ref b33)])) t
        refine XS.dup X33.here hx rfl (hb hby own_d1_57) rfl rfl ?_
        show Steps p.tables e below (T33.setTop (mkF m 58 #[.val (.int p0), .val (.int (fn_len p0)), .val (.ref b19)] [(.ref b33), (.ref b33)])) t
        refine XS.aloadN X33.here hx rfl (hb hby own_d1_58) rfl rfl ?_
        exact k)
      have hp36 : ∀ c ∈ ([fn_c0 p0, fn_c1 p0] : List Int32), ¬ c < 0 ∧ ¬ (255 : Int32) < c := by
        intro c hc
        simp only [List.mem_cons, List.not_mem_nil, or_false] at hc
        rcases hc with rfl | rfl
        · exact own_rg (own_r0 p0)
        · exact own_rg (own_r1 p0)
      have Va36 := f34_1
      rw [own_nc (own_r0 p0), own_nc (own_r1 p0)] at Va36
      obtain ⟨_, _, ⟨T36, L36, k36, n36⟩, -, X36, ⟨Lc36, hQ36, l36, y36, z36⟩, st36⟩ := X33.specialBack hx (y := (⟨"java/lang/String", "<init>", "([C)V"⟩ : MethodName)) rfl hown (mvT hZ (hw _ (List.mem_of_getElem? (i := 11) rfl))) (mvT hZ (hw _ (List.mem_of_getElem? (i := 12) rfl))) (mvT hZ (hw _ (List.mem_of_getElem? (i := 13) rfl))) (by decide) (StrChars.Road.backV (W := 1) hZ (own_words hw) (kI := 4) (hw _ (List.mem_of_getElem? (i := 8) rfl)) (cs := ([fn_c0 p0, fn_c1 p0] : List Int32)) (bs := ([fn_c0 p0, fn_c1 p0] : List Int32).map (fun c => c.toInt8.toInt32)) (n := 2) g_b33 Z33 A33 F_value_b33 F_coder_b33 Va36 (O2.ext od34.2) P5 rfl rfl (by decide) (by decide) hp36 rfl (by decide) (by decide)) (g := (mkF m 59 #[.val (.int p0), .val (.int (fn_len p0)), .val (.ref b19)] [(.ref b19), (.ref b33), (.ref b33)])) rfl (by rw [hml]; rfl) (Steps.refl _) (a := b33) (argsL := [(.ref b19)]) (rest := [(.ref b33)]) (lenOf own_pd9 rfl) rfl (by show 2 * 0 + _ ≤ _; exact Nat.le_of_eq rfl) (hb hby own_d1_59) (fun _ _ => ⟨rfl, e33, (by decide : 2 + 1 ≤ _), (by decide : 6 + 2 ≤ _)⟩)
      dsimp only [Pt.U, Pt.locs, Pt.cells, Pt.slots] at X36 l36 y36 z36 st36 hQ36
      subst l36 y36 z36
      obtain ⟨rfl, Nq36, Kq36, Eq36, Fcq36, t36, kb36, -, -, -, Fvq36, Vq36⟩ := hQ36
      have N36 := Fr.app N31 Nq36
      have sf37_b19 := Safe.keep Kq36 (allS sn_b33 all0) hC34 sf34_b19
      have sf37_b33 := Safe.keep Kq36 (allS sn_b33 all0) hC34 sn_b33
      have hr37 := CHr.keep Kq36 (allS sn_b33 all0) hC34
      have hA37 := hA34.trans hr37
      have hC37 := hr37.1
      have hk37 := Nat.le_trans hk34 hr37.2.1
      have od37 := od34.keep Kq36 (allS g_b33 all0)
      have f37_1 := f34_1.keep Kq36 (ninS ne_b19_b33 nin0)
      have f37_2 := A33.keep Kq36
      have Z36 : n0 ≤ T36.heap.size := Nat.le_trans Z33 Kq36.1
      have K36 := K33.trans Kq36 (allS (Or.inr sz_b33) all0)
      obtain ⟨fs, hr, hrun, hended, hEnd⟩ := X36.leaveW hS0 hk37 (v := some (.ref b33)) (fun h => by rw [Bd.returns] at h; cases h)
      have hAe := hA37.trans (CHv.at X36 hZ hEL hC37)
      refine ⟨_, _, pre35 _ ?_, hrun, hended, _, _, rfl, ?_, ?_, hEnd.1, hEnd.2.1, hEnd.2.2.1, hEnd.2.2.2.mono (by decide) (by decide)⟩
      · show Steps p.tables e below (T33.setTop (mkF m 59 #[.val (.int p0), .val (.int (fn_len p0)), .val (.ref b19)] [(.ref b19), (.ref b33), (.ref b33)])) _
        refine st36.trans ?_
        show Steps p.tables e below (T36.setTop (mkF m 62 #[.val (.int p0), .val (.int (fn_len p0)), .val (.ref b19)] [(.ref b33)])) _
        jvm_step X36.here [X36.here.top, hx, (hb hby own_d1_62), X36.method', Bd.returns, Value.isRef, FieldType.isReference]
        first | (intro acts; rw [hr _ acts rfl rfl rfl]) | rw [hr _ _ rfl rfl rfl]
        exact Steps.refl _
      · show Q_str Z p0 G1 h0 n0 _ T36.heap _
        exact (by
                have hcs : own_cs p0 = [fn_c0 p0, fn_c1 p0] := by simp only [own_cs, if_neg hc3, if_neg hc12]
                unfold Q_str
                rw [hcs]
                exact ⟨b33, t36, kb36, rfl, N36, K36, f37_2, Fcq36, Fvq36, Vq36⟩)
      · rw [hh]
        show CHr Z consts_1 s.vm h0 T36.vm T36.heap
        exact hAe
theorem own_d16_0 : decode prog_73_method_1_code 0 = .ok (.aload_n 0, 1) := by decide +kernel
theorem own_d16_1 : decode prog_73_method_1_code 1 = .ok (.invokespecial 1, 3) := by decide +kernel
theorem own_pd11 : parseMethodDescriptor "()V" = some ⟨[], none⟩ := by decide +kernel
theorem own_d16_4 : decode prog_73_method_1_code 4 = .ok (.aload_n 0, 1) := by decide +kernel
theorem own_d16_5 : decode prog_73_method_1_code 5 = .ok (.aload_n 1, 1) := by decide +kernel
theorem own_d16_6 : decode prog_73_method_1_code 6 = .ok (.putfield 7, 3) := by decide +kernel
theorem own_d16_9 : decode prog_73_method_1_code 9 = .ok (.aload_n 0, 1) := by decide +kernel
theorem own_d16_10 : decode prog_73_method_1_code 10 = .ok (.aload_n 2, 1) := by decide +kernel
theorem own_d16_11 : decode prog_73_method_1_code 11 = .ok (.putfield 13, 3) := by decide +kernel
theorem own_d16_14 : decode prog_73_method_1_code 14 = .ok (.aload_n 0, 1) := by decide +kernel
theorem own_d16_15 : decode prog_73_method_1_code 15 = .ok (.aload_n 3, 1) := by decide +kernel
theorem own_d16_16 : decode prog_73_method_1_code 16 = .ok (.putfield 16, 3) := by decide +kernel
theorem own_d16_19 : decode prog_73_method_1_code 19 = .ok (.aload_n 0, 1) := by decide +kernel
theorem own_d16_20 : decode prog_73_method_1_code 20 = .ok (.iload 4, 2) := by decide +kernel
theorem own_d16_22 : decode prog_73_method_1_code 22 = .ok (.putfield 19, 3) := by decide +kernel
theorem own_d16_25 : decode prog_73_method_1_code 25 = .ok (.aload_n 0, 1) := by decide +kernel
theorem own_d16_26 : decode prog_73_method_1_code 26 = .ok (.iload 5, 2) := by decide +kernel
theorem own_d16_28 : decode prog_73_method_1_code 28 = .ok (.putfield 23, 3) := by decide +kernel
theorem own_d16_31 : decode prog_73_method_1_code 31 = .ok (.aload_n 0, 1) := by decide +kernel
theorem own_d16_32 : decode prog_73_method_1_code 32 = .ok (.iload 6, 2) := by decide +kernel
theorem own_d16_34 : decode prog_73_method_1_code 34 = .ok (.putfield 27, 3) := by decide +kernel
theorem own_d16_37 : decode prog_73_method_1_code 37 = .ok (.return_, 1) := by decide +kernel
theorem own_pn12 : plainName "com/example/cartulary/cartulary/store/Harvester$Settings" = true := by first | (simp [plainName, overriddenIn]; done) | decide +kernel
theorem ef_set (m : MethodId) (r0 : Addr) (r1 : Addr) (r2 : Addr) (r3 : Addr) (p4 : Int32) (p5 : Int32) (p6 : Int32) : entryFrame m #[(.ref r0), (.ref r1), (.ref r2), (.ref r3), (.int p4), (.int p5), (.int p6)] 7 = mkF m 0 #[.val (.ref r0), .val (.ref r1), .val (.ref r2), .val (.ref r3), .val (.int p4), .val (.int p5), .val (.int p6)] [] := by first | (simp [entryFrame, mkF, argsToLocals, Value.category]; done) | rfl
def Q_set (Z : State) (r0 : Addr) (r1 : Addr) (r2 : Addr) (r3 : Addr) (p4 : Int32) (p5 : Int32) (p6 : Int32) (h0 : Heap) (n0 : Nat) (v : Option Value) (h : Heap) (L : List Loc) : Prop := v = none ∧ Fr n0 L ∧ Keep h0 h [r0] ∧ Exa Z h r0 "com/example/cartulary/cartulary/store/Harvester$Settings" ∧ Fld Z h r0 "com/example/cartulary/cartulary/store/Harvester$Settings" "url" "Ljava/lang/String;" (.ref r2) ∧ Fld Z h r0 "com/example/cartulary/cartulary/store/Harvester$Settings" "prefix" "Ljava/lang/String;" (.ref r3)
set_option maxRecDepth 65536 in
set_option maxHeartbeats 40000000 in
theorem rm_set (l : Launch) (Z : State) (a0 : Array Value) (hw : ∀ d ∈ tables_1, d.before a0 Z = true) (ws : List Jvm.Cond) (r0 : Addr) (r1 : Addr) (r2 : Addr) (r3 : Addr) (p4 : Int32) (p5 : Int32) (p6 : Int32) (h0 : Heap) (n0 : Nat) (Z0 : n0 ≤ h0.size) (E_r0 : Exa Z h0 r0 "com/example/cartulary/cartulary/store/Harvester$Settings") (g_r0 : n0 ≤ r0) (F_name : Fld Z h0 r0 "com/example/cartulary/cartulary/store/Harvester$Settings" "name" "Ljava/lang/String;" .null) (F_url : Fld Z h0 r0 "com/example/cartulary/cartulary/store/Harvester$Settings" "url" "Ljava/lang/String;" .null) (F_prefix : Fld Z h0 r0 "com/example/cartulary/cartulary/store/Harvester$Settings" "prefix" "Ljava/lang/String;" .null) (F_every : Fld Z h0 r0 "com/example/cartulary/cartulary/store/Harvester$Settings" "every" "I" (.int (0 : Int32))) (F_oneRunOnly : Fld Z h0 r0 "com/example/cartulary/cartulary/store/Harvester$Settings" "oneRunOnly" "Z" (.int (0 : Int32))) (F_active : Fld Z h0 r0 "com/example/cartulary/cartulary/store/Harvester$Settings" "active" "Z" (.int (0 : Int32))) :
    MetFree l (⟨"com/example/cartulary/cartulary/store/Harvester$Settings", "<init>", "(Ljava/lang/String;Ljava/lang/String;Ljava/lang/String;IZZ)V"⟩ : MethodName) (head1 (Jvm.Cond.code (⟨"com/example/cartulary/cartulary/store/Harvester$Settings", "<init>", "(Ljava/lang/String;Ljava/lang/String;Ljava/lang/String;IZZ)V"⟩ : MethodName) prog_73_method_1_code 7 none :: ws) ({ frames := 2, cells := 0, slots := 0, locals := 24 } : Room)) (fun a U => a = #[(.ref r0), (.ref r1), (.ref r2), (.ref r3), (.int p4), (.int p5), (.int p6)] ∧ Z.Warmed39 U.vm ∧ U.heap = h0) (fun _ _ _ _ _ => True) (fun _ U o U' => ∃ v L, o = .returned v ∧ Q_set Z r0 r1 r2 r3 p4 p5 p6 h0 n0 v U'.heap L ∧ FrameEnd U o U' L ({ frames := 2, cells := 0, slots := 0, locals := 24 } : Room).cells ({ frames := 2, cells := 0, slots := 0, locals := 24 } : Room).slots) := by
  refine MetFree.of_bodySF (plainFor_of_name own_pn12) hisR ?_
  intro p e s m args below meth c s₁ Bd hml0 hP hK
  obtain ⟨rfl, hZ, hh⟩ := hP
  have hx := Bd.exec
  have hby := Bd.bytes
  have hml : c.maxLocals = 7 := hml0
  have hown : s.vm.findClass "com/example/cartulary/cartulary/store/Harvester$Settings" = some m.cls := findClass_of_methodNamed Bd.named
  have hnm := (name_of_methodNamed Bd.named Bd.method).1
  have X0 : Stand p l e ({ frames := 2, cells := 0, slots := 0, locals := 24 } : Room) s m #[(.ref r0), (.ref r1), (.ref r2), (.ref r3), (.int p4), (.int p5), (.int p6)] below meth c s₁ [] 0 0 := Stand.of_body Bd
  have e0 : s₁.heap = h0 := by rw [← hh, Bd.state]; rfl
  have N0 := Fr.nil n0
  have pre0 : ∀ t, Steps p.tables e below (s₁.setTop (mkF m 0 #[.val (.ref r0), .val (.ref r1), .val (.ref r2), .val (.ref r3), .val (.int p4), .val (.int p5), .val (.int p6)] [])) t → Steps p.tables e below (s₁.setTop (entryFrame m #[(.ref r0), (.ref r1), (.ref r2), (.ref r3), (.int p4), (.int p5), (.int p6)] 7)) t := fun t k => castTop (ef_set m r0 r1 r2 r3 p4 p5 p6) k
  have K0 : Keep h0 h0 [r0] := Keep.refl h0 _
  obtain ⟨_, _, ⟨T1, L1, k1, n1⟩, -, X1, ⟨Lc1, hQ1, l1, y1, z1⟩, st1⟩ := X0.specialBack hx (y := (⟨"java/lang/Record", "<init>", "()V"⟩ : MethodName)) rfl hown (mvT hZ (hw _ (List.mem_of_getElem? (i := 71) rfl))) (mvT hZ (hw _ (List.mem_of_getElem? (i := 72) rfl))) (mvT hZ (hw _ (List.mem_of_getElem? (i := 75) rfl))) (by decide) (backOf (W := 0) (rm_rec l Z a0 hw [] r0 h0 n0 Z0) hZ (hw _ (List.mem_of_getElem? (i := 75) rfl)) (hw _ (List.mem_of_getElem? (i := 74) rfl)) (by decide) (by decide)) (g := (mkF m 1 #[.val (.ref r0), .val (.ref r1), .val (.ref r2), .val (.ref r3), .val (.int p4), .val (.int p5), .val (.int p6)] [(.ref r0)])) rfl (by rw [hml]; rfl) (Steps.refl _) (a := r0) (argsL := []) (rest := []) (lenOf own_pd11 rfl) rfl (by show 2 * 0 + _ ≤ _; exact Nat.le_of_eq rfl) (hb hby own_d16_1) (fun _ _ => ⟨rfl, e0, (by decide : 0 + 0 ≤ _), (by decide : 0 + 0 ≤ _)⟩)
  dsimp only [Pt.U, Pt.locs, Pt.cells, Pt.slots] at X1 l1 y1 z1 st1 hQ1
  subst l1 y1 z1
  obtain ⟨rfl, N1q, e1⟩ := hQ1
  have N1 := Fr.app N0 N1q
  obtain ⟨T2, h2, X2, e2, W2, st2⟩ := putF X1 hx hZ hown (host := "") (Or.inl (hw _ (List.mem_of_getElem? (i := 77) rfl))) Via.refl e1 F_name E_r0 (Or.inr ⟨(hw _ (List.mem_of_getElem? (i := 78) rfl)), rfl, hnm⟩) (hw _ (List.mem_of_getElem? (i := 66) rfl)) (ty := (.object "java/lang/String")) (by decide) rfl rfl (g := (mkF m 6 #[.val (.ref r0), .val (.ref r1), .val (.ref r2), .val (.ref r3), .val (.int p4), .val (.int p5), .val (.int p6)] [(.ref r1), (.ref r0)])) rfl rfl (hb hby own_d16_6)
  have Fw2 := F_name.same W2
  have f3_1 := E_r0.wr W2
  have f3_3 := F_url.other W2 (Or.inr (slot_ne (Or.inr (hw _ (List.mem_of_getElem? (i := 80) rfl))) (Or.inr (hw _ (List.mem_of_getElem? (i := 78) rfl))) (by decide) (t := (.object "java/lang/String")) (t' := (.object "java/lang/String")) (by decide) (by decide)))
  have f3_4 := F_prefix.other W2 (Or.inr (slot_ne (Or.inr (hw _ (List.mem_of_getElem? (i := 82) rfl))) (Or.inr (hw _ (List.mem_of_getElem? (i := 78) rfl))) (by decide) (t := (.object "java/lang/String")) (t' := (.object "java/lang/String")) (by decide) (by decide)))
  have f3_5 := F_every.other W2 (Or.inr (slot_ne (Or.inr (hw _ (List.mem_of_getElem? (i := 84) rfl))) (Or.inr (hw _ (List.mem_of_getElem? (i := 78) rfl))) (by decide) (t := .int) (t' := (.object "java/lang/String")) (by decide) (by decide)))
  have f3_6 := F_oneRunOnly.other W2 (Or.inr (slot_ne (Or.inr (hw _ (List.mem_of_getElem? (i := 86) rfl))) (Or.inr (hw _ (List.mem_of_getElem? (i := 78) rfl))) (by decide) (t := .boolean) (t' := (.object "java/lang/String")) (by decide) (by decide)))
  have f3_7 := F_active.other W2 (Or.inr (slot_ne (Or.inr (hw _ (List.mem_of_getElem? (i := 88) rfl))) (Or.inr (hw _ (List.mem_of_getElem? (i := 78) rfl))) (by decide) (t := .boolean) (t' := (.object "java/lang/String")) (by decide) (by decide)))
  have N2 := Fr.snoc X2 N1 g_r0
  have Z2 : n0 ≤ h2.size := Nat.le_trans Z0 (Keep.of_wr W2).1
  have K2 := K0.wr W2 (Or.inl (by simp))
  obtain ⟨T4, h4, X4, e4, W4, st4⟩ := putF X2 hx hZ hown (host := "") (Or.inl (hw _ (List.mem_of_getElem? (i := 79) rfl))) Via.refl e2 f3_3 f3_1 (Or.inr ⟨(hw _ (List.mem_of_getElem? (i := 80) rfl)), rfl, hnm⟩) (hw _ (List.mem_of_getElem? (i := 66) rfl)) (ty := (.object "java/lang/String")) (by decide) rfl rfl (g := (mkF m 11 #[.val (.ref r0), .val (.ref r1), .val (.ref r2), .val (.ref r3), .val (.int p4), .val (.int p5), .val (.int p6)] [(.ref r2), (.ref r0)])) rfl rfl (hb hby own_d16_11)
  have Fw4 := f3_3.same W4
  have f5_1 := f3_1.wr W4
  have f5_2 := Fw2.other W4 (Or.inr (slot_ne (Or.inr (hw _ (List.mem_of_getElem? (i := 78) rfl))) (Or.inr (hw _ (List.mem_of_getElem? (i := 80) rfl))) (by decide) (t := (.object "java/lang/String")) (t' := (.object "java/lang/String")) (by decide) (by decide)))
  have f5_4 := f3_4.other W4 (Or.inr (slot_ne (Or.inr (hw _ (List.mem_of_getElem? (i := 82) rfl))) (Or.inr (hw _ (List.mem_of_getElem? (i := 80) rfl))) (by decide) (t := (.object "java/lang/String")) (t' := (.object "java/lang/String")) (by decide) (by decide)))
  have f5_5 := f3_5.other W4 (Or.inr (slot_ne (Or.inr (hw _ (List.mem_of_getElem? (i := 84) rfl))) (Or.inr (hw _ (List.mem_of_getElem? (i := 80) rfl))) (by decide) (t := .int) (t' := (.object "java/lang/String")) (by decide) (by decide)))
  have f5_6 := f3_6.other W4 (Or.inr (slot_ne (Or.inr (hw _ (List.mem_of_getElem? (i := 86) rfl))) (Or.inr (hw _ (List.mem_of_getElem? (i := 80) rfl))) (by decide) (t := .boolean) (t' := (.object "java/lang/String")) (by decide) (by decide)))
  have f5_7 := f3_7.other W4 (Or.inr (slot_ne (Or.inr (hw _ (List.mem_of_getElem? (i := 88) rfl))) (Or.inr (hw _ (List.mem_of_getElem? (i := 80) rfl))) (by decide) (t := .boolean) (t' := (.object "java/lang/String")) (by decide) (by decide)))
  have N4 := Fr.snoc X4 N2 g_r0
  have Z4 : n0 ≤ h4.size := Nat.le_trans Z2 (Keep.of_wr W4).1
  have K4 := K2.wr W4 (Or.inl (by simp))
  obtain ⟨T6, h6, X6, e6, W6, st6⟩ := putF X4 hx hZ hown (host := "") (Or.inl (hw _ (List.mem_of_getElem? (i := 81) rfl))) Via.refl e4 f5_4 f5_1 (Or.inr ⟨(hw _ (List.mem_of_getElem? (i := 82) rfl)), rfl, hnm⟩) (hw _ (List.mem_of_getElem? (i := 66) rfl)) (ty := (.object "java/lang/String")) (by decide) rfl rfl (g := (mkF m 16 #[.val (.ref r0), .val (.ref r1), .val (.ref r2), .val (.ref r3), .val (.int p4), .val (.int p5), .val (.int p6)] [(.ref r3), (.ref r0)])) rfl rfl (hb hby own_d16_16)
  have Fw6 := f5_4.same W6
  have f7_1 := f5_1.wr W6
  have f7_2 := f5_2.other W6 (Or.inr (slot_ne (Or.inr (hw _ (List.mem_of_getElem? (i := 78) rfl))) (Or.inr (hw _ (List.mem_of_getElem? (i := 82) rfl))) (by decide) (t := (.object "java/lang/String")) (t' := (.object "java/lang/String")) (by decide) (by decide)))
  have f7_3 := Fw4.other W6 (Or.inr (slot_ne (Or.inr (hw _ (List.mem_of_getElem? (i := 80) rfl))) (Or.inr (hw _ (List.mem_of_getElem? (i := 82) rfl))) (by decide) (t := (.object "java/lang/String")) (t' := (.object "java/lang/String")) (by decide) (by decide)))
  have f7_5 := f5_5.other W6 (Or.inr (slot_ne (Or.inr (hw _ (List.mem_of_getElem? (i := 84) rfl))) (Or.inr (hw _ (List.mem_of_getElem? (i := 82) rfl))) (by decide) (t := .int) (t' := (.object "java/lang/String")) (by decide) (by decide)))
  have f7_6 := f5_6.other W6 (Or.inr (slot_ne (Or.inr (hw _ (List.mem_of_getElem? (i := 86) rfl))) (Or.inr (hw _ (List.mem_of_getElem? (i := 82) rfl))) (by decide) (t := .boolean) (t' := (.object "java/lang/String")) (by decide) (by decide)))
  have f7_7 := f5_7.other W6 (Or.inr (slot_ne (Or.inr (hw _ (List.mem_of_getElem? (i := 88) rfl))) (Or.inr (hw _ (List.mem_of_getElem? (i := 82) rfl))) (by decide) (t := .boolean) (t' := (.object "java/lang/String")) (by decide) (by decide)))
  have N6 := Fr.snoc X6 N4 g_r0
  have Z6 : n0 ≤ h6.size := Nat.le_trans Z4 (Keep.of_wr W6).1
  have K6 := K4.wr W6 (Or.inl (by simp))
  obtain ⟨T8, h8, X8, e8, W8, st8⟩ := putF X6 hx hZ hown (host := "") (Or.inl (hw _ (List.mem_of_getElem? (i := 83) rfl))) Via.refl e6 f7_5 f7_1 (Or.inr ⟨(hw _ (List.mem_of_getElem? (i := 84) rfl)), rfl, hnm⟩) (hw _ (List.mem_of_getElem? (i := 66) rfl)) (ty := .int) (by decide) rfl rfl (g := (mkF m 22 #[.val (.ref r0), .val (.ref r1), .val (.ref r2), .val (.ref r3), .val (.int p4), .val (.int p5), .val (.int p6)] [(.int p4), (.ref r0)])) rfl rfl (hb hby own_d16_22)
  have Fw8 := f7_5.same W8
  have f9_1 := f7_1.wr W8
  have f9_2 := f7_2.other W8 (Or.inr (slot_ne (Or.inr (hw _ (List.mem_of_getElem? (i := 78) rfl))) (Or.inr (hw _ (List.mem_of_getElem? (i := 84) rfl))) (by decide) (t := (.object "java/lang/String")) (t' := .int) (by decide) (by decide)))
  have f9_3 := f7_3.other W8 (Or.inr (slot_ne (Or.inr (hw _ (List.mem_of_getElem? (i := 80) rfl))) (Or.inr (hw _ (List.mem_of_getElem? (i := 84) rfl))) (by decide) (t := (.object "java/lang/String")) (t' := .int) (by decide) (by decide)))
  have f9_4 := Fw6.other W8 (Or.inr (slot_ne (Or.inr (hw _ (List.mem_of_getElem? (i := 82) rfl))) (Or.inr (hw _ (List.mem_of_getElem? (i := 84) rfl))) (by decide) (t := (.object "java/lang/String")) (t' := .int) (by decide) (by decide)))
  have f9_6 := f7_6.other W8 (Or.inr (slot_ne (Or.inr (hw _ (List.mem_of_getElem? (i := 86) rfl))) (Or.inr (hw _ (List.mem_of_getElem? (i := 84) rfl))) (by decide) (t := .boolean) (t' := .int) (by decide) (by decide)))
  have f9_7 := f7_7.other W8 (Or.inr (slot_ne (Or.inr (hw _ (List.mem_of_getElem? (i := 88) rfl))) (Or.inr (hw _ (List.mem_of_getElem? (i := 84) rfl))) (by decide) (t := .boolean) (t' := .int) (by decide) (by decide)))
  have N8 := Fr.snoc X8 N6 g_r0
  have Z8 : n0 ≤ h8.size := Nat.le_trans Z6 (Keep.of_wr W8).1
  have K8 := K6.wr W8 (Or.inl (by simp))
  obtain ⟨T10, h10, X10, e10, W10, st10⟩ := putFN X8 hx hZ hown (hw _ (List.mem_of_getElem? (i := 85) rfl)) Via.refl e8 f9_6 f9_1 (Or.inr ⟨(hw _ (List.mem_of_getElem? (i := 86) rfl)), rfl, hnm⟩) (hw _ (List.mem_of_getElem? (i := 66) rfl)) (ty := .boolean) (v' := (.int (nar .boolean p5))) (by decide) rfl (fits_nar_bool _) (g := (mkF m 28 #[.val (.ref r0), .val (.ref r1), .val (.ref r2), .val (.ref r3), .val (.int p4), .val (.int p5), .val (.int p6)] [(.int p5), (.ref r0)])) rfl rfl (hb hby own_d16_28)
  have Fw10 := f9_6.same W10
  have f11_1 := f9_1.wr W10
  have f11_2 := f9_2.other W10 (Or.inr (slot_ne (Or.inr (hw _ (List.mem_of_getElem? (i := 78) rfl))) (Or.inr (hw _ (List.mem_of_getElem? (i := 86) rfl))) (by decide) (t := (.object "java/lang/String")) (t' := .boolean) (by decide) (by decide)))
  have f11_3 := f9_3.other W10 (Or.inr (slot_ne (Or.inr (hw _ (List.mem_of_getElem? (i := 80) rfl))) (Or.inr (hw _ (List.mem_of_getElem? (i := 86) rfl))) (by decide) (t := (.object "java/lang/String")) (t' := .boolean) (by decide) (by decide)))
  have f11_4 := f9_4.other W10 (Or.inr (slot_ne (Or.inr (hw _ (List.mem_of_getElem? (i := 82) rfl))) (Or.inr (hw _ (List.mem_of_getElem? (i := 86) rfl))) (by decide) (t := (.object "java/lang/String")) (t' := .boolean) (by decide) (by decide)))
  have f11_5 := Fw8.other W10 (Or.inr (slot_ne (Or.inr (hw _ (List.mem_of_getElem? (i := 84) rfl))) (Or.inr (hw _ (List.mem_of_getElem? (i := 86) rfl))) (by decide) (t := .int) (t' := .boolean) (by decide) (by decide)))
  have f11_7 := f9_7.other W10 (Or.inr (slot_ne (Or.inr (hw _ (List.mem_of_getElem? (i := 88) rfl))) (Or.inr (hw _ (List.mem_of_getElem? (i := 86) rfl))) (by decide) (t := .boolean) (t' := .boolean) (by decide) (by decide)))
  have N10 := Fr.snoc X10 N8 g_r0
  have Z10 : n0 ≤ h10.size := Nat.le_trans Z8 (Keep.of_wr W10).1
  have K10 := K8.wr W10 (Or.inl (by simp))
  obtain ⟨T12, h12, X12, e12, W12, st12⟩ := putFN X10 hx hZ hown (hw _ (List.mem_of_getElem? (i := 87) rfl)) Via.refl e10 f11_7 f11_1 (Or.inr ⟨(hw _ (List.mem_of_getElem? (i := 88) rfl)), rfl, hnm⟩) (hw _ (List.mem_of_getElem? (i := 66) rfl)) (ty := .boolean) (v' := (.int (nar .boolean p6))) (by decide) rfl (fits_nar_bool _) (g := (mkF m 34 #[.val (.ref r0), .val (.ref r1), .val (.ref r2), .val (.ref r3), .val (.int p4), .val (.int p5), .val (.int p6)] [(.int p6), (.ref r0)])) rfl rfl (hb hby own_d16_34)
  have Fw12 := f11_7.same W12
  have f13_1 := f11_1.wr W12
  have f13_2 := f11_2.other W12 (Or.inr (slot_ne (Or.inr (hw _ (List.mem_of_getElem? (i := 78) rfl))) (Or.inr (hw _ (List.mem_of_getElem? (i := 88) rfl))) (by decide) (t := (.object "java/lang/String")) (t' := .boolean) (by decide) (by decide)))
  have f13_3 := f11_3.other W12 (Or.inr (slot_ne (Or.inr (hw _ (List.mem_of_getElem? (i := 80) rfl))) (Or.inr (hw _ (List.mem_of_getElem? (i := 88) rfl))) (by decide) (t := (.object "java/lang/String")) (t' := .boolean) (by decide) (by decide)))
  have f13_4 := f11_4.other W12 (Or.inr (slot_ne (Or.inr (hw _ (List.mem_of_getElem? (i := 82) rfl))) (Or.inr (hw _ (List.mem_of_getElem? (i := 88) rfl))) (by decide) (t := (.object "java/lang/String")) (t' := .boolean) (by decide) (by decide)))
  have f13_5 := f11_5.other W12 (Or.inr (slot_ne (Or.inr (hw _ (List.mem_of_getElem? (i := 84) rfl))) (Or.inr (hw _ (List.mem_of_getElem? (i := 88) rfl))) (by decide) (t := .int) (t' := .boolean) (by decide) (by decide)))
  have f13_6 := Fw10.other W12 (Or.inr (slot_ne (Or.inr (hw _ (List.mem_of_getElem? (i := 86) rfl))) (Or.inr (hw _ (List.mem_of_getElem? (i := 88) rfl))) (by decide) (t := .boolean) (t' := .boolean) (by decide) (by decide)))
  have N12 := Fr.snoc X12 N10 g_r0
  have Z12 : n0 ≤ h12.size := Nat.le_trans Z10 (Keep.of_wr W12).1
  have K12 := K10.wr W12 (Or.inl (by simp))
  obtain ⟨fs, hr, hrun, hended, hW, hsame⟩ := X12.leave (v := none) (fun _ => rfl)
  refine ⟨_, _, pre0 _ ?_, hrun, hended, _, _, rfl, ?_, ⟨_, rfl⟩, hW, hsame.mono (by decide) (by decide)⟩
  · show Steps p.tables e below (s₁.setTop (mkF m 0 #[.val (.ref r0), .val (.ref r1), .val (.ref r2), .val (.ref r3), .val (.int p4), .val (.int p5), .val (.int p6)] [])) _
    refine XS.aloadN X0.here hx rfl (hb hby own_d16_0) rfl rfl ?_
    show Steps p.tables e below (s₁.setTop (mkF m 1 #[.val (.ref r0), .val (.ref r1), .val (.ref r2), .val (.ref r3), .val (.int p4), .val (.int p5), .val (.int p6)] [(.ref r0)])) _
    refine st1.trans ?_
    show Steps p.tables e below (T1.setTop (mkF m 4 #[.val (.ref r0), .val (.ref r1), .val (.ref r2), .val (.ref r3), .val (.int p4), .val (.int p5), .val (.int p6)] [])) _
    refine XS.aloadN X1.here hx rfl (hb hby own_d16_4) rfl rfl ?_
    show Steps p.tables e below (T1.setTop (mkF m 5 #[.val (.ref r0), .val (.ref r1), .val (.ref r2), .val (.ref r3), .val (.int p4), .val (.int p5), .val (.int p6)] [(.ref r0)])) _
    refine XS.aloadN X1.here hx rfl (hb hby own_d16_5) rfl rfl ?_
    show Steps p.tables e below (T1.setTop (mkF m 6 #[.val (.ref r0), .val (.ref r1), .val (.ref r2), .val (.ref r3), .val (.int p4), .val (.int p5), .val (.int p6)] [(.ref r1), (.ref r0)])) _
    refine st2 _ ?_
    show Steps p.tables e below (T2.setTop (mkF m 9 #[.val (.ref r0), .val (.ref r1), .val (.ref r2), .val (.ref r3), .val (.int p4), .val (.int p5), .val (.int p6)] [])) _
    refine XS.aloadN X2.here hx rfl (hb hby own_d16_9) rfl rfl ?_
    show Steps p.tables e below (T2.setTop (mkF m 10 #[.val (.ref r0), .val (.ref r1), .val (.ref r2), .val (.ref r3), .val (.int p4), .val (.int p5), .val (.int p6)] [(.ref r0)])) _
    refine XS.aloadN X2.here hx rfl (hb hby own_d16_10) rfl rfl ?_
    show Steps p.tables e below (T2.setTop (mkF m 11 #[.val (.ref r0), .val (.ref r1), .val (.ref r2), .val (.ref r3), .val (.int p4), .val (.int p5), .val (.int p6)] [(.ref r2), (.ref r0)])) _
    refine st4 _ ?_
    show Steps p.tables e below (T4.setTop (mkF m 14 #[.val (.ref r0), .val (.ref r1), .val (.ref r2), .val (.ref r3), .val (.int p4), .val (.int p5), .val (.int p6)] [])) _
    refine XS.aloadN X4.here hx rfl (hb hby own_d16_14) rfl rfl ?_
    show Steps p.tables e below (T4.setTop (mkF m 15 #[.val (.ref r0), .val (.ref r1), .val (.ref r2), .val (.ref r3), .val (.int p4), .val (.int p5), .val (.int p6)] [(.ref r0)])) _
    refine XS.aloadN X4.here hx rfl (hb hby own_d16_15) rfl rfl ?_
    show Steps p.tables e below (T4.setTop (mkF m 16 #[.val (.ref r0), .val (.ref r1), .val (.ref r2), .val (.ref r3), .val (.int p4), .val (.int p5), .val (.int p6)] [(.ref r3), (.ref r0)])) _
    refine st6 _ ?_
    show Steps p.tables e below (T6.setTop (mkF m 19 #[.val (.ref r0), .val (.ref r1), .val (.ref r2), .val (.ref r3), .val (.int p4), .val (.int p5), .val (.int p6)] [])) _
    refine XS.aloadN X6.here hx rfl (hb hby own_d16_19) rfl rfl ?_
    show Steps p.tables e below (T6.setTop (mkF m 20 #[.val (.ref r0), .val (.ref r1), .val (.ref r2), .val (.ref r3), .val (.int p4), .val (.int p5), .val (.int p6)] [(.ref r0)])) _
    refine XS.iload X6.here hx rfl (hb hby own_d16_20) rfl ?_
    show Steps p.tables e below (T6.setTop (mkF m 22 #[.val (.ref r0), .val (.ref r1), .val (.ref r2), .val (.ref r3), .val (.int p4), .val (.int p5), .val (.int p6)] [(.int p4), (.ref r0)])) _
    refine st8 _ ?_
    show Steps p.tables e below (T8.setTop (mkF m 25 #[.val (.ref r0), .val (.ref r1), .val (.ref r2), .val (.ref r3), .val (.int p4), .val (.int p5), .val (.int p6)] [])) _
    refine XS.aloadN X8.here hx rfl (hb hby own_d16_25) rfl rfl ?_
    show Steps p.tables e below (T8.setTop (mkF m 26 #[.val (.ref r0), .val (.ref r1), .val (.ref r2), .val (.ref r3), .val (.int p4), .val (.int p5), .val (.int p6)] [(.ref r0)])) _
    refine XS.iload X8.here hx rfl (hb hby own_d16_26) rfl ?_
    show Steps p.tables e below (T8.setTop (mkF m 28 #[.val (.ref r0), .val (.ref r1), .val (.ref r2), .val (.ref r3), .val (.int p4), .val (.int p5), .val (.int p6)] [(.int p5), (.ref r0)])) _
    refine st10 _ ?_
    show Steps p.tables e below (T10.setTop (mkF m 31 #[.val (.ref r0), .val (.ref r1), .val (.ref r2), .val (.ref r3), .val (.int p4), .val (.int p5), .val (.int p6)] [])) _
    refine XS.aloadN X10.here hx rfl (hb hby own_d16_31) rfl rfl ?_
    show Steps p.tables e below (T10.setTop (mkF m 32 #[.val (.ref r0), .val (.ref r1), .val (.ref r2), .val (.ref r3), .val (.int p4), .val (.int p5), .val (.int p6)] [(.ref r0)])) _
    refine XS.iload X10.here hx rfl (hb hby own_d16_32) rfl ?_
    show Steps p.tables e below (T10.setTop (mkF m 34 #[.val (.ref r0), .val (.ref r1), .val (.ref r2), .val (.ref r3), .val (.int p4), .val (.int p5), .val (.int p6)] [(.int p6), (.ref r0)])) _
    refine st12 _ ?_
    show Steps p.tables e below (T12.setTop (mkF m 37 #[.val (.ref r0), .val (.ref r1), .val (.ref r2), .val (.ref r3), .val (.int p4), .val (.int p5), .val (.int p6)] [])) _
    exact X12.returnOut hx Bd.returns (hb hby own_d16_37) hr
  · show Q_set Z r0 r1 r2 r3 p4 p5 p6 h0 n0 _ T12.heap _
    rw [e12]
    exact ⟨rfl, N12, K12, f13_1, f13_3, f13_4⟩
def own_rs (a b c d : List Int32) : Int32 := (if (if a = b then (1 : Int32) else (0 : Int32)) = (0 : Int32) then (0 : Int32) else (if (if c = d then (1 : Int32) else (0 : Int32)) = (0 : Int32) then (0 : Int32) else (1 : Int32)))
theorem own_d18_0 : decode prog_73_method_4_code 0 = .ok (.aload_n 0, 1) := by decide +kernel
theorem own_d18_1 : decode prog_73_method_4_code 1 = .ok (.getfield 13, 3) := by decide +kernel
theorem own_d18_4 : decode prog_73_method_4_code 4 = .ok (.aload_n 1, 1) := by decide +kernel
theorem own_d18_5 : decode prog_73_method_4_code 5 = .ok (.getfield 13, 3) := by decide +kernel
theorem own_d18_8 : decode prog_73_method_4_code 8 = .ok (.invokevirtual 53, 3) := by decide +kernel
theorem own_pd13 : parseMethodDescriptor "(Ljava/lang/Object;)Z" = some ⟨[(.object "java/lang/Object")], some .boolean⟩ := by decide +kernel
theorem own_d18_11 : decode prog_73_method_4_code 11 = .ok (.ifCond .eq 21, 3) := by decide +kernel
theorem own_d18_32 : decode prog_73_method_4_code 32 = .ok (.iconst 0, 1) := by decide +kernel
theorem own_d18_33 : decode prog_73_method_4_code 33 = .ok (.ireturn, 1) := by decide +kernel
theorem own_d18_14 : decode prog_73_method_4_code 14 = .ok (.aload_n 0, 1) := by decide +kernel
theorem own_d18_15 : decode prog_73_method_4_code 15 = .ok (.getfield 16, 3) := by decide +kernel
theorem own_d18_18 : decode prog_73_method_4_code 18 = .ok (.aload_n 1, 1) := by decide +kernel
theorem own_d18_19 : decode prog_73_method_4_code 19 = .ok (.getfield 16, 3) := by decide +kernel
theorem own_d18_22 : decode prog_73_method_4_code 22 = .ok (.invokevirtual 53, 3) := by decide +kernel
theorem own_d18_25 : decode prog_73_method_4_code 25 = .ok (.ifCond .eq 7, 3) := by decide +kernel
theorem own_d18_28 : decode prog_73_method_4_code 28 = .ok (.iconst 1, 1) := by decide +kernel
theorem own_d18_29 : decode prog_73_method_4_code 29 = .ok (.goto 4, 3) := by decide +kernel
theorem ef_rs (m : MethodId) (r0 : Addr) (r1 : Addr) : entryFrame m #[(.ref r0), (.ref r1)] 2 = mkF m 0 #[.val (.ref r0), .val (.ref r1)] [] := by first | (simp [entryFrame, mkF, argsToLocals, Value.category]; done) | rfl
def Q_rs (Z : State) (r0 : Addr) (r1 : Addr) (G1 : Int32) (u1 : Addr) (t1 : Addr) (k1 : ClassId) (c1 : List Int32) (u2 : Addr) (t2 : Addr) (k2 : ClassId) (c2 : List Int32) (x1 : Addr) (t3 : Addr) (k3 : ClassId) (c3 : List Int32) (x2 : Addr) (t4 : Addr) (k4 : ClassId) (c4 : List Int32) (h0 : Heap) (n0 : Nat) (v : Option Value) (h : Heap) (L : List Loc) : Prop := v = some (.int (own_rs c1 c2 c3 c4)) ∧ Fr n0 L ∧ h = h0
set_option maxRecDepth 65536 in
set_option maxHeartbeats 40000000 in
theorem rm_rs (l : Launch) (Z : State) (a0 : Array Value) (hw : ∀ d ∈ tables_1, d.before a0 Z = true) (ws : List Jvm.Cond) (r0 : Addr) (r1 : Addr) (G1 : Int32) (u1 : Addr) (t1 : Addr) (k1 : ClassId) (c1 : List Int32) (u2 : Addr) (t2 : Addr) (k2 : ClassId) (c2 : List Int32) (x1 : Addr) (t3 : Addr) (k3 : ClassId) (c3 : List Int32) (x2 : Addr) (t4 : Addr) (k4 : ClassId) (c4 : List Int32) (h0 : Heap) (n0 : Nat) (Z0 : n0 ≤ h0.size) (O2 : Sta Z Z.heap "java/lang/String" "COMPACT_STRINGS" "Z" (.int G1)) (P5 : ¬ (G1 = (0 : Int32))) (X00 : Old Z n0 h0) (S_u1 : Str Z h0 u1 t1 k1 c1) (R_u1 : ∀ c ∈ c1, ¬ c < 0 ∧ ¬ (255 : Int32) < c) (L_u1 : c1.length ≤ 4000) (S_u2 : Str Z h0 u2 t2 k2 c2) (R_u2 : ∀ c ∈ c2, ¬ c < 0 ∧ ¬ (255 : Int32) < c) (L_u2 : c2.length ≤ 4000) (S_x1 : Str Z h0 x1 t3 k3 c3) (R_x1 : ∀ c ∈ c3, ¬ c < 0 ∧ ¬ (255 : Int32) < c) (L_x1 : c3.length ≤ 4000) (S_x2 : Str Z h0 x2 t4 k4 c4) (R_x2 : ∀ c ∈ c4, ¬ c < 0 ∧ ¬ (255 : Int32) < c) (L_x2 : c4.length ≤ 4000) (F_u1 : Fld Z h0 r0 "com/example/cartulary/cartulary/store/Harvester$Settings" "url" "Ljava/lang/String;" (.ref u1)) (F_u2 : Fld Z h0 r1 "com/example/cartulary/cartulary/store/Harvester$Settings" "url" "Ljava/lang/String;" (.ref u2)) (F_x1 : Fld Z h0 r0 "com/example/cartulary/cartulary/store/Harvester$Settings" "prefix" "Ljava/lang/String;" (.ref x1)) (F_x2 : Fld Z h0 r1 "com/example/cartulary/cartulary/store/Harvester$Settings" "prefix" "Ljava/lang/String;" (.ref x2)) :
    MetFree l (⟨"com/example/cartulary/cartulary/store/Harvester$Settings", "readsSameListAs", "(Lcom/example/cartulary/cartulary/store/Harvester$Settings;)Z"⟩ : MethodName) (head1 (Jvm.Cond.code (⟨"com/example/cartulary/cartulary/store/Harvester$Settings", "readsSameListAs", "(Lcom/example/cartulary/cartulary/store/Harvester$Settings;)Z"⟩ : MethodName) prog_73_method_4_code 2 (some .boolean) :: ws) ({ frames := 2, cells := 0, slots := 0, locals := 28 } : Room)) (fun a U => a = #[(.ref r0), (.ref r1)] ∧ Z.Warmed39 U.vm ∧ U.heap = h0) (fun _ _ _ _ _ => True) (fun _ U o U' => ∃ v L, o = .returned v ∧ Q_rs Z r0 r1 G1 u1 t1 k1 c1 u2 t2 k2 c2 x1 t3 k3 c3 x2 t4 k4 c4 h0 n0 v U'.heap L ∧ FrameEnd U o U' L ({ frames := 2, cells := 0, slots := 0, locals := 28 } : Room).cells ({ frames := 2, cells := 0, slots := 0, locals := 28 } : Room).slots) := by
  refine MetFree.of_bodySF (plainFor_of_name own_pn12) hisR ?_
  intro p e s m args below meth c s₁ Bd hml0 hP hK
  obtain ⟨rfl, hZ, hh⟩ := hP
  have hx := Bd.exec
  have hby := Bd.bytes
  have hml : c.maxLocals = 2 := hml0
  have hown : s.vm.findClass "com/example/cartulary/cartulary/store/Harvester$Settings" = some m.cls := findClass_of_methodNamed Bd.named
  have hnm := (name_of_methodNamed Bd.named Bd.method).1
  have X0 : Stand p l e ({ frames := 2, cells := 0, slots := 0, locals := 28 } : Room) s m #[(.ref r0), (.ref r1)] below meth c s₁ [] 0 0 := Stand.of_body Bd
  have e0 : s₁.heap = h0 := by rw [← hh, Bd.state]; rfl
  have N0 := Fr.nil n0
  have pre0 : ∀ t, Steps p.tables e below (s₁.setTop (mkF m 0 #[.val (.ref r0), .val (.ref r1)] [])) t → Steps p.tables e below (s₁.setTop (entryFrame m #[(.ref r0), (.ref r1)] 2)) t := fun t k => castTop (ef_rs m r0 r1) k
  obtain ⟨T1, X1, e1, st1⟩ := getF X0 hx hZ hown (host := "") (Or.inl (hw _ (List.mem_of_getElem? (i := 79) rfl))) Via.refl e0 F_u1 (g := (mkF m 1 #[.val (.ref r0), .val (.ref r1)] [(.ref r0)])) rfl rfl (hb hby own_d18_1)
  obtain ⟨T2, X2, e2, st2⟩ := getF X1 hx hZ hown (host := "") (Or.inl (hw _ (List.mem_of_getElem? (i := 79) rfl))) Via.refl e1 F_u2 (g := (mkF m 5 #[.val (.ref r0), .val (.ref r1)] [(.ref r1), (.ref u1)])) rfl rfl (hb hby own_d18_5)
  obtain ⟨cq3, kq3, q3a, q3b, q3c⟩ := isOf hZ e2 S_u1.1
  obtain ⟨v3, _, ⟨T3, L3, k3, n3⟩, -, X3, ⟨Lc3, hQ3, l3, y3, z3⟩, st3⟩ := X2.virtualBack hx (y := (⟨"java/lang/String", "equals", "(Ljava/lang/Object;)Z"⟩ : MethodName)) (z := (⟨"java/lang/String", "equals", "(Ljava/lang/Object;)Z"⟩ : MethodName)) hown (mvT hZ (hw _ (List.mem_of_getElem? (i := 94) rfl))) (mvT hZ (hw _ (List.mem_of_getElem? (i := 95) rfl))) (notFace_of_selects (args := #[]) (mvT hZ (hw _ (List.mem_of_getElem? (i := 97) rfl)))) (mvT hZ (hw _ (List.mem_of_getElem? (i := 97) rfl))) (mvT hZ (hw _ (List.mem_of_getElem? (i := 96) rfl))) (by decide) (StrChars.Road.eqW (W := 0) hZ (own_wordsEq hw) (kI := 4) (hw _ (List.mem_of_getElem? (i := 8) rfl)) S_u1.1 S_u1.2.2.1 S_u1.2.1 S_u1.2.2.2 (StrChars.Road.codOf rfl (fun c hc => (R_u1 c hc).2)) (own_up R_u1) L_u1 S_u2.1 S_u2.2.2.1 S_u2.2.1 S_u2.2.2.2 (StrChars.Road.codOf rfl (fun c hc => (R_u2 c hc).2)) (own_up R_u2) L_u2 (O2.ext X00.2) P5 (by decide) (by decide)) q3a q3c (g := (mkF m 8 #[.val (.ref r0), .val (.ref r1)] [(.ref u2), (.ref u1)])) rfl (by rw [hml]; rfl) (Steps.refl _) (argsL := [(.ref u2)]) (rest := []) (lenOf own_pd13 rfl) rfl (by show 2 * 0 + _ ≤ _; exact Nat.le_of_eq rfl) (hb hby own_d18_8) (fun _ _ => ⟨rfl, e2, (by decide : 0 + 0 ≤ _), (by decide : 0 + 0 ≤ _)⟩)
  dsimp only [Pt.U, Pt.locs, Pt.cells, Pt.slots] at X3 l3 y3 z3 st3 hQ3
  subst l3 y3 z3
  obtain ⟨hc3, rfl, e3⟩ := hQ3
  obtain rfl : v3 = some (.int (if c1 = c2 then (1 : Int32) else (0 : Int32))) := by
    rcases hc3 with ⟨q1, q2⟩ | ⟨q1, q2⟩
    · rw [q1, if_pos q2]
    · rw [q1, if_neg q2]
  have N3 := Fr.app N0 (Fr.nil n0)
  have pre5 : ∀ t, Steps p.tables e below (T3.setTop (mkF m 11 #[.val (.ref r0), .val (.ref r1)] [(.int (if c1 = c2 then (1 : Int32) else (0 : Int32)))])) t → Steps p.tables e below (s₁.setTop (entryFrame m #[(.ref r0), (.ref r1)] 2)) t := fun t k => pre0 t (by
    show Steps p.tables e below (s₁.setTop (mkF m 0 #[.val (.ref r0), .val (.ref r1)] [])) t
    refine XS.aloadN X0.here hx rfl (hb hby own_d18_0) rfl rfl ?_
    show Steps p.tables e below (s₁.setTop (mkF m 1 #[.val (.ref r0), .val (.ref r1)] [(.ref r0)])) t
    refine st1 _ ?_
    show Steps p.tables e below (T1.setTop (mkF m 4 #[.val (.ref r0), .val (.ref r1)] [(.ref u1)])) t
    refine XS.aloadN X1.here hx rfl (hb hby own_d18_4) rfl rfl ?_
    show Steps p.tables e below (T1.setTop (mkF m 5 #[.val (.ref r0), .val (.ref r1)] [(.ref r1), (.ref u1)])) t
    refine st2 _ ?_
    show Steps p.tables e below (T2.setTop (mkF m 8 #[.val (.ref r0), .val (.ref r1)] [(.ref u2), (.ref u1)])) t
    refine st3.trans ?_
    exact k)
  by_cases hc4 : (if c1 = c2 then (1 : Int32) else (0 : Int32)) = (0 : Int32)
  · obtain ⟨fs, hr, hrun, hended, hW, hsame⟩ := X3.leave (v := some (.int (0 : Int32))) (fun h => by rw [Bd.returns] at h; cases h)
    refine ⟨_, _, pre5 _ ?_, hrun, hended, _, _, rfl, ?_, ⟨_, rfl⟩, hW, hsame.mono (by decide) (by decide)⟩
    · show Steps p.tables e below (T3.setTop (mkF m 11 #[.val (.ref r0), .val (.ref r1)] [(.int (if c1 = c2 then (1 : Int32) else (0 : Int32)))])) _
      refine XS.ifYes X3.here hx rfl (pc0 := 11) (pc' := 32) rfl (hb hby own_d18_11) rfl ((if0 _ _).trans (teq hc4).1) (by decide) (by decide) ?_
      show Steps p.tables e below (T3.setTop (mkF m 32 #[.val (.ref r0), .val (.ref r1)] [])) _
      refine XS.iconst X3.here hx rfl (hb hby own_d18_32) ?_
      show Steps p.tables e below (T3.setTop (mkF m 33 #[.val (.ref r0), .val (.ref r1)] [(.int (0 : Int32))])) _
      exact retN X3 hx (t := .boolean) Bd.returns (by simp) (hb hby own_d18_33) hr
    · show Q_rs Z r0 r1 G1 u1 t1 k1 c1 u2 t2 k2 c2 x1 t3 k3 c3 x2 t4 k4 c4 h0 n0 _ T3.heap _
      rw [e3]
      exact ⟨by simp only [own_rs, if_pos hc4], N3, rfl⟩
  · obtain ⟨T6, X6, e6, st6⟩ := getF X3 hx hZ hown (host := "") (Or.inl (hw _ (List.mem_of_getElem? (i := 81) rfl))) Via.refl e3 F_x1 (g := (mkF m 15 #[.val (.ref r0), .val (.ref r1)] [(.ref r0)])) rfl rfl (hb hby own_d18_15)
    obtain ⟨T7, X7, e7, st7⟩ := getF X6 hx hZ hown (host := "") (Or.inl (hw _ (List.mem_of_getElem? (i := 81) rfl))) Via.refl e6 F_x2 (g := (mkF m 19 #[.val (.ref r0), .val (.ref r1)] [(.ref r1), (.ref x1)])) rfl rfl (hb hby own_d18_19)
    obtain ⟨cq8, kq8, q8a, q8b, q8c⟩ := isOf hZ e7 S_x1.1
    obtain ⟨v8, _, ⟨T8, L8, k8, n8⟩, -, X8, ⟨Lc8, hQ8, l8, y8, z8⟩, st8⟩ := X7.virtualBack hx (y := (⟨"java/lang/String", "equals", "(Ljava/lang/Object;)Z"⟩ : MethodName)) (z := (⟨"java/lang/String", "equals", "(Ljava/lang/Object;)Z"⟩ : MethodName)) hown (mvT hZ (hw _ (List.mem_of_getElem? (i := 94) rfl))) (mvT hZ (hw _ (List.mem_of_getElem? (i := 95) rfl))) (notFace_of_selects (args := #[]) (mvT hZ (hw _ (List.mem_of_getElem? (i := 97) rfl)))) (mvT hZ (hw _ (List.mem_of_getElem? (i := 97) rfl))) (mvT hZ (hw _ (List.mem_of_getElem? (i := 96) rfl))) (by decide) (StrChars.Road.eqW (W := 0) hZ (own_wordsEq hw) (kI := 4) (hw _ (List.mem_of_getElem? (i := 8) rfl)) S_x1.1 S_x1.2.2.1 S_x1.2.1 S_x1.2.2.2 (StrChars.Road.codOf rfl (fun c hc => (R_x1 c hc).2)) (own_up R_x1) L_x1 S_x2.1 S_x2.2.2.1 S_x2.2.1 S_x2.2.2.2 (StrChars.Road.codOf rfl (fun c hc => (R_x2 c hc).2)) (own_up R_x2) L_x2 (O2.ext X00.2) P5 (by decide) (by decide)) q8a q8c (g := (mkF m 22 #[.val (.ref r0), .val (.ref r1)] [(.ref x2), (.ref x1)])) rfl (by rw [hml]; rfl) (Steps.refl _) (argsL := [(.ref x2)]) (rest := []) (lenOf own_pd13 rfl) rfl (by show 2 * 0 + _ ≤ _; exact Nat.le_of_eq rfl) (hb hby own_d18_22) (fun _ _ => ⟨rfl, e7, (by decide : 0 + 0 ≤ _), (by decide : 0 + 0 ≤ _)⟩)
    dsimp only [Pt.U, Pt.locs, Pt.cells, Pt.slots] at X8 l8 y8 z8 st8 hQ8
    subst l8 y8 z8
    obtain ⟨hc8, rfl, e8⟩ := hQ8
    obtain rfl : v8 = some (.int (if c3 = c4 then (1 : Int32) else (0 : Int32))) := by
      rcases hc8 with ⟨q1, q2⟩ | ⟨q1, q2⟩
      · rw [q1, if_pos q2]
      · rw [q1, if_neg q2]
    have N8 := Fr.app N3 (Fr.nil n0)
    have pre10 : ∀ t, Steps p.tables e below (T8.setTop (mkF m 25 #[.val (.ref r0), .val (.ref r1)] [(.int (if c3 = c4 then (1 : Int32) else (0 : Int32)))])) t → Steps p.tables e below (s₁.setTop (entryFrame m #[(.ref r0), (.ref r1)] 2)) t := fun t k => pre5 t (by
      show Steps p.tables e below (T3.setTop (mkF m 11 #[.val (.ref r0), .val (.ref r1)] [(.int (if c1 = c2 then (1 : Int32) else (0 : Int32)))])) t
      refine XS.ifNo X3.here hx rfl (hb hby own_d18_11) rfl ((if0 _ _).trans (feq hc4).1) ?_
      show Steps p.tables e below (T3.setTop (mkF m 14 #[.val (.ref r0), .val (.ref r1)] [])) t
      refine XS.aloadN X3.here hx rfl (hb hby own_d18_14) rfl rfl ?_
      show Steps p.tables e below (T3.setTop (mkF m 15 #[.val (.ref r0), .val (.ref r1)] [(.ref r0)])) t
      refine st6 _ ?_
      show Steps p.tables e below (T6.setTop (mkF m 18 #[.val (.ref r0), .val (.ref r1)] [(.ref x1)])) t
      refine XS.aloadN X6.here hx rfl (hb hby own_d18_18) rfl rfl ?_
      show Steps p.tables e below (T6.setTop (mkF m 19 #[.val (.ref r0), .val (.ref r1)] [(.ref r1), (.ref x1)])) t
      refine st7 _ ?_
      show Steps p.tables e below (T7.setTop (mkF m 22 #[.val (.ref r0), .val (.ref r1)] [(.ref x2), (.ref x1)])) t
      refine st8.trans ?_
      exact k)
    by_cases hc9 : (if c3 = c4 then (1 : Int32) else (0 : Int32)) = (0 : Int32)
    · obtain ⟨fs, hr, hrun, hended, hW, hsame⟩ := X8.leave (v := some (.int (0 : Int32))) (fun h => by rw [Bd.returns] at h; cases h)
      refine ⟨_, _, pre10 _ ?_, hrun, hended, _, _, rfl, ?_, ⟨_, rfl⟩, hW, hsame.mono (by decide) (by decide)⟩
      · show Steps p.tables e below (T8.setTop (mkF m 25 #[.val (.ref r0), .val (.ref r1)] [(.int (if c3 = c4 then (1 : Int32) else (0 : Int32)))])) _
        refine XS.ifYes X8.here hx rfl (pc0 := 25) (pc' := 32) rfl (hb hby own_d18_25) rfl ((if0 _ _).trans (teq hc9).1) (by decide) (by decide) ?_
        show Steps p.tables e below (T8.setTop (mkF m 32 #[.val (.ref r0), .val (.ref r1)] [])) _
        refine XS.iconst X8.here hx rfl (hb hby own_d18_32) ?_
        show Steps p.tables e below (T8.setTop (mkF m 33 #[.val (.ref r0), .val (.ref r1)] [(.int (0 : Int32))])) _
        exact retN X8 hx (t := .boolean) Bd.returns (by simp) (hb hby own_d18_33) hr
      · show Q_rs Z r0 r1 G1 u1 t1 k1 c1 u2 t2 k2 c2 x1 t3 k3 c3 x2 t4 k4 c4 h0 n0 _ T8.heap _
        rw [e8]
        exact ⟨by simp only [own_rs, if_neg hc4, if_pos hc9], N8, rfl⟩
    · obtain ⟨fs, hr, hrun, hended, hW, hsame⟩ := X8.leave (v := some (.int (1 : Int32))) (fun h => by rw [Bd.returns] at h; cases h)
      refine ⟨_, _, pre10 _ ?_, hrun, hended, _, _, rfl, ?_, ⟨_, rfl⟩, hW, hsame.mono (by decide) (by decide)⟩
      · show Steps p.tables e below (T8.setTop (mkF m 25 #[.val (.ref r0), .val (.ref r1)] [(.int (if c3 = c4 then (1 : Int32) else (0 : Int32)))])) _
        refine XS.ifNo X8.here hx rfl (hb hby own_d18_25) rfl ((if0 _ _).trans (feq hc9).1) ?_
        show Steps p.tables e below (T8.setTop (mkF m 28 #[.val (.ref r0), .val (.ref r1)] [])) _
        refine XS.iconst X8.here hx rfl (hb hby own_d18_28) ?_
        show Steps p.tables e below (T8.setTop (mkF m 29 #[.val (.ref r0), .val (.ref r1)] [(.int (1 : Int32))])) _
        refine XS.goto X8.here hx rfl (pc0 := 29) (pc' := 33) rfl (hb hby own_d18_29) (by decide) (by decide) ?_
        show Steps p.tables e below (T8.setTop (mkF m 33 #[.val (.ref r0), .val (.ref r1)] [(.int (1 : Int32))])) _
        exact retN X8 hx (t := .boolean) Bd.returns (by simp) (hb hby own_d18_33) hr
      · show Q_rs Z r0 r1 G1 u1 t1 k1 c1 u2 t2 k2 c2 x1 t3 k3 c3 x2 t4 k4 c4 h0 n0 _ T8.heap _
        rw [e8]
        exact ⟨by simp only [own_rs, if_neg hc4, if_neg hc9], N8, rfl⟩
theorem own_lens (p : Int32) : fn_len p = 0 ∨ fn_len p = 1 ∨ fn_len p = 2 := by
  have h1 : (p &&& (3 : Int32)).toInt = p.toInt % (2 ^ 2 : Nat) := c_mask p 3 2 (by decide) (by decide)
  have e3 : (3 : Int32).toInt = 3 := by decide
  have h2 := (c_irem (p &&& (3 : Int32)) 3 3 e3).1 (by omega)
  have e0 : (0 : Int32).toInt = 0 := by decide
  have e1 : (1 : Int32).toInt = 1 := by decide
  have e2 : (2 : Int32).toInt = 2 := by decide
  unfold fn_len
  simp only [← Int32.toInt_inj, e0, e1, e2]
  omega
theorem own_fs (x y : Int32) : fn_same x y = if own_cs x = own_cs y then 1 else 0 := by
  unfold fn_same own_cs
  rcases own_lens x with hx | hx | hx <;> rcases own_lens y with hy | hy | hy <;> rw [hx, hy] <;> by_cases h0 : fn_c0 x = fn_c0 y <;> by_cases h1 : fn_c1 x = fn_c1 y <;> simp [h0, h1] <;> decide
theorem own_ab (a b c d : Int32) : (own_rs (own_cs a) (own_cs b) (own_cs c) (own_cs d)) = (if (fn_same a b) = (0 : Int32) then (0 : Int32) else (if (fn_same c d) = (0 : Int32) then (0 : Int32) else (1 : Int32))) := by
  unfold own_rs; rw [own_fs, own_fs]
theorem own_ba (a b c d : Int32) : (own_rs (own_cs b) (own_cs a) (own_cs d) (own_cs c)) = (if (fn_same a b) = (0 : Int32) then (0 : Int32) else (if (fn_same c d) = (0 : Int32) then (0 : Int32) else (1 : Int32))) := by
  rw [← own_ab]
  have key : ∀ x y : List Int32, (if x = y then (1 : Int32) else (0 : Int32)) = (if y = x then (1 : Int32) else (0 : Int32)) := fun x y => by
    by_cases h : x = y
    · rw [if_pos h, if_pos h.symm]
    · rw [if_neg h, if_neg (fun q => h q.symm)]
  unfold own_rs
  rw [key (own_cs b), key (own_cs d)]
theorem own_nm (x : Int32) : ¬ (255 : Int32) < ((((32 : Int32) + (x &&& (63 : Int32)))).toUInt32.toUInt16.toUInt32.toInt32) := by
  have h1 : (x &&& (63 : Int32)).toInt = x.toInt % (2 ^ 6 : Nat) := c_mask x 63 6 (by decide) (by decide)
  have h2 := c_iadd 32 (x &&& (63 : Int32))
  have h3 := rng32 (32 + (x &&& (63 : Int32)))
  have e3 : (32 : Int32).toInt = 32 := by decide
  have e2 : (255 : Int32).toInt = 255 := by decide
  have h4 := c_i2c (32 + (x &&& (63 : Int32)))
  rw [Int32.lt_iff_toInt_lt]; omega
theorem own_pd14 : parseMethodDescriptor "(I)Ljava/lang/String;" = some ⟨[.int], some (.object "java/lang/String")⟩ := by decide +kernel
theorem own_pd15 : parseMethodDescriptor "(II)Z" = some ⟨[.int, .int], some .boolean⟩ := by decide +kernel
theorem own_pd16 : parseMethodDescriptor "(Ljava/lang/String;Ljava/lang/String;Ljava/lang/String;IZZ)V" = some ⟨[(.object "java/lang/String"), (.object "java/lang/String"), (.object "java/lang/String"), .int, .boolean, .boolean], none⟩ := by decide +kernel
theorem own_pd17 : parseMethodDescriptor "(Lcom/example/cartulary/cartulary/store/Harvester$Settings;)Z" = some ⟨[(.object "com/example/cartulary/cartulary/store/Harvester$Settings")], some .boolean⟩ := by decide +kernel
theorem ef_law (m : MethodId) (p0 : Int32) (p1 : Int32) (p2 : Int32) (p3 : Int32) (p4 : Int32) (p5 : Int32) : entryFrame m #[(.int p0), (.int p1), (.int p2), (.int p3), (.int p4), (.int p5)] maxLocals = mkF m 0 #[.val (.int p0), .val (.int p1), .val (.int p2), .val (.int p3), .val (.int p4), .val (.int p5), .unset, .unset, .unset, .unset, .unset, .unset, .unset, .unset, .unset, .unset, .unset, .unset, .unset, .unset, .unset] [] := by first | (simp [entryFrame, mkF, argsToLocals, Value.category, maxLocals]; done) | rfl
def Q_law (Z : State) (p0 : Int32) (p1 : Int32) (p2 : Int32) (p3 : Int32) (p4 : Int32) (p5 : Int32) (G1 : Int32) (h0 : Heap) (n0 : Nat) (v : Option Value) (h : Heap) (L : List Loc) : Prop := v = some (.int 1) ∧ Fr n0 L
set_option maxRecDepth 65536 in
set_option maxHeartbeats 40000000 in
theorem rm_law (l : Launch) (Z : State) (a0 : Array Value) (hw : ∀ d ∈ tables_1, d.before a0 Z = true) (ws : List Jvm.Cond) (p0 : Int32) (p1 : Int32) (p2 : Int32) (p3 : Int32) (p4 : Int32) (p5 : Int32) (G1 : Int32) (h0 : Heap) (n0 : Nat) (Z0 : n0 ≤ h0.size) (O2 : Sta Z Z.heap "java/lang/String" "COMPACT_STRINGS" "Z" (.int G1)) (P5 : ¬ (G1 = (0 : Int32))) (X00 : Old Z n0 h0) :
    MetFree l x (head1 (Jvm.Cond.code x code maxLocals ret :: ws) room_1) (fun a U => a = #[(.int p0), (.int p1), (.int p2), (.int p3), (.int p4), (.int p5)] ∧ Z.Warmed39 U.vm ∧ U.heap = h0 ∧ CHv Z consts_1 U.vm h0) (fun _ _ _ _ _ => True) (fun _ U o U' => ∃ v L, o = .returned v ∧ Q_law Z p0 p1 p2 p3 p4 p5 G1 h0 n0 v U'.heap L ∧ CHr Z consts_1 U.vm U.heap U'.vm U'.heap ∧ ReturnedEndW U o U' L 30 70) := by
  refine MetFree.of_bodySF (plainFor_of_name own_pn0) hisR ?_
  intro p e s m args below meth c s₁ Bd hml0 hP hK
  obtain ⟨rfl, hZ, hh, hC0⟩ := hP
  have hx := Bd.exec
  have hby := Bd.bytes
  have hml : c.maxLocals = 21 := hml0
  have hown : s.vm.findClass "com/example/cartulary/cartulary/store/SettingsReadsSameListAsPinLaw" = some m.cls := findClass_of_methodNamed Bd.named
  have hnm := (name_of_methodNamed Bd.named Bd.method).1
  have X0 : Stand p l e room_1 (s.setVm s.vm) m #[(.int p0), (.int p1), (.int p2), (.int p3), (.int p4), (.int p5)] below meth c s₁ [] 0 0 := Stand.of_body Bd
  have e0 : s₁.heap = h0 := by rw [← hh, Bd.state]; rfl
  have N0 := Fr.nil n0
  have pre0 : ∀ t, Steps p.tables e below (s₁.setTop (mkF m 0 #[.val (.int p0), .val (.int p1), .val (.int p2), .val (.int p3), .val (.int p4), .val (.int p5), .unset, .unset, .unset, .unset, .unset, .unset, .unset, .unset, .unset, .unset, .unset, .unset, .unset, .unset, .unset] [])) t → Steps p.tables e below (s₁.setTop (entryFrame m #[(.int p0), (.int p1), (.int p2), (.int p3), (.int p4), (.int p5)] maxLocals)) t := fun t k => castTop (ef_law m p0 p1 p2 p3 p4 p5) k
  have hEL := own_EW hw
  have wS := own_wS hw
  have hS0 : s.Since s.vm s.heap.size := (State.WarmedH.refl s).since _
  have hk0 : s.heap.size ≤ h0.size := by rw [hh]; exact Nat.le_refl _
  have hA0 : CHr Z consts_1 s.vm h0 s.vm h0 := CHr.refl hC0
  have pre1 : ∀ t, Steps p.tables e below (s₁.setTop (mkF m 4 #[.val (.int p0), .val (.int p1), .val (.int p2), .val (.int p3), .val (.int p4), .val (.int p5), .unset, .unset, .unset, .unset, .unset, .unset, .unset, .unset, .unset, .unset, .unset, .unset, .unset, .unset, .unset] [(.int (p4 &&& (1 : Int32)))])) t → Steps p.tables e below (s₁.setTop (entryFrame m #[(.int p0), (.int p1), (.int p2), (.int p3), (.int p4), (.int p5)] maxLocals)) t := fun t k => pre0 t (by
    show Steps p.tables e below (s₁.setTop (mkF m 0 #[.val (.int p0), .val (.int p1), .val (.int p2), .val (.int p3), .val (.int p4), .val (.int p5), .unset, .unset, .unset, .unset, .unset, .unset, .unset, .unset, .unset, .unset, .unset, .unset, .unset, .unset, .unset] [])) t
    refine XS.iload X0.here hx rfl (hb hby at_0) rfl ?_
    show Steps p.tables e below (s₁.setTop (mkF m 2 #[.val (.int p0), .val (.int p1), .val (.int p2), .val (.int p3), .val (.int p4), .val (.int p5), .unset, .unset, .unset, .unset, .unset, .unset, .unset, .unset, .unset, .unset, .unset, .unset, .unset, .unset, .unset] [(.int p4)])) t
    refine XS.iconst X0.here hx rfl (hb hby at_2) ?_
    show Steps p.tables e below (s₁.setTop (mkF m 3 #[.val (.int p0), .val (.int p1), .val (.int p2), .val (.int p3), .val (.int p4), .val (.int p5), .unset, .unset, .unset, .unset, .unset, .unset, .unset, .unset, .unset, .unset, .unset, .unset, .unset, .unset, .unset] [(.int (1 : Int32)), (.int p4)])) t
    refine XS.iand X0.here hx rfl (hb hby at_3) rfl ?_
    exact k)
  obtain ⟨T2, LL2, X2, N2, e2, pre2⟩ : ∃ (T : State) (LL : List Loc), Stand p l e room_1 (s.setVm s.vm) m #[(.int p0), (.int p1), (.int p2), (.int p3), (.int p4), (.int p5)] below meth c T LL (0) (0) ∧ Fr n0 LL ∧ T.heap = h0 ∧ ∀ t, Steps p.tables e below (T.setTop (mkF m 12 #[.val (.int p0), .val (.int p1), .val (.int p2), .val (.int p3), .val (.int p4), .val (.int p5), .unset, .unset, .unset, .unset, .unset, .unset, .unset, .unset, .unset, .unset, .unset, .unset, .unset, .unset, .unset] [(.int (if (p4 &&& (1 : Int32)) = (0 : Int32) then p1 else p0))])) t → Steps p.tables e below (s₁.setTop (entryFrame m #[(.int p0), (.int p1), (.int p2), (.int p3), (.int p4), (.int p5)] maxLocals)) t := by
    by_cases hc3 : (p4 &&& (1 : Int32)) = (0 : Int32)
    · have pre4 : ∀ t, Steps p.tables e below (s₁.setTop (mkF m 12 #[.val (.int p0), .val (.int p1), .val (.int p2), .val (.int p3), .val (.int p4), .val (.int p5), .unset, .unset, .unset, .unset, .unset, .unset, .unset, .unset, .unset, .unset, .unset, .unset, .unset, .unset, .unset] [(.int p1)])) t → Steps p.tables e below (s₁.setTop (entryFrame m #[(.int p0), (.int p1), (.int p2), (.int p3), (.int p4), (.int p5)] maxLocals)) t := fun t k => pre1 t (by
        show Steps p.tables e below (s₁.setTop (mkF m 4 #[.val (.int p0), .val (.int p1), .val (.int p2), .val (.int p3), .val (.int p4), .val (.int p5), .unset, .unset, .unset, .unset, .unset, .unset, .unset, .unset, .unset, .unset, .unset, .unset, .unset, .unset, .unset] [(.int (p4 &&& (1 : Int32)))])) t
        refine XS.ifYes X0.here hx rfl (pc0 := 4) (pc' := 11) rfl (hb hby at_4) rfl ((if0 _ _).trans (teq hc3).1) (by decide) (by decide) ?_
        show Steps p.tables e below (s₁.setTop (mkF m 11 #[.val (.int p0), .val (.int p1), .val (.int p2), .val (.int p3), .val (.int p4), .val (.int p5), .unset, .unset, .unset, .unset, .unset, .unset, .unset, .unset, .unset, .unset, .unset, .unset, .unset, .unset, .unset] [])) t
        refine XS.iloadN X0.here hx rfl (hb hby at_11) rfl ?_
        exact k)
      exact ⟨s₁, _, X0, N0, e0, fun t k => pre4 t (by simp only [if_pos hc3] at k; exact k)⟩
    · have pre5 : ∀ t, Steps p.tables e below (s₁.setTop (mkF m 12 #[.val (.int p0), .val (.int p1), .val (.int p2), .val (.int p3), .val (.int p4), .val (.int p5), .unset, .unset, .unset, .unset, .unset, .unset, .unset, .unset, .unset, .unset, .unset, .unset, .unset, .unset, .unset] [(.int p0)])) t → Steps p.tables e below (s₁.setTop (entryFrame m #[(.int p0), (.int p1), (.int p2), (.int p3), (.int p4), (.int p5)] maxLocals)) t := fun t k => pre1 t (by
        show Steps p.tables e below (s₁.setTop (mkF m 4 #[.val (.int p0), .val (.int p1), .val (.int p2), .val (.int p3), .val (.int p4), .val (.int p5), .unset, .unset, .unset, .unset, .unset, .unset, .unset, .unset, .unset, .unset, .unset, .unset, .unset, .unset, .unset] [(.int (p4 &&& (1 : Int32)))])) t
        refine XS.ifNo X0.here hx rfl (hb hby at_4) rfl ((if0 _ _).trans (feq hc3).1) ?_
        show Steps p.tables e below (s₁.setTop (mkF m 7 #[.val (.int p0), .val (.int p1), .val (.int p2), .val (.int p3), .val (.int p4), .val (.int p5), .unset, .unset, .unset, .unset, .unset, .unset, .unset, .unset, .unset, .unset, .unset, .unset, .unset, .unset, .unset] [])) t
        refine XS.iloadN X0.here hx rfl (hb hby at_7) rfl ?_
        show Steps p.tables e below (s₁.setTop (mkF m 8 #[.val (.int p0), .val (.int p1), .val (.int p2), .val (.int p3), .val (.int p4), .val (.int p5), .unset, .unset, .unset, .unset, .unset, .unset, .unset, .unset, .unset, .unset, .unset, .unset, .unset, .unset, .unset] [(.int p0)])) t
        refine XS.goto X0.here hx rfl (pc0 := 8) (pc' := 12) rfl (hb hby at_8) (by decide) (by decide) ?_
        exact k)
      exact ⟨s₁, _, X0, N0, e0, fun t k => pre5 t (by simp only [if_neg hc3] at k; exact k)⟩
  have pre6 : ∀ t, Steps p.tables e below (T2.setTop (mkF m 18 #[.val (.int p0), .val (.int p1), .val (.int p2), .val (.int p3), .val (.int p4), .val (.int p5), .val (.int (if (p4 &&& (1 : Int32)) = (0 : Int32) then p1 else p0)), .unset, .unset, .unset, .unset, .unset, .unset, .unset, .unset, .unset, .unset, .unset, .unset, .unset, .unset] [(.int (p4 &&& (2 : Int32)))])) t → Steps p.tables e below (s₁.setTop (entryFrame m #[(.int p0), (.int p1), (.int p2), (.int p3), (.int p4), (.int p5)] maxLocals)) t := fun t k => pre2 t (by
    show Steps p.tables e below (T2.setTop (mkF m 12 #[.val (.int p0), .val (.int p1), .val (.int p2), .val (.int p3), .val (.int p4), .val (.int p5), .unset, .unset, .unset, .unset, .unset, .unset, .unset, .unset, .unset, .unset, .unset, .unset, .unset, .unset, .unset] [(.int (if (p4 &&& (1 : Int32)) = (0 : Int32) then p1 else p0))])) t
    refine XS.istore X2.here hx rfl (hb hby at_12) rfl (l' := #[.val (.int p0), .val (.int p1), .val (.int p2), .val (.int p3), .val (.int p4), .val (.int p5), .val (.int (if (p4 &&& (1 : Int32)) = (0 : Int32) then p1 else p0)), .unset, .unset, .unset, .unset, .unset, .unset, .unset, .unset, .unset, .unset, .unset, .unset, .unset, .unset]) rfl ?_
    show Steps p.tables e below (T2.setTop (mkF m 14 #[.val (.int p0), .val (.int p1), .val (.int p2), .val (.int p3), .val (.int p4), .val (.int p5), .val (.int (if (p4 &&& (1 : Int32)) = (0 : Int32) then p1 else p0)), .unset, .unset, .unset, .unset, .unset, .unset, .unset, .unset, .unset, .unset, .unset, .unset, .unset, .unset] [])) t
    refine XS.iload X2.here hx rfl (hb hby at_14) rfl ?_
    show Steps p.tables e below (T2.setTop (mkF m 16 #[.val (.int p0), .val (.int p1), .val (.int p2), .val (.int p3), .val (.int p4), .val (.int p5), .val (.int (if (p4 &&& (1 : Int32)) = (0 : Int32) then p1 else p0)), .unset, .unset, .unset, .unset, .unset, .unset, .unset, .unset, .unset, .unset, .unset, .unset, .unset, .unset] [(.int p4)])) t
    refine XS.iconst X2.here hx rfl (hb hby at_16) ?_
    show Steps p.tables e below (T2.setTop (mkF m 17 #[.val (.int p0), .val (.int p1), .val (.int p2), .val (.int p3), .val (.int p4), .val (.int p5), .val (.int (if (p4 &&& (1 : Int32)) = (0 : Int32) then p1 else p0)), .unset, .unset, .unset, .unset, .unset, .unset, .unset, .unset, .unset, .unset, .unset, .unset, .unset, .unset] [(.int (2 : Int32)), (.int p4)])) t
    refine XS.iand X2.here hx rfl (hb hby at_17) rfl ?_
    exact k)
  obtain ⟨T7, LL7, X7, N7, e7, pre7⟩ : ∃ (T : State) (LL : List Loc), Stand p l e room_1 (s.setVm s.vm) m #[(.int p0), (.int p1), (.int p2), (.int p3), (.int p4), (.int p5)] below meth c T LL (0) (0) ∧ Fr n0 LL ∧ T.heap = h0 ∧ ∀ t, Steps p.tables e below (T.setTop (mkF m 26 #[.val (.int p0), .val (.int p1), .val (.int p2), .val (.int p3), .val (.int p4), .val (.int p5), .val (.int (if (p4 &&& (1 : Int32)) = (0 : Int32) then p1 else p0)), .unset, .unset, .unset, .unset, .unset, .unset, .unset, .unset, .unset, .unset, .unset, .unset, .unset, .unset] [(.int (if (p4 &&& (2 : Int32)) = (0 : Int32) then p3 else p2))])) t → Steps p.tables e below (s₁.setTop (entryFrame m #[(.int p0), (.int p1), (.int p2), (.int p3), (.int p4), (.int p5)] maxLocals)) t := by
    by_cases hc8 : (p4 &&& (2 : Int32)) = (0 : Int32)
    · have pre9 : ∀ t, Steps p.tables e below (T2.setTop (mkF m 26 #[.val (.int p0), .val (.int p1), .val (.int p2), .val (.int p3), .val (.int p4), .val (.int p5), .val (.int (if (p4 &&& (1 : Int32)) = (0 : Int32) then p1 else p0)), .unset, .unset, .unset, .unset, .unset, .unset, .unset, .unset, .unset, .unset, .unset, .unset, .unset, .unset] [(.int p3)])) t → Steps p.tables e below (s₁.setTop (entryFrame m #[(.int p0), (.int p1), (.int p2), (.int p3), (.int p4), (.int p5)] maxLocals)) t := fun t k => pre6 t (by
        show Steps p.tables e below (T2.setTop (mkF m 18 #[.val (.int p0), .val (.int p1), .val (.int p2), .val (.int p3), .val (.int p4), .val (.int p5), .val (.int (if (p4 &&& (1 : Int32)) = (0 : Int32) then p1 else p0)), .unset, .unset, .unset, .unset, .unset, .unset, .unset, .unset, .unset, .unset, .unset, .unset, .unset, .unset] [(.int (p4 &&& (2 : Int32)))])) t
        refine XS.ifYes X2.here hx rfl (pc0 := 18) (pc' := 25) rfl (hb hby at_18) rfl ((if0 _ _).trans (teq hc8).1) (by decide) (by decide) ?_
        show Steps p.tables e below (T2.setTop (mkF m 25 #[.val (.int p0), .val (.int p1), .val (.int p2), .val (.int p3), .val (.int p4), .val (.int p5), .val (.int (if (p4 &&& (1 : Int32)) = (0 : Int32) then p1 else p0)), .unset, .unset, .unset, .unset, .unset, .unset, .unset, .unset, .unset, .unset, .unset, .unset, .unset, .unset] [])) t
        refine XS.iloadN X2.here hx rfl (hb hby at_25) rfl ?_
        exact k)
      exact ⟨T2, _, X2, N2, e2, fun t k => pre9 t (by simp only [if_pos hc8] at k; exact k)⟩
    · have pre10 : ∀ t, Steps p.tables e below (T2.setTop (mkF m 26 #[.val (.int p0), .val (.int p1), .val (.int p2), .val (.int p3), .val (.int p4), .val (.int p5), .val (.int (if (p4 &&& (1 : Int32)) = (0 : Int32) then p1 else p0)), .unset, .unset, .unset, .unset, .unset, .unset, .unset, .unset, .unset, .unset, .unset, .unset, .unset, .unset] [(.int p2)])) t → Steps p.tables e below (s₁.setTop (entryFrame m #[(.int p0), (.int p1), (.int p2), (.int p3), (.int p4), (.int p5)] maxLocals)) t := fun t k => pre6 t (by
        show Steps p.tables e below (T2.setTop (mkF m 18 #[.val (.int p0), .val (.int p1), .val (.int p2), .val (.int p3), .val (.int p4), .val (.int p5), .val (.int (if (p4 &&& (1 : Int32)) = (0 : Int32) then p1 else p0)), .unset, .unset, .unset, .unset, .unset, .unset, .unset, .unset, .unset, .unset, .unset, .unset, .unset, .unset] [(.int (p4 &&& (2 : Int32)))])) t
        refine XS.ifNo X2.here hx rfl (hb hby at_18) rfl ((if0 _ _).trans (feq hc8).1) ?_
        show Steps p.tables e below (T2.setTop (mkF m 21 #[.val (.int p0), .val (.int p1), .val (.int p2), .val (.int p3), .val (.int p4), .val (.int p5), .val (.int (if (p4 &&& (1 : Int32)) = (0 : Int32) then p1 else p0)), .unset, .unset, .unset, .unset, .unset, .unset, .unset, .unset, .unset, .unset, .unset, .unset, .unset, .unset] [])) t
        refine XS.iloadN X2.here hx rfl (hb hby at_21) rfl ?_
        show Steps p.tables e below (T2.setTop (mkF m 22 #[.val (.int p0), .val (.int p1), .val (.int p2), .val (.int p3), .val (.int p4), .val (.int p5), .val (.int (if (p4 &&& (1 : Int32)) = (0 : Int32) then p1 else p0)), .unset, .unset, .unset, .unset, .unset, .unset, .unset, .unset, .unset, .unset, .unset, .unset, .unset, .unset] [(.int p2)])) t
        refine XS.goto X2.here hx rfl (pc0 := 22) (pc' := 26) rfl (hb hby at_22) (by decide) (by decide) ?_
        exact k)
      exact ⟨T2, _, X2, N2, e2, fun t k => pre10 t (by simp only [if_neg hc8] at k; exact k)⟩
  have pre11 : ∀ t, Steps p.tables e below (T7.setTop (mkF m 29 #[.val (.int p0), .val (.int p1), .val (.int p2), .val (.int p3), .val (.int p4), .val (.int p5), .val (.int (if (p4 &&& (1 : Int32)) = (0 : Int32) then p1 else p0)), .val (.int (if (p4 &&& (2 : Int32)) = (0 : Int32) then p3 else p2)), .unset, .unset, .unset, .unset, .unset, .unset, .unset, .unset, .unset, .unset, .unset, .unset, .unset] [(.int p0)])) t → Steps p.tables e below (s₁.setTop (entryFrame m #[(.int p0), (.int p1), (.int p2), (.int p3), (.int p4), (.int p5)] maxLocals)) t := fun t k => pre7 t (by
    show Steps p.tables e below (T7.setTop (mkF m 26 #[.val (.int p0), .val (.int p1), .val (.int p2), .val (.int p3), .val (.int p4), .val (.int p5), .val (.int (if (p4 &&& (1 : Int32)) = (0 : Int32) then p1 else p0)), .unset, .unset, .unset, .unset, .unset, .unset, .unset, .unset, .unset, .unset, .unset, .unset, .unset, .unset] [(.int (if (p4 &&& (2 : Int32)) = (0 : Int32) then p3 else p2))])) t
    refine XS.istore X7.here hx rfl (hb hby at_26) rfl (l' := #[.val (.int p0), .val (.int p1), .val (.int p2), .val (.int p3), .val (.int p4), .val (.int p5), .val (.int (if (p4 &&& (1 : Int32)) = (0 : Int32) then p1 else p0)), .val (.int (if (p4 &&& (2 : Int32)) = (0 : Int32) then p3 else p2)), .unset, .unset, .unset, .unset, .unset, .unset, .unset, .unset, .unset, .unset, .unset, .unset, .unset]) rfl ?_
    show Steps p.tables e below (T7.setTop (mkF m 28 #[.val (.int p0), .val (.int p1), .val (.int p2), .val (.int p3), .val (.int p4), .val (.int p5), .val (.int (if (p4 &&& (1 : Int32)) = (0 : Int32) then p1 else p0)), .val (.int (if (p4 &&& (2 : Int32)) = (0 : Int32) then p3 else p2)), .unset, .unset, .unset, .unset, .unset, .unset, .unset, .unset, .unset, .unset, .unset, .unset, .unset] [])) t
    refine XS.iloadN X7.here hx rfl (hb hby at_28) rfl ?_
    exact k)
  obtain ⟨_, _, ⟨T12, L12, k12, n12⟩, -, Xs12, hs12, hg12, ⟨Lc12, hQ12, l12, y12, z12, hR12⟩, st12⟩ := callSS X7 hx (y := (⟨"com/example/cartulary/cartulary/store/SettingsReadsSameListAsPinLaw", "str", "(I)Ljava/lang/String;"⟩ : MethodName)) hown (mvT hZ (hw _ (List.mem_of_getElem? (i := 0) rfl))) (mvT hZ (hw _ (List.mem_of_getElem? (i := 1) rfl))) (mvT hZ (hw _ (List.mem_of_getElem? (i := 2) rfl))) (mvT hZ (hw _ (List.mem_of_getElem? (i := 3) rfl))) (by decide) (backOfSH (W := 0) (rm_str l Z a0 hw [] p0 G1 h0 n0 Z0 O2 P5 X00) hZ (hw _ (List.mem_of_getElem? (i := 3) rfl)) (hw _ (List.mem_of_getElem? (i := 2) rfl)) (by decide) (by decide) hEL hC0) (g := (mkF m 29 #[.val (.int p0), .val (.int p1), .val (.int p2), .val (.int p3), .val (.int p4), .val (.int p5), .val (.int (if (p4 &&& (1 : Int32)) = (0 : Int32) then p1 else p0)), .val (.int (if (p4 &&& (2 : Int32)) = (0 : Int32) then p3 else p2)), .unset, .unset, .unset, .unset, .unset, .unset, .unset, .unset, .unset, .unset, .unset, .unset, .unset] [(.int p0)])) rfl (by rw [hml]; rfl) (argsL := [(.int p0)]) (rest := []) (lenOf own_pd14 rfl) rfl (by show 2 * 0 + _ ≤ _; exact Nat.le_of_eq rfl) (hb hby at_29) (fun _ _ => ⟨rfl, e7, (by decide : 0 + 6 ≤ _), (by decide : 0 + 12 ≤ _)⟩)
  dsimp only [Pt.U, Pt.locs, Pt.cells, Pt.slots] at Xs12 hs12 hg12 l12 y12 z12 st12 hQ12 hR12
  subst l12 y12 z12
  obtain ⟨X12, hS12, hZ, hown⟩ := rebS hS0 (by rw [e7]; exact hk0) Xs12 hs12 hg12 hZ hown
  obtain ⟨s12, t12, kb12, rfl, Nq12, Kq12, Es12, Fs12_c, Fs12_v, Vs12⟩ := hQ12
  have N12 := Fr.app N7 Nq12
  have od13 := X00.keep Kq12 all0
  have hA12 := hA0.trans hR12
  have hC12 := hR12.1
  have hk12 : T12.heap.size ≤ T12.heap.size := Nat.le_refl _
  have Z12 : n0 ≤ T12.heap.size := Nat.le_trans Z0 Kq12.1
  have pre14 : ∀ t, Steps p.tables e below (T12.setTop (mkF m 36 #[.val (.int p0), .val (.int p1), .val (.int p2), .val (.int p3), .val (.int p4), .val (.int p5), .val (.int (if (p4 &&& (1 : Int32)) = (0 : Int32) then p1 else p0)), .val (.int (if (p4 &&& (2 : Int32)) = (0 : Int32) then p3 else p2)), .val (.ref s12), .unset, .unset, .unset, .unset, .unset, .unset, .unset, .unset, .unset, .unset, .unset, .unset] [(.int (if (p4 &&& (1 : Int32)) = (0 : Int32) then p1 else p0))])) t → Steps p.tables e below (s₁.setTop (entryFrame m #[(.int p0), (.int p1), (.int p2), (.int p3), (.int p4), (.int p5)] maxLocals)) t := fun t k => pre11 t (by
    show Steps p.tables e below (T7.setTop (mkF m 29 #[.val (.int p0), .val (.int p1), .val (.int p2), .val (.int p3), .val (.int p4), .val (.int p5), .val (.int (if (p4 &&& (1 : Int32)) = (0 : Int32) then p1 else p0)), .val (.int (if (p4 &&& (2 : Int32)) = (0 : Int32) then p3 else p2)), .unset, .unset, .unset, .unset, .unset, .unset, .unset, .unset, .unset, .unset, .unset, .unset, .unset] [(.int p0)])) t
    refine st12.trans ?_
    show Steps p.tables e below (T12.setTop (mkF m 32 #[.val (.int p0), .val (.int p1), .val (.int p2), .val (.int p3), .val (.int p4), .val (.int p5), .val (.int (if (p4 &&& (1 : Int32)) = (0 : Int32) then p1 else p0)), .val (.int (if (p4 &&& (2 : Int32)) = (0 : Int32) then p3 else p2)), .unset, .unset, .unset, .unset, .unset, .unset, .unset, .unset, .unset, .unset, .unset, .unset, .unset] [(.ref s12)])) t
    refine XS.astore X12.here hx rfl (hb hby at_32) rfl rfl (l' := #[.val (.int p0), .val (.int p1), .val (.int p2), .val (.int p3), .val (.int p4), .val (.int p5), .val (.int (if (p4 &&& (1 : Int32)) = (0 : Int32) then p1 else p0)), .val (.int (if (p4 &&& (2 : Int32)) = (0 : Int32) then p3 else p2)), .val (.ref s12), .unset, .unset, .unset, .unset, .unset, .unset, .unset, .unset, .unset, .unset, .unset, .unset]) rfl ?_
    show Steps p.tables e below (T12.setTop (mkF m 34 #[.val (.int p0), .val (.int p1), .val (.int p2), .val (.int p3), .val (.int p4), .val (.int p5), .val (.int (if (p4 &&& (1 : Int32)) = (0 : Int32) then p1 else p0)), .val (.int (if (p4 &&& (2 : Int32)) = (0 : Int32) then p3 else p2)), .val (.ref s12), .unset, .unset, .unset, .unset, .unset, .unset, .unset, .unset, .unset, .unset, .unset, .unset] [])) t
    refine XS.iload X12.here hx rfl (hb hby at_34) rfl ?_
    exact k)
  obtain ⟨_, _, ⟨T15, L15, k15, n15⟩, -, Xs15, hs15, hg15, ⟨Lc15, hQ15, l15, y15, z15, hR15⟩, st15⟩ := callSS X12 hx (y := (⟨"com/example/cartulary/cartulary/store/SettingsReadsSameListAsPinLaw", "str", "(I)Ljava/lang/String;"⟩ : MethodName)) hown (mvT hZ (hw _ (List.mem_of_getElem? (i := 0) rfl))) (mvT hZ (hw _ (List.mem_of_getElem? (i := 1) rfl))) (mvT hZ (hw _ (List.mem_of_getElem? (i := 2) rfl))) (mvT hZ (hw _ (List.mem_of_getElem? (i := 3) rfl))) (by decide) (backOfSH (W := 0) (rm_str l Z a0 hw [] (if (p4 &&& (1 : Int32)) = (0 : Int32) then p1 else p0) G1 T12.heap n0 Z12 O2 P5 od13) hZ (hw _ (List.mem_of_getElem? (i := 3) rfl)) (hw _ (List.mem_of_getElem? (i := 2) rfl)) (by decide) (by decide) hEL hC12) (g := (mkF m 36 #[.val (.int p0), .val (.int p1), .val (.int p2), .val (.int p3), .val (.int p4), .val (.int p5), .val (.int (if (p4 &&& (1 : Int32)) = (0 : Int32) then p1 else p0)), .val (.int (if (p4 &&& (2 : Int32)) = (0 : Int32) then p3 else p2)), .val (.ref s12), .unset, .unset, .unset, .unset, .unset, .unset, .unset, .unset, .unset, .unset, .unset, .unset] [(.int (if (p4 &&& (1 : Int32)) = (0 : Int32) then p1 else p0))])) rfl (by rw [hml]; rfl) (argsL := [(.int (if (p4 &&& (1 : Int32)) = (0 : Int32) then p1 else p0))]) (rest := []) (lenOf own_pd14 rfl) rfl (by show 2 * 0 + _ ≤ _; exact Nat.le_of_eq rfl) (hb hby at_36) (fun _ _ => ⟨rfl, rfl, (by decide : 6 + 6 ≤ _), (by decide : 12 + 12 ≤ _)⟩)
  dsimp only [Pt.U, Pt.locs, Pt.cells, Pt.slots] at Xs15 hs15 hg15 l15 y15 z15 st15 hQ15 hR15
  subst l15 y15 z15
  obtain ⟨X15, hS15, hZ, hown⟩ := rebS hS12 hk12 Xs15 hs15 hg15 hZ hown
  obtain ⟨s15, t15, kb15, rfl, Nq15, Kq15, Es15, Fs15_c, Fs15_v, Vs15⟩ := hQ15
  have N15 := Fr.app N12 Nq15
  have od16 := od13.keep Kq15 all0
  have f16_1 := Es12.keep Kq15
  have f16_2 := Fs12_c.keep Kq15 nin0
  have f16_3 := Fs12_v.keep Kq15 nin0
  have f16_4 := Vs12.keep Kq15 nin0
  have hA15 := hA12.trans hR15
  have hC15 := hR15.1
  have hk15 : T15.heap.size ≤ T15.heap.size := Nat.le_refl _
  have Z15 : n0 ≤ T15.heap.size := Nat.le_trans Z12 Kq15.1
  have pre17 : ∀ t, Steps p.tables e below (T15.setTop (mkF m 42 #[.val (.int p0), .val (.int p1), .val (.int p2), .val (.int p3), .val (.int p4), .val (.int p5), .val (.int (if (p4 &&& (1 : Int32)) = (0 : Int32) then p1 else p0)), .val (.int (if (p4 &&& (2 : Int32)) = (0 : Int32) then p3 else p2)), .val (.ref s12), .val (.ref s15), .unset, .unset, .unset, .unset, .unset, .unset, .unset, .unset, .unset, .unset, .unset] [(.int p2)])) t → Steps p.tables e below (s₁.setTop (entryFrame m #[(.int p0), (.int p1), (.int p2), (.int p3), (.int p4), (.int p5)] maxLocals)) t := fun t k => pre14 t (by
    show Steps p.tables e below (T12.setTop (mkF m 36 #[.val (.int p0), .val (.int p1), .val (.int p2), .val (.int p3), .val (.int p4), .val (.int p5), .val (.int (if (p4 &&& (1 : Int32)) = (0 : Int32) then p1 else p0)), .val (.int (if (p4 &&& (2 : Int32)) = (0 : Int32) then p3 else p2)), .val (.ref s12), .unset, .unset, .unset, .unset, .unset, .unset, .unset, .unset, .unset, .unset, .unset, .unset] [(.int (if (p4 &&& (1 : Int32)) = (0 : Int32) then p1 else p0))])) t
    refine st15.trans ?_
    show Steps p.tables e below (T15.setTop (mkF m 39 #[.val (.int p0), .val (.int p1), .val (.int p2), .val (.int p3), .val (.int p4), .val (.int p5), .val (.int (if (p4 &&& (1 : Int32)) = (0 : Int32) then p1 else p0)), .val (.int (if (p4 &&& (2 : Int32)) = (0 : Int32) then p3 else p2)), .val (.ref s12), .unset, .unset, .unset, .unset, .unset, .unset, .unset, .unset, .unset, .unset, .unset, .unset] [(.ref s15)])) t
    refine XS.astore X15.here hx rfl (hb hby at_39) rfl rfl (l' := #[.val (.int p0), .val (.int p1), .val (.int p2), .val (.int p3), .val (.int p4), .val (.int p5), .val (.int (if (p4 &&& (1 : Int32)) = (0 : Int32) then p1 else p0)), .val (.int (if (p4 &&& (2 : Int32)) = (0 : Int32) then p3 else p2)), .val (.ref s12), .val (.ref s15), .unset, .unset, .unset, .unset, .unset, .unset, .unset, .unset, .unset, .unset, .unset]) rfl ?_
    show Steps p.tables e below (T15.setTop (mkF m 41 #[.val (.int p0), .val (.int p1), .val (.int p2), .val (.int p3), .val (.int p4), .val (.int p5), .val (.int (if (p4 &&& (1 : Int32)) = (0 : Int32) then p1 else p0)), .val (.int (if (p4 &&& (2 : Int32)) = (0 : Int32) then p3 else p2)), .val (.ref s12), .val (.ref s15), .unset, .unset, .unset, .unset, .unset, .unset, .unset, .unset, .unset, .unset, .unset] [])) t
    refine XS.iloadN X15.here hx rfl (hb hby at_41) rfl ?_
    exact k)
  obtain ⟨_, _, ⟨T18, L18, k18, n18⟩, -, Xs18, hs18, hg18, ⟨Lc18, hQ18, l18, y18, z18, hR18⟩, st18⟩ := callSS X15 hx (y := (⟨"com/example/cartulary/cartulary/store/SettingsReadsSameListAsPinLaw", "str", "(I)Ljava/lang/String;"⟩ : MethodName)) hown (mvT hZ (hw _ (List.mem_of_getElem? (i := 0) rfl))) (mvT hZ (hw _ (List.mem_of_getElem? (i := 1) rfl))) (mvT hZ (hw _ (List.mem_of_getElem? (i := 2) rfl))) (mvT hZ (hw _ (List.mem_of_getElem? (i := 3) rfl))) (by decide) (backOfSH (W := 0) (rm_str l Z a0 hw [] p2 G1 T15.heap n0 Z15 O2 P5 od16) hZ (hw _ (List.mem_of_getElem? (i := 3) rfl)) (hw _ (List.mem_of_getElem? (i := 2) rfl)) (by decide) (by decide) hEL hC15) (g := (mkF m 42 #[.val (.int p0), .val (.int p1), .val (.int p2), .val (.int p3), .val (.int p4), .val (.int p5), .val (.int (if (p4 &&& (1 : Int32)) = (0 : Int32) then p1 else p0)), .val (.int (if (p4 &&& (2 : Int32)) = (0 : Int32) then p3 else p2)), .val (.ref s12), .val (.ref s15), .unset, .unset, .unset, .unset, .unset, .unset, .unset, .unset, .unset, .unset, .unset] [(.int p2)])) rfl (by rw [hml]; rfl) (argsL := [(.int p2)]) (rest := []) (lenOf own_pd14 rfl) rfl (by show 2 * 0 + _ ≤ _; exact Nat.le_of_eq rfl) (hb hby at_42) (fun _ _ => ⟨rfl, rfl, (by decide : 12 + 6 ≤ _), (by decide : 24 + 12 ≤ _)⟩)
  dsimp only [Pt.U, Pt.locs, Pt.cells, Pt.slots] at Xs18 hs18 hg18 l18 y18 z18 st18 hQ18 hR18
  subst l18 y18 z18
  obtain ⟨X18, hS18, hZ, hown⟩ := rebS hS15 hk15 Xs18 hs18 hg18 hZ hown
  obtain ⟨s18, t18, kb18, rfl, Nq18, Kq18, Es18, Fs18_c, Fs18_v, Vs18⟩ := hQ18
  have N18 := Fr.app N15 Nq18
  have od19 := od16.keep Kq18 all0
  have f19_1 := f16_1.keep Kq18
  have f19_2 := f16_2.keep Kq18 nin0
  have f19_3 := f16_3.keep Kq18 nin0
  have f19_4 := f16_4.keep Kq18 nin0
  have f19_5 := Es15.keep Kq18
  have f19_6 := Fs15_c.keep Kq18 nin0
  have f19_7 := Fs15_v.keep Kq18 nin0
  have f19_8 := Vs15.keep Kq18 nin0
  have hA18 := hA15.trans hR18
  have hC18 := hR18.1
  have hk18 : T18.heap.size ≤ T18.heap.size := Nat.le_refl _
  have Z18 : n0 ≤ T18.heap.size := Nat.le_trans Z15 Kq18.1
  have pre20 : ∀ t, Steps p.tables e below (T18.setTop (mkF m 49 #[.val (.int p0), .val (.int p1), .val (.int p2), .val (.int p3), .val (.int p4), .val (.int p5), .val (.int (if (p4 &&& (1 : Int32)) = (0 : Int32) then p1 else p0)), .val (.int (if (p4 &&& (2 : Int32)) = (0 : Int32) then p3 else p2)), .val (.ref s12), .val (.ref s15), .val (.ref s18), .unset, .unset, .unset, .unset, .unset, .unset, .unset, .unset, .unset, .unset] [(.int (if (p4 &&& (2 : Int32)) = (0 : Int32) then p3 else p2))])) t → Steps p.tables e below (s₁.setTop (entryFrame m #[(.int p0), (.int p1), (.int p2), (.int p3), (.int p4), (.int p5)] maxLocals)) t := fun t k => pre17 t (by
    show Steps p.tables e below (T15.setTop (mkF m 42 #[.val (.int p0), .val (.int p1), .val (.int p2), .val (.int p3), .val (.int p4), .val (.int p5), .val (.int (if (p4 &&& (1 : Int32)) = (0 : Int32) then p1 else p0)), .val (.int (if (p4 &&& (2 : Int32)) = (0 : Int32) then p3 else p2)), .val (.ref s12), .val (.ref s15), .unset, .unset, .unset, .unset, .unset, .unset, .unset, .unset, .unset, .unset, .unset] [(.int p2)])) t
    refine st18.trans ?_
    show Steps p.tables e below (T18.setTop (mkF m 45 #[.val (.int p0), .val (.int p1), .val (.int p2), .val (.int p3), .val (.int p4), .val (.int p5), .val (.int (if (p4 &&& (1 : Int32)) = (0 : Int32) then p1 else p0)), .val (.int (if (p4 &&& (2 : Int32)) = (0 : Int32) then p3 else p2)), .val (.ref s12), .val (.ref s15), .unset, .unset, .unset, .unset, .unset, .unset, .unset, .unset, .unset, .unset, .unset] [(.ref s18)])) t
    refine XS.astore X18.here hx rfl (hb hby at_45) rfl rfl (l' := #[.val (.int p0), .val (.int p1), .val (.int p2), .val (.int p3), .val (.int p4), .val (.int p5), .val (.int (if (p4 &&& (1 : Int32)) = (0 : Int32) then p1 else p0)), .val (.int (if (p4 &&& (2 : Int32)) = (0 : Int32) then p3 else p2)), .val (.ref s12), .val (.ref s15), .val (.ref s18), .unset, .unset, .unset, .unset, .unset, .unset, .unset, .unset, .unset, .unset]) rfl ?_
    show Steps p.tables e below (T18.setTop (mkF m 47 #[.val (.int p0), .val (.int p1), .val (.int p2), .val (.int p3), .val (.int p4), .val (.int p5), .val (.int (if (p4 &&& (1 : Int32)) = (0 : Int32) then p1 else p0)), .val (.int (if (p4 &&& (2 : Int32)) = (0 : Int32) then p3 else p2)), .val (.ref s12), .val (.ref s15), .val (.ref s18), .unset, .unset, .unset, .unset, .unset, .unset, .unset, .unset, .unset, .unset] [])) t
    refine XS.iload X18.here hx rfl (hb hby at_47) rfl ?_
    exact k)
  obtain ⟨_, _, ⟨T21, L21, k21, n21⟩, -, Xs21, hs21, hg21, ⟨Lc21, hQ21, l21, y21, z21, hR21⟩, st21⟩ := callSS X18 hx (y := (⟨"com/example/cartulary/cartulary/store/SettingsReadsSameListAsPinLaw", "str", "(I)Ljava/lang/String;"⟩ : MethodName)) hown (mvT hZ (hw _ (List.mem_of_getElem? (i := 0) rfl))) (mvT hZ (hw _ (List.mem_of_getElem? (i := 1) rfl))) (mvT hZ (hw _ (List.mem_of_getElem? (i := 2) rfl))) (mvT hZ (hw _ (List.mem_of_getElem? (i := 3) rfl))) (by decide) (backOfSH (W := 0) (rm_str l Z a0 hw [] (if (p4 &&& (2 : Int32)) = (0 : Int32) then p3 else p2) G1 T18.heap n0 Z18 O2 P5 od19) hZ (hw _ (List.mem_of_getElem? (i := 3) rfl)) (hw _ (List.mem_of_getElem? (i := 2) rfl)) (by decide) (by decide) hEL hC18) (g := (mkF m 49 #[.val (.int p0), .val (.int p1), .val (.int p2), .val (.int p3), .val (.int p4), .val (.int p5), .val (.int (if (p4 &&& (1 : Int32)) = (0 : Int32) then p1 else p0)), .val (.int (if (p4 &&& (2 : Int32)) = (0 : Int32) then p3 else p2)), .val (.ref s12), .val (.ref s15), .val (.ref s18), .unset, .unset, .unset, .unset, .unset, .unset, .unset, .unset, .unset, .unset] [(.int (if (p4 &&& (2 : Int32)) = (0 : Int32) then p3 else p2))])) rfl (by rw [hml]; rfl) (argsL := [(.int (if (p4 &&& (2 : Int32)) = (0 : Int32) then p3 else p2))]) (rest := []) (lenOf own_pd14 rfl) rfl (by show 2 * 0 + _ ≤ _; exact Nat.le_of_eq rfl) (hb hby at_49) (fun _ _ => ⟨rfl, rfl, (by decide : 18 + 6 ≤ _), (by decide : 36 + 12 ≤ _)⟩)
  dsimp only [Pt.U, Pt.locs, Pt.cells, Pt.slots] at Xs21 hs21 hg21 l21 y21 z21 st21 hQ21 hR21
  subst l21 y21 z21
  obtain ⟨X21, hS21, hZ, hown⟩ := rebS hS18 hk18 Xs21 hs21 hg21 hZ hown
  obtain ⟨s21, t21, kb21, rfl, Nq21, Kq21, Es21, Fs21_c, Fs21_v, Vs21⟩ := hQ21
  have N21 := Fr.app N18 Nq21
  have od22 := od19.keep Kq21 all0
  have f22_1 := f19_1.keep Kq21
  have f22_2 := f19_2.keep Kq21 nin0
  have f22_3 := f19_3.keep Kq21 nin0
  have f22_4 := f19_4.keep Kq21 nin0
  have f22_5 := f19_5.keep Kq21
  have f22_6 := f19_6.keep Kq21 nin0
  have f22_7 := f19_7.keep Kq21 nin0
  have f22_8 := f19_8.keep Kq21 nin0
  have f22_9 := Es18.keep Kq21
  have f22_10 := Fs18_c.keep Kq21 nin0
  have f22_11 := Fs18_v.keep Kq21 nin0
  have f22_12 := Vs18.keep Kq21 nin0
  have hA21 := hA18.trans hR21
  have hC21 := hR21.1
  have hk21 : T21.heap.size ≤ T21.heap.size := Nat.le_refl _
  have Z21 : n0 ≤ T21.heap.size := Nat.le_trans Z18 Kq21.1
  have pre23 : ∀ t, Steps p.tables e below (T21.setTop (mkF m 66 #[.val (.int p0), .val (.int p1), .val (.int p2), .val (.int p3), .val (.int p4), .val (.int p5), .val (.int (if (p4 &&& (1 : Int32)) = (0 : Int32) then p1 else p0)), .val (.int (if (p4 &&& (2 : Int32)) = (0 : Int32) then p3 else p2)), .val (.ref s12), .val (.ref s15), .val (.ref s18), .val (.ref s21), .unset, .unset, .unset, .unset, .unset, .unset, .unset, .unset, .unset] [(.int (((32 : Int32) + (((p4.toUInt32 >>> ((8 : Int32) &&& 31).toUInt32).toInt32) &&& (63 : Int32))).toUInt32.toUInt16.toUInt32.toInt32))])) t → Steps p.tables e below (s₁.setTop (entryFrame m #[(.int p0), (.int p1), (.int p2), (.int p3), (.int p4), (.int p5)] maxLocals)) t := fun t k => pre20 t (by
    show Steps p.tables e below (T18.setTop (mkF m 49 #[.val (.int p0), .val (.int p1), .val (.int p2), .val (.int p3), .val (.int p4), .val (.int p5), .val (.int (if (p4 &&& (1 : Int32)) = (0 : Int32) then p1 else p0)), .val (.int (if (p4 &&& (2 : Int32)) = (0 : Int32) then p3 else p2)), .val (.ref s12), .val (.ref s15), .val (.ref s18), .unset, .unset, .unset, .unset, .unset, .unset, .unset, .unset, .unset, .unset] [(.int (if (p4 &&& (2 : Int32)) = (0 : Int32) then p3 else p2))])) t
    refine st21.trans ?_
    show Steps p.tables e below (T21.setTop (mkF m 52 #[.val (.int p0), .val (.int p1), .val (.int p2), .val (.int p3), .val (.int p4), .val (.int p5), .val (.int (if (p4 &&& (1 : Int32)) = (0 : Int32) then p1 else p0)), .val (.int (if (p4 &&& (2 : Int32)) = (0 : Int32) then p3 else p2)), .val (.ref s12), .val (.ref s15), .val (.ref s18), .unset, .unset, .unset, .unset, .unset, .unset, .unset, .unset, .unset, .unset] [(.ref s21)])) t
    refine XS.astore X21.here hx rfl (hb hby at_52) rfl rfl (l' := #[.val (.int p0), .val (.int p1), .val (.int p2), .val (.int p3), .val (.int p4), .val (.int p5), .val (.int (if (p4 &&& (1 : Int32)) = (0 : Int32) then p1 else p0)), .val (.int (if (p4 &&& (2 : Int32)) = (0 : Int32) then p3 else p2)), .val (.ref s12), .val (.ref s15), .val (.ref s18), .val (.ref s21), .unset, .unset, .unset, .unset, .unset, .unset, .unset, .unset, .unset]) rfl ?_
    show Steps p.tables e below (T21.setTop (mkF m 54 #[.val (.int p0), .val (.int p1), .val (.int p2), .val (.int p3), .val (.int p4), .val (.int p5), .val (.int (if (p4 &&& (1 : Int32)) = (0 : Int32) then p1 else p0)), .val (.int (if (p4 &&& (2 : Int32)) = (0 : Int32) then p3 else p2)), .val (.ref s12), .val (.ref s15), .val (.ref s18), .val (.ref s21), .unset, .unset, .unset, .unset, .unset, .unset, .unset, .unset, .unset] [])) t
    refine XS.bipush X21.here hx rfl (hb hby at_54) ?_
    show Steps p.tables e below (T21.setTop (mkF m 56 #[.val (.int p0), .val (.int p1), .val (.int p2), .val (.int p3), .val (.int p4), .val (.int p5), .val (.int (if (p4 &&& (1 : Int32)) = (0 : Int32) then p1 else p0)), .val (.int (if (p4 &&& (2 : Int32)) = (0 : Int32) then p3 else p2)), .val (.ref s12), .val (.ref s15), .val (.ref s18), .val (.ref s21), .unset, .unset, .unset, .unset, .unset, .unset, .unset, .unset, .unset] [(.int (32 : Int32))])) t
    refine XS.iload X21.here hx rfl (hb hby at_56) rfl ?_
    show Steps p.tables e below (T21.setTop (mkF m 58 #[.val (.int p0), .val (.int p1), .val (.int p2), .val (.int p3), .val (.int p4), .val (.int p5), .val (.int (if (p4 &&& (1 : Int32)) = (0 : Int32) then p1 else p0)), .val (.int (if (p4 &&& (2 : Int32)) = (0 : Int32) then p3 else p2)), .val (.ref s12), .val (.ref s15), .val (.ref s18), .val (.ref s21), .unset, .unset, .unset, .unset, .unset, .unset, .unset, .unset, .unset] [(.int p4), (.int (32 : Int32))])) t
    refine XS.bipush X21.here hx rfl (hb hby at_58) ?_
    show Steps p.tables e below (T21.setTop (mkF m 60 #[.val (.int p0), .val (.int p1), .val (.int p2), .val (.int p3), .val (.int p4), .val (.int p5), .val (.int (if (p4 &&& (1 : Int32)) = (0 : Int32) then p1 else p0)), .val (.int (if (p4 &&& (2 : Int32)) = (0 : Int32) then p3 else p2)), .val (.ref s12), .val (.ref s15), .val (.ref s18), .val (.ref s21), .unset, .unset, .unset, .unset, .unset, .unset, .unset, .unset, .unset] [(.int (8 : Int32)), (.int p4), (.int (32 : Int32))])) t
    refine XS.iushr X21.here hx rfl (hb hby at_60) rfl ?_
    show Steps p.tables e below (T21.setTop (mkF m 61 #[.val (.int p0), .val (.int p1), .val (.int p2), .val (.int p3), .val (.int p4), .val (.int p5), .val (.int (if (p4 &&& (1 : Int32)) = (0 : Int32) then p1 else p0)), .val (.int (if (p4 &&& (2 : Int32)) = (0 : Int32) then p3 else p2)), .val (.ref s12), .val (.ref s15), .val (.ref s18), .val (.ref s21), .unset, .unset, .unset, .unset, .unset, .unset, .unset, .unset, .unset] [(.int ((p4.toUInt32 >>> ((8 : Int32) &&& 31).toUInt32).toInt32)), (.int (32 : Int32))])) t
    refine XS.bipush X21.here hx rfl (hb hby at_61) ?_
    show Steps p.tables e below (T21.setTop (mkF m 63 #[.val (.int p0), .val (.int p1), .val (.int p2), .val (.int p3), .val (.int p4), .val (.int p5), .val (.int (if (p4 &&& (1 : Int32)) = (0 : Int32) then p1 else p0)), .val (.int (if (p4 &&& (2 : Int32)) = (0 : Int32) then p3 else p2)), .val (.ref s12), .val (.ref s15), .val (.ref s18), .val (.ref s21), .unset, .unset, .unset, .unset, .unset, .unset, .unset, .unset, .unset] [(.int (63 : Int32)), (.int ((p4.toUInt32 >>> ((8 : Int32) &&& 31).toUInt32).toInt32)), (.int (32 : Int32))])) t
    refine XS.iand X21.here hx rfl (hb hby at_63) rfl ?_
    show Steps p.tables e below (T21.setTop (mkF m 64 #[.val (.int p0), .val (.int p1), .val (.int p2), .val (.int p3), .val (.int p4), .val (.int p5), .val (.int (if (p4 &&& (1 : Int32)) = (0 : Int32) then p1 else p0)), .val (.int (if (p4 &&& (2 : Int32)) = (0 : Int32) then p3 else p2)), .val (.ref s12), .val (.ref s15), .val (.ref s18), .val (.ref s21), .unset, .unset, .unset, .unset, .unset, .unset, .unset, .unset, .unset] [(.int (((p4.toUInt32 >>> ((8 : Int32) &&& 31).toUInt32).toInt32) &&& (63 : Int32))), (.int (32 : Int32))])) t
    refine XS.iadd X21.here hx rfl (hb hby at_64) rfl ?_
    show Steps p.tables e below (T21.setTop (mkF m 65 #[.val (.int p0), .val (.int p1), .val (.int p2), .val (.int p3), .val (.int p4), .val (.int p5), .val (.int (if (p4 &&& (1 : Int32)) = (0 : Int32) then p1 else p0)), .val (.int (if (p4 &&& (2 : Int32)) = (0 : Int32) then p3 else p2)), .val (.ref s12), .val (.ref s15), .val (.ref s18), .val (.ref s21), .unset, .unset, .unset, .unset, .unset, .unset, .unset, .unset, .unset] [(.int ((32 : Int32) + (((p4.toUInt32 >>> ((8 : Int32) &&& 31).toUInt32).toInt32) &&& (63 : Int32))))])) t
    refine XS.i2c X21.here hx rfl (hb hby at_65) rfl ?_
    exact k)
  obtain ⟨_, _, ⟨T24, L24, k24, n24⟩, -, X24, ⟨Lc24, hQ24, l24, y24, z24⟩, st24⟩ := Jvm.LawKit.callS X21 hx (y := (⟨"java/lang/String", "valueOf", "(C)Ljava/lang/String;"⟩ : MethodName)) hown (mvT hZ (hw _ (List.mem_of_getElem? (i := 46) rfl))) (mvT hZ (hw _ (List.mem_of_getElem? (i := 47) rfl))) (mvT hZ (hw _ (List.mem_of_getElem? (i := 9) rfl))) (mvT hZ (hw _ (List.mem_of_getElem? (i := 48) rfl))) (by decide) (backOf (W := 0) (rm_vo l Z a0 hw [] (((32 : Int32) + (((p4.toUInt32 >>> ((8 : Int32) &&& 31).toUInt32).toInt32) &&& (63 : Int32))).toUInt32.toUInt16.toUInt32.toInt32) G1 T21.heap n0 Z21 O2 P5 od22 (own_nm _)) hZ (hw _ (List.mem_of_getElem? (i := 48) rfl)) (hw _ (List.mem_of_getElem? (i := 9) rfl)) (by decide) (by decide)) (g := (mkF m 66 #[.val (.int p0), .val (.int p1), .val (.int p2), .val (.int p3), .val (.int p4), .val (.int p5), .val (.int (if (p4 &&& (1 : Int32)) = (0 : Int32) then p1 else p0)), .val (.int (if (p4 &&& (2 : Int32)) = (0 : Int32) then p3 else p2)), .val (.ref s12), .val (.ref s15), .val (.ref s18), .val (.ref s21), .unset, .unset, .unset, .unset, .unset, .unset, .unset, .unset, .unset] [(.int (((32 : Int32) + (((p4.toUInt32 >>> ((8 : Int32) &&& 31).toUInt32).toInt32) &&& (63 : Int32))).toUInt32.toUInt16.toUInt32.toInt32))])) rfl (by rw [hml]; rfl) (argsL := [(.int (((32 : Int32) + (((p4.toUInt32 >>> ((8 : Int32) &&& 31).toUInt32).toInt32) &&& (63 : Int32))).toUInt32.toUInt16.toUInt32.toInt32))]) (rest := []) (lenOf own_pd10 rfl) rfl (by show 2 * 0 + _ ≤ _; exact Nat.le_of_eq rfl) (hb hby at_66) (fun _ _ => ⟨rfl, rfl, (by decide : 24 + 2 ≤ _), (by decide : 48 + 5 ≤ _)⟩)
  dsimp only [Pt.U, Pt.locs, Pt.cells, Pt.slots] at X24 l24 y24 z24 st24 hQ24
  subst l24 y24 z24
  obtain ⟨s24, t24, kb24, rfl, Nq24, Kq24, Es24, Fs24_c, Fs24_v, Vs24⟩ := hQ24
  have N24 := Fr.app N21 Nq24
  have hr25 := CHr.keep Kq24 all0 hC21
  have hA25 := hA21.trans hr25
  have hC25 := hr25.1
  have hk25 := Nat.le_trans hk21 hr25.2.1
  have od25 := od22.keep Kq24 all0
  have f25_1 := f22_1.keep Kq24
  have f25_2 := f22_2.keep Kq24 nin0
  have f25_3 := f22_3.keep Kq24 nin0
  have f25_4 := f22_4.keep Kq24 nin0
  have f25_5 := f22_5.keep Kq24
  have f25_6 := f22_6.keep Kq24 nin0
  have f25_7 := f22_7.keep Kq24 nin0
  have f25_8 := f22_8.keep Kq24 nin0
  have f25_9 := f22_9.keep Kq24
  have f25_10 := f22_10.keep Kq24 nin0
  have f25_11 := f22_11.keep Kq24 nin0
  have f25_12 := f22_12.keep Kq24 nin0
  have f25_13 := Es21.keep Kq24
  have f25_14 := Fs21_c.keep Kq24 nin0
  have f25_15 := Fs21_v.keep Kq24 nin0
  have f25_16 := Vs21.keep Kq24 nin0
  have Z24 : n0 ≤ T24.heap.size := Nat.le_trans Z21 Kq24.1
  have pre26 : ∀ t, Steps p.tables e below (T24.setTop (mkF m 83 #[.val (.int p0), .val (.int p1), .val (.int p2), .val (.int p3), .val (.int p4), .val (.int p5), .val (.int (if (p4 &&& (1 : Int32)) = (0 : Int32) then p1 else p0)), .val (.int (if (p4 &&& (2 : Int32)) = (0 : Int32) then p3 else p2)), .val (.ref s12), .val (.ref s15), .val (.ref s18), .val (.ref s21), .val (.ref s24), .unset, .unset, .unset, .unset, .unset, .unset, .unset, .unset] [(.int (((32 : Int32) + (((p4.toUInt32 >>> ((14 : Int32) &&& 31).toUInt32).toInt32) &&& (63 : Int32))).toUInt32.toUInt16.toUInt32.toInt32))])) t → Steps p.tables e below (s₁.setTop (entryFrame m #[(.int p0), (.int p1), (.int p2), (.int p3), (.int p4), (.int p5)] maxLocals)) t := fun t k => pre23 t (by
    show Steps p.tables e below (T21.setTop (mkF m 66 #[.val (.int p0), .val (.int p1), .val (.int p2), .val (.int p3), .val (.int p4), .val (.int p5), .val (.int (if (p4 &&& (1 : Int32)) = (0 : Int32) then p1 else p0)), .val (.int (if (p4 &&& (2 : Int32)) = (0 : Int32) then p3 else p2)), .val (.ref s12), .val (.ref s15), .val (.ref s18), .val (.ref s21), .unset, .unset, .unset, .unset, .unset, .unset, .unset, .unset, .unset] [(.int (((32 : Int32) + (((p4.toUInt32 >>> ((8 : Int32) &&& 31).toUInt32).toInt32) &&& (63 : Int32))).toUInt32.toUInt16.toUInt32.toInt32))])) t
    refine st24 _ ?_
    show Steps p.tables e below (T24.setTop (mkF m 69 #[.val (.int p0), .val (.int p1), .val (.int p2), .val (.int p3), .val (.int p4), .val (.int p5), .val (.int (if (p4 &&& (1 : Int32)) = (0 : Int32) then p1 else p0)), .val (.int (if (p4 &&& (2 : Int32)) = (0 : Int32) then p3 else p2)), .val (.ref s12), .val (.ref s15), .val (.ref s18), .val (.ref s21), .unset, .unset, .unset, .unset, .unset, .unset, .unset, .unset, .unset] [(.ref s24)])) t
    refine XS.astore X24.here hx rfl (hb hby at_69) rfl rfl (l' := #[.val (.int p0), .val (.int p1), .val (.int p2), .val (.int p3), .val (.int p4), .val (.int p5), .val (.int (if (p4 &&& (1 : Int32)) = (0 : Int32) then p1 else p0)), .val (.int (if (p4 &&& (2 : Int32)) = (0 : Int32) then p3 else p2)), .val (.ref s12), .val (.ref s15), .val (.ref s18), .val (.ref s21), .val (.ref s24), .unset, .unset, .unset, .unset, .unset, .unset, .unset, .unset]) rfl ?_
    show Steps p.tables e below (T24.setTop (mkF m 71 #[.val (.int p0), .val (.int p1), .val (.int p2), .val (.int p3), .val (.int p4), .val (.int p5), .val (.int (if (p4 &&& (1 : Int32)) = (0 : Int32) then p1 else p0)), .val (.int (if (p4 &&& (2 : Int32)) = (0 : Int32) then p3 else p2)), .val (.ref s12), .val (.ref s15), .val (.ref s18), .val (.ref s21), .val (.ref s24), .unset, .unset, .unset, .unset, .unset, .unset, .unset, .unset] [])) t
    refine XS.bipush X24.here hx rfl (hb hby at_71) ?_
    show Steps p.tables e below (T24.setTop (mkF m 73 #[.val (.int p0), .val (.int p1), .val (.int p2), .val (.int p3), .val (.int p4), .val (.int p5), .val (.int (if (p4 &&& (1 : Int32)) = (0 : Int32) then p1 else p0)), .val (.int (if (p4 &&& (2 : Int32)) = (0 : Int32) then p3 else p2)), .val (.ref s12), .val (.ref s15), .val (.ref s18), .val (.ref s21), .val (.ref s24), .unset, .unset, .unset, .unset, .unset, .unset, .unset, .unset] [(.int (32 : Int32))])) t
    refine XS.iload X24.here hx rfl (hb hby at_73) rfl ?_
    show Steps p.tables e below (T24.setTop (mkF m 75 #[.val (.int p0), .val (.int p1), .val (.int p2), .val (.int p3), .val (.int p4), .val (.int p5), .val (.int (if (p4 &&& (1 : Int32)) = (0 : Int32) then p1 else p0)), .val (.int (if (p4 &&& (2 : Int32)) = (0 : Int32) then p3 else p2)), .val (.ref s12), .val (.ref s15), .val (.ref s18), .val (.ref s21), .val (.ref s24), .unset, .unset, .unset, .unset, .unset, .unset, .unset, .unset] [(.int p4), (.int (32 : Int32))])) t
    refine XS.bipush X24.here hx rfl (hb hby at_75) ?_
    show Steps p.tables e below (T24.setTop (mkF m 77 #[.val (.int p0), .val (.int p1), .val (.int p2), .val (.int p3), .val (.int p4), .val (.int p5), .val (.int (if (p4 &&& (1 : Int32)) = (0 : Int32) then p1 else p0)), .val (.int (if (p4 &&& (2 : Int32)) = (0 : Int32) then p3 else p2)), .val (.ref s12), .val (.ref s15), .val (.ref s18), .val (.ref s21), .val (.ref s24), .unset, .unset, .unset, .unset, .unset, .unset, .unset, .unset] [(.int (14 : Int32)), (.int p4), (.int (32 : Int32))])) t
    refine XS.iushr X24.here hx rfl (hb hby at_77) rfl ?_
    show Steps p.tables e below (T24.setTop (mkF m 78 #[.val (.int p0), .val (.int p1), .val (.int p2), .val (.int p3), .val (.int p4), .val (.int p5), .val (.int (if (p4 &&& (1 : Int32)) = (0 : Int32) then p1 else p0)), .val (.int (if (p4 &&& (2 : Int32)) = (0 : Int32) then p3 else p2)), .val (.ref s12), .val (.ref s15), .val (.ref s18), .val (.ref s21), .val (.ref s24), .unset, .unset, .unset, .unset, .unset, .unset, .unset, .unset] [(.int ((p4.toUInt32 >>> ((14 : Int32) &&& 31).toUInt32).toInt32)), (.int (32 : Int32))])) t
    refine XS.bipush X24.here hx rfl (hb hby at_78) ?_
    show Steps p.tables e below (T24.setTop (mkF m 80 #[.val (.int p0), .val (.int p1), .val (.int p2), .val (.int p3), .val (.int p4), .val (.int p5), .val (.int (if (p4 &&& (1 : Int32)) = (0 : Int32) then p1 else p0)), .val (.int (if (p4 &&& (2 : Int32)) = (0 : Int32) then p3 else p2)), .val (.ref s12), .val (.ref s15), .val (.ref s18), .val (.ref s21), .val (.ref s24), .unset, .unset, .unset, .unset, .unset, .unset, .unset, .unset] [(.int (63 : Int32)), (.int ((p4.toUInt32 >>> ((14 : Int32) &&& 31).toUInt32).toInt32)), (.int (32 : Int32))])) t
    refine XS.iand X24.here hx rfl (hb hby at_80) rfl ?_
    show Steps p.tables e below (T24.setTop (mkF m 81 #[.val (.int p0), .val (.int p1), .val (.int p2), .val (.int p3), .val (.int p4), .val (.int p5), .val (.int (if (p4 &&& (1 : Int32)) = (0 : Int32) then p1 else p0)), .val (.int (if (p4 &&& (2 : Int32)) = (0 : Int32) then p3 else p2)), .val (.ref s12), .val (.ref s15), .val (.ref s18), .val (.ref s21), .val (.ref s24), .unset, .unset, .unset, .unset, .unset, .unset, .unset, .unset] [(.int (((p4.toUInt32 >>> ((14 : Int32) &&& 31).toUInt32).toInt32) &&& (63 : Int32))), (.int (32 : Int32))])) t
    refine XS.iadd X24.here hx rfl (hb hby at_81) rfl ?_
    show Steps p.tables e below (T24.setTop (mkF m 82 #[.val (.int p0), .val (.int p1), .val (.int p2), .val (.int p3), .val (.int p4), .val (.int p5), .val (.int (if (p4 &&& (1 : Int32)) = (0 : Int32) then p1 else p0)), .val (.int (if (p4 &&& (2 : Int32)) = (0 : Int32) then p3 else p2)), .val (.ref s12), .val (.ref s15), .val (.ref s18), .val (.ref s21), .val (.ref s24), .unset, .unset, .unset, .unset, .unset, .unset, .unset, .unset] [(.int ((32 : Int32) + (((p4.toUInt32 >>> ((14 : Int32) &&& 31).toUInt32).toInt32) &&& (63 : Int32))))])) t
    refine XS.i2c X24.here hx rfl (hb hby at_82) rfl ?_
    exact k)
  obtain ⟨_, _, ⟨T27, L27, k27, n27⟩, -, X27, ⟨Lc27, hQ27, l27, y27, z27⟩, st27⟩ := Jvm.LawKit.callS X24 hx (y := (⟨"java/lang/String", "valueOf", "(C)Ljava/lang/String;"⟩ : MethodName)) hown (mvT hZ (hw _ (List.mem_of_getElem? (i := 46) rfl))) (mvT hZ (hw _ (List.mem_of_getElem? (i := 47) rfl))) (mvT hZ (hw _ (List.mem_of_getElem? (i := 9) rfl))) (mvT hZ (hw _ (List.mem_of_getElem? (i := 48) rfl))) (by decide) (backOf (W := 0) (rm_vo l Z a0 hw [] (((32 : Int32) + (((p4.toUInt32 >>> ((14 : Int32) &&& 31).toUInt32).toInt32) &&& (63 : Int32))).toUInt32.toUInt16.toUInt32.toInt32) G1 T24.heap n0 Z24 O2 P5 od25 (own_nm _)) hZ (hw _ (List.mem_of_getElem? (i := 48) rfl)) (hw _ (List.mem_of_getElem? (i := 9) rfl)) (by decide) (by decide)) (g := (mkF m 83 #[.val (.int p0), .val (.int p1), .val (.int p2), .val (.int p3), .val (.int p4), .val (.int p5), .val (.int (if (p4 &&& (1 : Int32)) = (0 : Int32) then p1 else p0)), .val (.int (if (p4 &&& (2 : Int32)) = (0 : Int32) then p3 else p2)), .val (.ref s12), .val (.ref s15), .val (.ref s18), .val (.ref s21), .val (.ref s24), .unset, .unset, .unset, .unset, .unset, .unset, .unset, .unset] [(.int (((32 : Int32) + (((p4.toUInt32 >>> ((14 : Int32) &&& 31).toUInt32).toInt32) &&& (63 : Int32))).toUInt32.toUInt16.toUInt32.toInt32))])) rfl (by rw [hml]; rfl) (argsL := [(.int (((32 : Int32) + (((p4.toUInt32 >>> ((14 : Int32) &&& 31).toUInt32).toInt32) &&& (63 : Int32))).toUInt32.toUInt16.toUInt32.toInt32))]) (rest := []) (lenOf own_pd10 rfl) rfl (by show 2 * 0 + _ ≤ _; exact Nat.le_of_eq rfl) (hb hby at_83) (fun _ _ => ⟨rfl, rfl, (by decide : 26 + 2 ≤ _), (by decide : 53 + 5 ≤ _)⟩)
  dsimp only [Pt.U, Pt.locs, Pt.cells, Pt.slots] at X27 l27 y27 z27 st27 hQ27
  subst l27 y27 z27
  obtain ⟨s27, t27, kb27, rfl, Nq27, Kq27, Es27, Fs27_c, Fs27_v, Vs27⟩ := hQ27
  have N27 := Fr.app N24 Nq27
  have hr28 := CHr.keep Kq27 all0 hC25
  have hA28 := hA25.trans hr28
  have hC28 := hr28.1
  have hk28 := Nat.le_trans hk25 hr28.2.1
  have od28 := od25.keep Kq27 all0
  have f28_1 := f25_1.keep Kq27
  have f28_2 := f25_2.keep Kq27 nin0
  have f28_3 := f25_3.keep Kq27 nin0
  have f28_4 := f25_4.keep Kq27 nin0
  have f28_5 := f25_5.keep Kq27
  have f28_6 := f25_6.keep Kq27 nin0
  have f28_7 := f25_7.keep Kq27 nin0
  have f28_8 := f25_8.keep Kq27 nin0
  have f28_9 := f25_9.keep Kq27
  have f28_10 := f25_10.keep Kq27 nin0
  have f28_11 := f25_11.keep Kq27 nin0
  have f28_12 := f25_12.keep Kq27 nin0
  have f28_13 := f25_13.keep Kq27
  have f28_14 := f25_14.keep Kq27 nin0
  have f28_15 := f25_15.keep Kq27 nin0
  have f28_16 := f25_16.keep Kq27 nin0
  have f28_17 := Es24.keep Kq27
  have f28_18 := Fs24_c.keep Kq27 nin0
  have f28_19 := Fs24_v.keep Kq27 nin0
  have f28_20 := Vs24.keep Kq27 nin0
  have Z27 : n0 ≤ T27.heap.size := Nat.le_trans Z24 Kq27.1
  have pre29 : ∀ t, Steps p.tables e below (T27.setTop (mkF m 91 #[.val (.int p0), .val (.int p1), .val (.int p2), .val (.int p3), .val (.int p4), .val (.int p5), .val (.int (if (p4 &&& (1 : Int32)) = (0 : Int32) then p1 else p0)), .val (.int (if (p4 &&& (2 : Int32)) = (0 : Int32) then p3 else p2)), .val (.ref s12), .val (.ref s15), .val (.ref s18), .val (.ref s21), .val (.ref s24), .val (.ref s27), .unset, .unset, .unset, .unset, .unset, .unset, .unset] [(.int p5), (.int (1 : Int32))])) t → Steps p.tables e below (s₁.setTop (entryFrame m #[(.int p0), (.int p1), (.int p2), (.int p3), (.int p4), (.int p5)] maxLocals)) t := fun t k => pre26 t (by
    show Steps p.tables e below (T24.setTop (mkF m 83 #[.val (.int p0), .val (.int p1), .val (.int p2), .val (.int p3), .val (.int p4), .val (.int p5), .val (.int (if (p4 &&& (1 : Int32)) = (0 : Int32) then p1 else p0)), .val (.int (if (p4 &&& (2 : Int32)) = (0 : Int32) then p3 else p2)), .val (.ref s12), .val (.ref s15), .val (.ref s18), .val (.ref s21), .val (.ref s24), .unset, .unset, .unset, .unset, .unset, .unset, .unset, .unset] [(.int (((32 : Int32) + (((p4.toUInt32 >>> ((14 : Int32) &&& 31).toUInt32).toInt32) &&& (63 : Int32))).toUInt32.toUInt16.toUInt32.toInt32))])) t
    refine st27 _ ?_
    show Steps p.tables e below (T27.setTop (mkF m 86 #[.val (.int p0), .val (.int p1), .val (.int p2), .val (.int p3), .val (.int p4), .val (.int p5), .val (.int (if (p4 &&& (1 : Int32)) = (0 : Int32) then p1 else p0)), .val (.int (if (p4 &&& (2 : Int32)) = (0 : Int32) then p3 else p2)), .val (.ref s12), .val (.ref s15), .val (.ref s18), .val (.ref s21), .val (.ref s24), .unset, .unset, .unset, .unset, .unset, .unset, .unset, .unset] [(.ref s27)])) t
    refine XS.astore X27.here hx rfl (hb hby at_86) rfl rfl (l' := #[.val (.int p0), .val (.int p1), .val (.int p2), .val (.int p3), .val (.int p4), .val (.int p5), .val (.int (if (p4 &&& (1 : Int32)) = (0 : Int32) then p1 else p0)), .val (.int (if (p4 &&& (2 : Int32)) = (0 : Int32) then p3 else p2)), .val (.ref s12), .val (.ref s15), .val (.ref s18), .val (.ref s21), .val (.ref s24), .val (.ref s27), .unset, .unset, .unset, .unset, .unset, .unset, .unset]) rfl ?_
    show Steps p.tables e below (T27.setTop (mkF m 88 #[.val (.int p0), .val (.int p1), .val (.int p2), .val (.int p3), .val (.int p4), .val (.int p5), .val (.int (if (p4 &&& (1 : Int32)) = (0 : Int32) then p1 else p0)), .val (.int (if (p4 &&& (2 : Int32)) = (0 : Int32) then p3 else p2)), .val (.ref s12), .val (.ref s15), .val (.ref s18), .val (.ref s21), .val (.ref s24), .val (.ref s27), .unset, .unset, .unset, .unset, .unset, .unset, .unset] [])) t
    refine XS.iconst X27.here hx rfl (hb hby at_88) ?_
    show Steps p.tables e below (T27.setTop (mkF m 89 #[.val (.int p0), .val (.int p1), .val (.int p2), .val (.int p3), .val (.int p4), .val (.int p5), .val (.int (if (p4 &&& (1 : Int32)) = (0 : Int32) then p1 else p0)), .val (.int (if (p4 &&& (2 : Int32)) = (0 : Int32) then p3 else p2)), .val (.ref s12), .val (.ref s15), .val (.ref s18), .val (.ref s21), .val (.ref s24), .val (.ref s27), .unset, .unset, .unset, .unset, .unset, .unset, .unset] [(.int (1 : Int32))])) t
    refine XS.iload X27.here hx rfl (hb hby at_89) rfl ?_
    exact k)
  have pre30 : ∀ t, Steps p.tables e below (T27.setTop (mkF m 94 #[.val (.int p0), .val (.int p1), .val (.int p2), .val (.int p3), .val (.int p4), .val (.int p5), .val (.int (if (p4 &&& (1 : Int32)) = (0 : Int32) then p1 else p0)), .val (.int (if (p4 &&& (2 : Int32)) = (0 : Int32) then p3 else p2)), .val (.ref s12), .val (.ref s15), .val (.ref s18), .val (.ref s21), .val (.ref s24), .val (.ref s27), .unset, .unset, .unset, .unset, .unset, .unset, .unset] [(.int (p5 &&& (2147483647 : Int32))), (.int (1 : Int32))])) t → Steps p.tables e below (s₁.setTop (entryFrame m #[(.int p0), (.int p1), (.int p2), (.int p3), (.int p4), (.int p5)] maxLocals)) t := fun t k => pre29 t (by
    show Steps p.tables e below (T27.setTop (mkF m 91 #[.val (.int p0), .val (.int p1), .val (.int p2), .val (.int p3), .val (.int p4), .val (.int p5), .val (.int (if (p4 &&& (1 : Int32)) = (0 : Int32) then p1 else p0)), .val (.int (if (p4 &&& (2 : Int32)) = (0 : Int32) then p3 else p2)), .val (.ref s12), .val (.ref s15), .val (.ref s18), .val (.ref s21), .val (.ref s24), .val (.ref s27), .unset, .unset, .unset, .unset, .unset, .unset, .unset] [(.int p5), (.int (1 : Int32))])) t
    refine X27.ldcInt hx hown (mvT hZ (hw _ (List.mem_of_getElem? (i := 60) rfl))) (g := (mkF m 91 #[.val (.int p0), .val (.int p1), .val (.int p2), .val (.int p3), .val (.int p4), .val (.int p5), .val (.int (if (p4 &&& (1 : Int32)) = (0 : Int32) then p1 else p0)), .val (.int (if (p4 &&& (2 : Int32)) = (0 : Int32) then p3 else p2)), .val (.ref s12), .val (.ref s15), .val (.ref s18), .val (.ref s21), .val (.ref s24), .val (.ref s27), .unset, .unset, .unset, .unset, .unset, .unset, .unset] [(.int p5), (.int (1 : Int32))])) rfl (hb hby at_91) _ ?_
    show Steps p.tables e below (T27.setTop (mkF m 93 #[.val (.int p0), .val (.int p1), .val (.int p2), .val (.int p3), .val (.int p4), .val (.int p5), .val (.int (if (p4 &&& (1 : Int32)) = (0 : Int32) then p1 else p0)), .val (.int (if (p4 &&& (2 : Int32)) = (0 : Int32) then p3 else p2)), .val (.ref s12), .val (.ref s15), .val (.ref s18), .val (.ref s21), .val (.ref s24), .val (.ref s27), .unset, .unset, .unset, .unset, .unset, .unset, .unset] [(.int (2147483647 : Int32)), (.int p5), (.int (1 : Int32))])) t
    refine XS.iand X27.here hx rfl (hb hby at_93) rfl ?_
    exact k)
  have pre31 : ∀ t, Steps p.tables e below (T27.setTop (mkF m 106 #[.val (.int p0), .val (.int p1), .val (.int p2), .val (.int p3), .val (.int p4), .val (.int p5), .val (.int (if (p4 &&& (1 : Int32)) = (0 : Int32) then p1 else p0)), .val (.int (if (p4 &&& (2 : Int32)) = (0 : Int32) then p3 else p2)), .val (.ref s12), .val (.ref s15), .val (.ref s18), .val (.ref s21), .val (.ref s24), .val (.ref s27), .val (.int ((1 : Int32) + ((p5 &&& (2147483647 : Int32)) % (144000 : Int32)))), .unset, .unset, .unset, .unset, .unset, .unset] [(.int (p5 ^^^ p4)), (.int (1 : Int32))])) t → Steps p.tables e below (s₁.setTop (entryFrame m #[(.int p0), (.int p1), (.int p2), (.int p3), (.int p4), (.int p5)] maxLocals)) t := fun t k => pre30 t (by
    show Steps p.tables e below (T27.setTop (mkF m 94 #[.val (.int p0), .val (.int p1), .val (.int p2), .val (.int p3), .val (.int p4), .val (.int p5), .val (.int (if (p4 &&& (1 : Int32)) = (0 : Int32) then p1 else p0)), .val (.int (if (p4 &&& (2 : Int32)) = (0 : Int32) then p3 else p2)), .val (.ref s12), .val (.ref s15), .val (.ref s18), .val (.ref s21), .val (.ref s24), .val (.ref s27), .unset, .unset, .unset, .unset, .unset, .unset, .unset] [(.int (p5 &&& (2147483647 : Int32))), (.int (1 : Int32))])) t
    refine X27.ldcInt hx hown (mvT hZ (hw _ (List.mem_of_getElem? (i := 61) rfl))) (g := (mkF m 94 #[.val (.int p0), .val (.int p1), .val (.int p2), .val (.int p3), .val (.int p4), .val (.int p5), .val (.int (if (p4 &&& (1 : Int32)) = (0 : Int32) then p1 else p0)), .val (.int (if (p4 &&& (2 : Int32)) = (0 : Int32) then p3 else p2)), .val (.ref s12), .val (.ref s15), .val (.ref s18), .val (.ref s21), .val (.ref s24), .val (.ref s27), .unset, .unset, .unset, .unset, .unset, .unset, .unset] [(.int (p5 &&& (2147483647 : Int32))), (.int (1 : Int32))])) rfl (hb hby at_94) _ ?_
    show Steps p.tables e below (T27.setTop (mkF m 96 #[.val (.int p0), .val (.int p1), .val (.int p2), .val (.int p3), .val (.int p4), .val (.int p5), .val (.int (if (p4 &&& (1 : Int32)) = (0 : Int32) then p1 else p0)), .val (.int (if (p4 &&& (2 : Int32)) = (0 : Int32) then p3 else p2)), .val (.ref s12), .val (.ref s15), .val (.ref s18), .val (.ref s21), .val (.ref s24), .val (.ref s27), .unset, .unset, .unset, .unset, .unset, .unset, .unset] [(.int (144000 : Int32)), (.int (p5 &&& (2147483647 : Int32))), (.int (1 : Int32))])) t
    refine iremM X27 hx rfl (hb hby at_96) rfl (by decide) ?_
    show Steps p.tables e below (T27.setTop (mkF m 97 #[.val (.int p0), .val (.int p1), .val (.int p2), .val (.int p3), .val (.int p4), .val (.int p5), .val (.int (if (p4 &&& (1 : Int32)) = (0 : Int32) then p1 else p0)), .val (.int (if (p4 &&& (2 : Int32)) = (0 : Int32) then p3 else p2)), .val (.ref s12), .val (.ref s15), .val (.ref s18), .val (.ref s21), .val (.ref s24), .val (.ref s27), .unset, .unset, .unset, .unset, .unset, .unset, .unset] [(.int ((p5 &&& (2147483647 : Int32)) % (144000 : Int32))), (.int (1 : Int32))])) t
    refine XS.iadd X27.here hx rfl (hb hby at_97) rfl ?_
    show Steps p.tables e below (T27.setTop (mkF m 98 #[.val (.int p0), .val (.int p1), .val (.int p2), .val (.int p3), .val (.int p4), .val (.int p5), .val (.int (if (p4 &&& (1 : Int32)) = (0 : Int32) then p1 else p0)), .val (.int (if (p4 &&& (2 : Int32)) = (0 : Int32) then p3 else p2)), .val (.ref s12), .val (.ref s15), .val (.ref s18), .val (.ref s21), .val (.ref s24), .val (.ref s27), .unset, .unset, .unset, .unset, .unset, .unset, .unset] [(.int ((1 : Int32) + ((p5 &&& (2147483647 : Int32)) % (144000 : Int32))))])) t
    refine XS.istore X27.here hx rfl (hb hby at_98) rfl (l' := #[.val (.int p0), .val (.int p1), .val (.int p2), .val (.int p3), .val (.int p4), .val (.int p5), .val (.int (if (p4 &&& (1 : Int32)) = (0 : Int32) then p1 else p0)), .val (.int (if (p4 &&& (2 : Int32)) = (0 : Int32) then p3 else p2)), .val (.ref s12), .val (.ref s15), .val (.ref s18), .val (.ref s21), .val (.ref s24), .val (.ref s27), .val (.int ((1 : Int32) + ((p5 &&& (2147483647 : Int32)) % (144000 : Int32)))), .unset, .unset, .unset, .unset, .unset, .unset]) rfl ?_
    show Steps p.tables e below (T27.setTop (mkF m 100 #[.val (.int p0), .val (.int p1), .val (.int p2), .val (.int p3), .val (.int p4), .val (.int p5), .val (.int (if (p4 &&& (1 : Int32)) = (0 : Int32) then p1 else p0)), .val (.int (if (p4 &&& (2 : Int32)) = (0 : Int32) then p3 else p2)), .val (.ref s12), .val (.ref s15), .val (.ref s18), .val (.ref s21), .val (.ref s24), .val (.ref s27), .val (.int ((1 : Int32) + ((p5 &&& (2147483647 : Int32)) % (144000 : Int32)))), .unset, .unset, .unset, .unset, .unset, .unset] [])) t
    refine XS.iconst X27.here hx rfl (hb hby at_100) ?_
    show Steps p.tables e below (T27.setTop (mkF m 101 #[.val (.int p0), .val (.int p1), .val (.int p2), .val (.int p3), .val (.int p4), .val (.int p5), .val (.int (if (p4 &&& (1 : Int32)) = (0 : Int32) then p1 else p0)), .val (.int (if (p4 &&& (2 : Int32)) = (0 : Int32) then p3 else p2)), .val (.ref s12), .val (.ref s15), .val (.ref s18), .val (.ref s21), .val (.ref s24), .val (.ref s27), .val (.int ((1 : Int32) + ((p5 &&& (2147483647 : Int32)) % (144000 : Int32)))), .unset, .unset, .unset, .unset, .unset, .unset] [(.int (1 : Int32))])) t
    refine XS.iload X27.here hx rfl (hb hby at_101) rfl ?_
    show Steps p.tables e below (T27.setTop (mkF m 103 #[.val (.int p0), .val (.int p1), .val (.int p2), .val (.int p3), .val (.int p4), .val (.int p5), .val (.int (if (p4 &&& (1 : Int32)) = (0 : Int32) then p1 else p0)), .val (.int (if (p4 &&& (2 : Int32)) = (0 : Int32) then p3 else p2)), .val (.ref s12), .val (.ref s15), .val (.ref s18), .val (.ref s21), .val (.ref s24), .val (.ref s27), .val (.int ((1 : Int32) + ((p5 &&& (2147483647 : Int32)) % (144000 : Int32)))), .unset, .unset, .unset, .unset, .unset, .unset] [(.int p5), (.int (1 : Int32))])) t
    refine XS.iload X27.here hx rfl (hb hby at_103) rfl ?_
    show Steps p.tables e below (T27.setTop (mkF m 105 #[.val (.int p0), .val (.int p1), .val (.int p2), .val (.int p3), .val (.int p4), .val (.int p5), .val (.int (if (p4 &&& (1 : Int32)) = (0 : Int32) then p1 else p0)), .val (.int (if (p4 &&& (2 : Int32)) = (0 : Int32) then p3 else p2)), .val (.ref s12), .val (.ref s15), .val (.ref s18), .val (.ref s21), .val (.ref s24), .val (.ref s27), .val (.int ((1 : Int32) + ((p5 &&& (2147483647 : Int32)) % (144000 : Int32)))), .unset, .unset, .unset, .unset, .unset, .unset] [(.int p4), (.int p5), (.int (1 : Int32))])) t
    refine XS.ixor X27.here hx rfl (hb hby at_105) rfl ?_
    exact k)
  have pre32 : ∀ t, Steps p.tables e below (T27.setTop (mkF m 109 #[.val (.int p0), .val (.int p1), .val (.int p2), .val (.int p3), .val (.int p4), .val (.int p5), .val (.int (if (p4 &&& (1 : Int32)) = (0 : Int32) then p1 else p0)), .val (.int (if (p4 &&& (2 : Int32)) = (0 : Int32) then p3 else p2)), .val (.ref s12), .val (.ref s15), .val (.ref s18), .val (.ref s21), .val (.ref s24), .val (.ref s27), .val (.int ((1 : Int32) + ((p5 &&& (2147483647 : Int32)) % (144000 : Int32)))), .unset, .unset, .unset, .unset, .unset, .unset] [(.int ((p5 ^^^ p4) &&& (2147483647 : Int32))), (.int (1 : Int32))])) t → Steps p.tables e below (s₁.setTop (entryFrame m #[(.int p0), (.int p1), (.int p2), (.int p3), (.int p4), (.int p5)] maxLocals)) t := fun t k => pre31 t (by
    show Steps p.tables e below (T27.setTop (mkF m 106 #[.val (.int p0), .val (.int p1), .val (.int p2), .val (.int p3), .val (.int p4), .val (.int p5), .val (.int (if (p4 &&& (1 : Int32)) = (0 : Int32) then p1 else p0)), .val (.int (if (p4 &&& (2 : Int32)) = (0 : Int32) then p3 else p2)), .val (.ref s12), .val (.ref s15), .val (.ref s18), .val (.ref s21), .val (.ref s24), .val (.ref s27), .val (.int ((1 : Int32) + ((p5 &&& (2147483647 : Int32)) % (144000 : Int32)))), .unset, .unset, .unset, .unset, .unset, .unset] [(.int (p5 ^^^ p4)), (.int (1 : Int32))])) t
    refine X27.ldcInt hx hown (mvT hZ (hw _ (List.mem_of_getElem? (i := 60) rfl))) (g := (mkF m 106 #[.val (.int p0), .val (.int p1), .val (.int p2), .val (.int p3), .val (.int p4), .val (.int p5), .val (.int (if (p4 &&& (1 : Int32)) = (0 : Int32) then p1 else p0)), .val (.int (if (p4 &&& (2 : Int32)) = (0 : Int32) then p3 else p2)), .val (.ref s12), .val (.ref s15), .val (.ref s18), .val (.ref s21), .val (.ref s24), .val (.ref s27), .val (.int ((1 : Int32) + ((p5 &&& (2147483647 : Int32)) % (144000 : Int32)))), .unset, .unset, .unset, .unset, .unset, .unset] [(.int (p5 ^^^ p4)), (.int (1 : Int32))])) rfl (hb hby at_106) _ ?_
    show Steps p.tables e below (T27.setTop (mkF m 108 #[.val (.int p0), .val (.int p1), .val (.int p2), .val (.int p3), .val (.int p4), .val (.int p5), .val (.int (if (p4 &&& (1 : Int32)) = (0 : Int32) then p1 else p0)), .val (.int (if (p4 &&& (2 : Int32)) = (0 : Int32) then p3 else p2)), .val (.ref s12), .val (.ref s15), .val (.ref s18), .val (.ref s21), .val (.ref s24), .val (.ref s27), .val (.int ((1 : Int32) + ((p5 &&& (2147483647 : Int32)) % (144000 : Int32)))), .unset, .unset, .unset, .unset, .unset, .unset] [(.int (2147483647 : Int32)), (.int (p5 ^^^ p4)), (.int (1 : Int32))])) t
    refine XS.iand X27.here hx rfl (hb hby at_108) rfl ?_
    exact k)
  have pre33 : ∀ t, Steps p.tables e below (T27.setTop (mkF m 118 #[.val (.int p0), .val (.int p1), .val (.int p2), .val (.int p3), .val (.int p4), .val (.int p5), .val (.int (if (p4 &&& (1 : Int32)) = (0 : Int32) then p1 else p0)), .val (.int (if (p4 &&& (2 : Int32)) = (0 : Int32) then p3 else p2)), .val (.ref s12), .val (.ref s15), .val (.ref s18), .val (.ref s21), .val (.ref s24), .val (.ref s27), .val (.int ((1 : Int32) + ((p5 &&& (2147483647 : Int32)) % (144000 : Int32)))), .val (.int ((1 : Int32) + (((p5 ^^^ p4) &&& (2147483647 : Int32)) % (144000 : Int32)))), .unset, .unset, .unset, .unset, .unset] [(.int (if (p4 &&& (1 : Int32)) = (0 : Int32) then p1 else p0)), (.int p0)])) t → Steps p.tables e below (s₁.setTop (entryFrame m #[(.int p0), (.int p1), (.int p2), (.int p3), (.int p4), (.int p5)] maxLocals)) t := fun t k => pre32 t (by
    show Steps p.tables e below (T27.setTop (mkF m 109 #[.val (.int p0), .val (.int p1), .val (.int p2), .val (.int p3), .val (.int p4), .val (.int p5), .val (.int (if (p4 &&& (1 : Int32)) = (0 : Int32) then p1 else p0)), .val (.int (if (p4 &&& (2 : Int32)) = (0 : Int32) then p3 else p2)), .val (.ref s12), .val (.ref s15), .val (.ref s18), .val (.ref s21), .val (.ref s24), .val (.ref s27), .val (.int ((1 : Int32) + ((p5 &&& (2147483647 : Int32)) % (144000 : Int32)))), .unset, .unset, .unset, .unset, .unset, .unset] [(.int ((p5 ^^^ p4) &&& (2147483647 : Int32))), (.int (1 : Int32))])) t
    refine X27.ldcInt hx hown (mvT hZ (hw _ (List.mem_of_getElem? (i := 61) rfl))) (g := (mkF m 109 #[.val (.int p0), .val (.int p1), .val (.int p2), .val (.int p3), .val (.int p4), .val (.int p5), .val (.int (if (p4 &&& (1 : Int32)) = (0 : Int32) then p1 else p0)), .val (.int (if (p4 &&& (2 : Int32)) = (0 : Int32) then p3 else p2)), .val (.ref s12), .val (.ref s15), .val (.ref s18), .val (.ref s21), .val (.ref s24), .val (.ref s27), .val (.int ((1 : Int32) + ((p5 &&& (2147483647 : Int32)) % (144000 : Int32)))), .unset, .unset, .unset, .unset, .unset, .unset] [(.int ((p5 ^^^ p4) &&& (2147483647 : Int32))), (.int (1 : Int32))])) rfl (hb hby at_109) _ ?_
    show Steps p.tables e below (T27.setTop (mkF m 111 #[.val (.int p0), .val (.int p1), .val (.int p2), .val (.int p3), .val (.int p4), .val (.int p5), .val (.int (if (p4 &&& (1 : Int32)) = (0 : Int32) then p1 else p0)), .val (.int (if (p4 &&& (2 : Int32)) = (0 : Int32) then p3 else p2)), .val (.ref s12), .val (.ref s15), .val (.ref s18), .val (.ref s21), .val (.ref s24), .val (.ref s27), .val (.int ((1 : Int32) + ((p5 &&& (2147483647 : Int32)) % (144000 : Int32)))), .unset, .unset, .unset, .unset, .unset, .unset] [(.int (144000 : Int32)), (.int ((p5 ^^^ p4) &&& (2147483647 : Int32))), (.int (1 : Int32))])) t
    refine iremM X27 hx rfl (hb hby at_111) rfl (by decide) ?_
    show Steps p.tables e below (T27.setTop (mkF m 112 #[.val (.int p0), .val (.int p1), .val (.int p2), .val (.int p3), .val (.int p4), .val (.int p5), .val (.int (if (p4 &&& (1 : Int32)) = (0 : Int32) then p1 else p0)), .val (.int (if (p4 &&& (2 : Int32)) = (0 : Int32) then p3 else p2)), .val (.ref s12), .val (.ref s15), .val (.ref s18), .val (.ref s21), .val (.ref s24), .val (.ref s27), .val (.int ((1 : Int32) + ((p5 &&& (2147483647 : Int32)) % (144000 : Int32)))), .unset, .unset, .unset, .unset, .unset, .unset] [(.int (((p5 ^^^ p4) &&& (2147483647 : Int32)) % (144000 : Int32))), (.int (1 : Int32))])) t
    refine XS.iadd X27.here hx rfl (hb hby at_112) rfl ?_
    show Steps p.tables e below (T27.setTop (mkF m 113 #[.val (.int p0), .val (.int p1), .val (.int p2), .val (.int p3), .val (.int p4), .val (.int p5), .val (.int (if (p4 &&& (1 : Int32)) = (0 : Int32) then p1 else p0)), .val (.int (if (p4 &&& (2 : Int32)) = (0 : Int32) then p3 else p2)), .val (.ref s12), .val (.ref s15), .val (.ref s18), .val (.ref s21), .val (.ref s24), .val (.ref s27), .val (.int ((1 : Int32) + ((p5 &&& (2147483647 : Int32)) % (144000 : Int32)))), .unset, .unset, .unset, .unset, .unset, .unset] [(.int ((1 : Int32) + (((p5 ^^^ p4) &&& (2147483647 : Int32)) % (144000 : Int32))))])) t
    refine XS.istore X27.here hx rfl (hb hby at_113) rfl (l' := #[.val (.int p0), .val (.int p1), .val (.int p2), .val (.int p3), .val (.int p4), .val (.int p5), .val (.int (if (p4 &&& (1 : Int32)) = (0 : Int32) then p1 else p0)), .val (.int (if (p4 &&& (2 : Int32)) = (0 : Int32) then p3 else p2)), .val (.ref s12), .val (.ref s15), .val (.ref s18), .val (.ref s21), .val (.ref s24), .val (.ref s27), .val (.int ((1 : Int32) + ((p5 &&& (2147483647 : Int32)) % (144000 : Int32)))), .val (.int ((1 : Int32) + (((p5 ^^^ p4) &&& (2147483647 : Int32)) % (144000 : Int32)))), .unset, .unset, .unset, .unset, .unset]) rfl ?_
    show Steps p.tables e below (T27.setTop (mkF m 115 #[.val (.int p0), .val (.int p1), .val (.int p2), .val (.int p3), .val (.int p4), .val (.int p5), .val (.int (if (p4 &&& (1 : Int32)) = (0 : Int32) then p1 else p0)), .val (.int (if (p4 &&& (2 : Int32)) = (0 : Int32) then p3 else p2)), .val (.ref s12), .val (.ref s15), .val (.ref s18), .val (.ref s21), .val (.ref s24), .val (.ref s27), .val (.int ((1 : Int32) + ((p5 &&& (2147483647 : Int32)) % (144000 : Int32)))), .val (.int ((1 : Int32) + (((p5 ^^^ p4) &&& (2147483647 : Int32)) % (144000 : Int32)))), .unset, .unset, .unset, .unset, .unset] [])) t
    refine XS.iloadN X27.here hx rfl (hb hby at_115) rfl ?_
    show Steps p.tables e below (T27.setTop (mkF m 116 #[.val (.int p0), .val (.int p1), .val (.int p2), .val (.int p3), .val (.int p4), .val (.int p5), .val (.int (if (p4 &&& (1 : Int32)) = (0 : Int32) then p1 else p0)), .val (.int (if (p4 &&& (2 : Int32)) = (0 : Int32) then p3 else p2)), .val (.ref s12), .val (.ref s15), .val (.ref s18), .val (.ref s21), .val (.ref s24), .val (.ref s27), .val (.int ((1 : Int32) + ((p5 &&& (2147483647 : Int32)) % (144000 : Int32)))), .val (.int ((1 : Int32) + (((p5 ^^^ p4) &&& (2147483647 : Int32)) % (144000 : Int32)))), .unset, .unset, .unset, .unset, .unset] [(.int p0)])) t
    refine XS.iload X27.here hx rfl (hb hby at_116) rfl ?_
    exact k)
  obtain ⟨_, _, ⟨T34, L34, k34, n34⟩, -, X34, ⟨Lc34, hQ34, l34, y34, z34⟩, st34⟩ := Jvm.LawKit.callS X27 hx (y := (⟨"com/example/cartulary/cartulary/store/SettingsReadsSameListAsPinLaw", "same", "(II)Z"⟩ : MethodName)) hown (mvT hZ (hw _ (List.mem_of_getElem? (i := 62) rfl))) (mvT hZ (hw _ (List.mem_of_getElem? (i := 63) rfl))) (mvT hZ (hw _ (List.mem_of_getElem? (i := 2) rfl))) (mvT hZ (hw _ (List.mem_of_getElem? (i := 64) rfl))) (by decide) (backOf (W := 0) (rm_same l Z a0 hw [] p0 (if (p4 &&& (1 : Int32)) = (0 : Int32) then p1 else p0) T27.heap n0 Z27) hZ (hw _ (List.mem_of_getElem? (i := 64) rfl)) (hw _ (List.mem_of_getElem? (i := 2) rfl)) (by decide) (by decide)) (g := (mkF m 118 #[.val (.int p0), .val (.int p1), .val (.int p2), .val (.int p3), .val (.int p4), .val (.int p5), .val (.int (if (p4 &&& (1 : Int32)) = (0 : Int32) then p1 else p0)), .val (.int (if (p4 &&& (2 : Int32)) = (0 : Int32) then p3 else p2)), .val (.ref s12), .val (.ref s15), .val (.ref s18), .val (.ref s21), .val (.ref s24), .val (.ref s27), .val (.int ((1 : Int32) + ((p5 &&& (2147483647 : Int32)) % (144000 : Int32)))), .val (.int ((1 : Int32) + (((p5 ^^^ p4) &&& (2147483647 : Int32)) % (144000 : Int32)))), .unset, .unset, .unset, .unset, .unset] [(.int (if (p4 &&& (1 : Int32)) = (0 : Int32) then p1 else p0)), (.int p0)])) rfl (by rw [hml]; rfl) (argsL := [(.int p0), (.int (if (p4 &&& (1 : Int32)) = (0 : Int32) then p1 else p0))]) (rest := []) (lenOf own_pd15 rfl) rfl (by show 2 * 0 + _ ≤ _; exact Nat.le_of_eq rfl) (hb hby at_118) (fun _ _ => ⟨rfl, rfl, (by decide : 28 + 0 ≤ _), (by decide : 58 + 0 ≤ _)⟩)
  dsimp only [Pt.U, Pt.locs, Pt.cells, Pt.slots] at X34 l34 y34 z34 st34 hQ34
  subst l34 y34 z34
  obtain ⟨rfl, N34q, e34⟩ := hQ34
  have N34 := Fr.app N27 N34q
  have pre35 : ∀ t, Steps p.tables e below (T34.setTop (mkF m 121 #[.val (.int p0), .val (.int p1), .val (.int p2), .val (.int p3), .val (.int p4), .val (.int p5), .val (.int (if (p4 &&& (1 : Int32)) = (0 : Int32) then p1 else p0)), .val (.int (if (p4 &&& (2 : Int32)) = (0 : Int32) then p3 else p2)), .val (.ref s12), .val (.ref s15), .val (.ref s18), .val (.ref s21), .val (.ref s24), .val (.ref s27), .val (.int ((1 : Int32) + ((p5 &&& (2147483647 : Int32)) % (144000 : Int32)))), .val (.int ((1 : Int32) + (((p5 ^^^ p4) &&& (2147483647 : Int32)) % (144000 : Int32)))), .unset, .unset, .unset, .unset, .unset] [(.int (fn_same p0 (if (p4 &&& (1 : Int32)) = (0 : Int32) then p1 else p0)))])) t → Steps p.tables e below (s₁.setTop (entryFrame m #[(.int p0), (.int p1), (.int p2), (.int p3), (.int p4), (.int p5)] maxLocals)) t := fun t k => pre33 t (by
    show Steps p.tables e below (T27.setTop (mkF m 118 #[.val (.int p0), .val (.int p1), .val (.int p2), .val (.int p3), .val (.int p4), .val (.int p5), .val (.int (if (p4 &&& (1 : Int32)) = (0 : Int32) then p1 else p0)), .val (.int (if (p4 &&& (2 : Int32)) = (0 : Int32) then p3 else p2)), .val (.ref s12), .val (.ref s15), .val (.ref s18), .val (.ref s21), .val (.ref s24), .val (.ref s27), .val (.int ((1 : Int32) + ((p5 &&& (2147483647 : Int32)) % (144000 : Int32)))), .val (.int ((1 : Int32) + (((p5 ^^^ p4) &&& (2147483647 : Int32)) % (144000 : Int32)))), .unset, .unset, .unset, .unset, .unset] [(.int (if (p4 &&& (1 : Int32)) = (0 : Int32) then p1 else p0)), (.int p0)])) t
    refine st34 _ ?_
    exact k)
  obtain ⟨T36, LL36, X36, N36, e36, pre36⟩ : ∃ (T : State) (LL : List Loc), Stand p l e room_1 (s.setVm T21.vm) m #[(.int p0), (.int p1), (.int p2), (.int p3), (.int p4), (.int p5)] below meth c T LL (28) (58) ∧ Fr n0 LL ∧ T.heap = T27.heap ∧ ∀ t, Steps p.tables e below (T.setTop (mkF m 138 #[.val (.int p0), .val (.int p1), .val (.int p2), .val (.int p3), .val (.int p4), .val (.int p5), .val (.int (if (p4 &&& (1 : Int32)) = (0 : Int32) then p1 else p0)), .val (.int (if (p4 &&& (2 : Int32)) = (0 : Int32) then p3 else p2)), .val (.ref s12), .val (.ref s15), .val (.ref s18), .val (.ref s21), .val (.ref s24), .val (.ref s27), .val (.int ((1 : Int32) + ((p5 &&& (2147483647 : Int32)) % (144000 : Int32)))), .val (.int ((1 : Int32) + (((p5 ^^^ p4) &&& (2147483647 : Int32)) % (144000 : Int32)))), .unset, .unset, .unset, .unset, .unset] [(.int (if (fn_same p0 (if (p4 &&& (1 : Int32)) = (0 : Int32) then p1 else p0)) = (0 : Int32) then (0 : Int32) else (if (fn_same p2 (if (p4 &&& (2 : Int32)) = (0 : Int32) then p3 else p2)) = (0 : Int32) then (0 : Int32) else (1 : Int32))))])) t → Steps p.tables e below (s₁.setTop (entryFrame m #[(.int p0), (.int p1), (.int p2), (.int p3), (.int p4), (.int p5)] maxLocals)) t := by
    by_cases hc37 : (fn_same p0 (if (p4 &&& (1 : Int32)) = (0 : Int32) then p1 else p0)) = (0 : Int32)
    · have pre38 : ∀ t, Steps p.tables e below (T34.setTop (mkF m 138 #[.val (.int p0), .val (.int p1), .val (.int p2), .val (.int p3), .val (.int p4), .val (.int p5), .val (.int (if (p4 &&& (1 : Int32)) = (0 : Int32) then p1 else p0)), .val (.int (if (p4 &&& (2 : Int32)) = (0 : Int32) then p3 else p2)), .val (.ref s12), .val (.ref s15), .val (.ref s18), .val (.ref s21), .val (.ref s24), .val (.ref s27), .val (.int ((1 : Int32) + ((p5 &&& (2147483647 : Int32)) % (144000 : Int32)))), .val (.int ((1 : Int32) + (((p5 ^^^ p4) &&& (2147483647 : Int32)) % (144000 : Int32)))), .unset, .unset, .unset, .unset, .unset] [(.int (0 : Int32))])) t → Steps p.tables e below (s₁.setTop (entryFrame m #[(.int p0), (.int p1), (.int p2), (.int p3), (.int p4), (.int p5)] maxLocals)) t := fun t k => pre35 t (by
        show Steps p.tables e below (T34.setTop (mkF m 121 #[.val (.int p0), .val (.int p1), .val (.int p2), .val (.int p3), .val (.int p4), .val (.int p5), .val (.int (if (p4 &&& (1 : Int32)) = (0 : Int32) then p1 else p0)), .val (.int (if (p4 &&& (2 : Int32)) = (0 : Int32) then p3 else p2)), .val (.ref s12), .val (.ref s15), .val (.ref s18), .val (.ref s21), .val (.ref s24), .val (.ref s27), .val (.int ((1 : Int32) + ((p5 &&& (2147483647 : Int32)) % (144000 : Int32)))), .val (.int ((1 : Int32) + (((p5 ^^^ p4) &&& (2147483647 : Int32)) % (144000 : Int32)))), .unset, .unset, .unset, .unset, .unset] [(.int (fn_same p0 (if (p4 &&& (1 : Int32)) = (0 : Int32) then p1 else p0)))])) t
        refine XS.ifYes X34.here hx rfl (pc0 := 121) (pc' := 137) rfl (hb hby at_121) rfl ((if0 _ _).trans (teq hc37).1) (by decide) (by decide) ?_
        show Steps p.tables e below (T34.setTop (mkF m 137 #[.val (.int p0), .val (.int p1), .val (.int p2), .val (.int p3), .val (.int p4), .val (.int p5), .val (.int (if (p4 &&& (1 : Int32)) = (0 : Int32) then p1 else p0)), .val (.int (if (p4 &&& (2 : Int32)) = (0 : Int32) then p3 else p2)), .val (.ref s12), .val (.ref s15), .val (.ref s18), .val (.ref s21), .val (.ref s24), .val (.ref s27), .val (.int ((1 : Int32) + ((p5 &&& (2147483647 : Int32)) % (144000 : Int32)))), .val (.int ((1 : Int32) + (((p5 ^^^ p4) &&& (2147483647 : Int32)) % (144000 : Int32)))), .unset, .unset, .unset, .unset, .unset] [])) t
        refine XS.iconst X34.here hx rfl (hb hby at_137) ?_
        exact k)
      exact ⟨T34, _, X34, N34, e34, fun t k => pre38 t (by simp only [if_pos hc37] at k; exact k)⟩
    · have pre39 : ∀ t, Steps p.tables e below (T34.setTop (mkF m 127 #[.val (.int p0), .val (.int p1), .val (.int p2), .val (.int p3), .val (.int p4), .val (.int p5), .val (.int (if (p4 &&& (1 : Int32)) = (0 : Int32) then p1 else p0)), .val (.int (if (p4 &&& (2 : Int32)) = (0 : Int32) then p3 else p2)), .val (.ref s12), .val (.ref s15), .val (.ref s18), .val (.ref s21), .val (.ref s24), .val (.ref s27), .val (.int ((1 : Int32) + ((p5 &&& (2147483647 : Int32)) % (144000 : Int32)))), .val (.int ((1 : Int32) + (((p5 ^^^ p4) &&& (2147483647 : Int32)) % (144000 : Int32)))), .unset, .unset, .unset, .unset, .unset] [(.int (if (p4 &&& (2 : Int32)) = (0 : Int32) then p3 else p2)), (.int p2)])) t → Steps p.tables e below (s₁.setTop (entryFrame m #[(.int p0), (.int p1), (.int p2), (.int p3), (.int p4), (.int p5)] maxLocals)) t := fun t k => pre35 t (by
        show Steps p.tables e below (T34.setTop (mkF m 121 #[.val (.int p0), .val (.int p1), .val (.int p2), .val (.int p3), .val (.int p4), .val (.int p5), .val (.int (if (p4 &&& (1 : Int32)) = (0 : Int32) then p1 else p0)), .val (.int (if (p4 &&& (2 : Int32)) = (0 : Int32) then p3 else p2)), .val (.ref s12), .val (.ref s15), .val (.ref s18), .val (.ref s21), .val (.ref s24), .val (.ref s27), .val (.int ((1 : Int32) + ((p5 &&& (2147483647 : Int32)) % (144000 : Int32)))), .val (.int ((1 : Int32) + (((p5 ^^^ p4) &&& (2147483647 : Int32)) % (144000 : Int32)))), .unset, .unset, .unset, .unset, .unset] [(.int (fn_same p0 (if (p4 &&& (1 : Int32)) = (0 : Int32) then p1 else p0)))])) t
        refine XS.ifNo X34.here hx rfl (hb hby at_121) rfl ((if0 _ _).trans (feq hc37).1) ?_
        show Steps p.tables e below (T34.setTop (mkF m 124 #[.val (.int p0), .val (.int p1), .val (.int p2), .val (.int p3), .val (.int p4), .val (.int p5), .val (.int (if (p4 &&& (1 : Int32)) = (0 : Int32) then p1 else p0)), .val (.int (if (p4 &&& (2 : Int32)) = (0 : Int32) then p3 else p2)), .val (.ref s12), .val (.ref s15), .val (.ref s18), .val (.ref s21), .val (.ref s24), .val (.ref s27), .val (.int ((1 : Int32) + ((p5 &&& (2147483647 : Int32)) % (144000 : Int32)))), .val (.int ((1 : Int32) + (((p5 ^^^ p4) &&& (2147483647 : Int32)) % (144000 : Int32)))), .unset, .unset, .unset, .unset, .unset] [])) t
        refine XS.iloadN X34.here hx rfl (hb hby at_124) rfl ?_
        show Steps p.tables e below (T34.setTop (mkF m 125 #[.val (.int p0), .val (.int p1), .val (.int p2), .val (.int p3), .val (.int p4), .val (.int p5), .val (.int (if (p4 &&& (1 : Int32)) = (0 : Int32) then p1 else p0)), .val (.int (if (p4 &&& (2 : Int32)) = (0 : Int32) then p3 else p2)), .val (.ref s12), .val (.ref s15), .val (.ref s18), .val (.ref s21), .val (.ref s24), .val (.ref s27), .val (.int ((1 : Int32) + ((p5 &&& (2147483647 : Int32)) % (144000 : Int32)))), .val (.int ((1 : Int32) + (((p5 ^^^ p4) &&& (2147483647 : Int32)) % (144000 : Int32)))), .unset, .unset, .unset, .unset, .unset] [(.int p2)])) t
        refine XS.iload X34.here hx rfl (hb hby at_125) rfl ?_
        exact k)
      obtain ⟨_, _, ⟨T40, L40, k40, n40⟩, -, X40, ⟨Lc40, hQ40, l40, y40, z40⟩, st40⟩ := Jvm.LawKit.callS X34 hx (y := (⟨"com/example/cartulary/cartulary/store/SettingsReadsSameListAsPinLaw", "same", "(II)Z"⟩ : MethodName)) hown (mvT hZ (hw _ (List.mem_of_getElem? (i := 62) rfl))) (mvT hZ (hw _ (List.mem_of_getElem? (i := 63) rfl))) (mvT hZ (hw _ (List.mem_of_getElem? (i := 2) rfl))) (mvT hZ (hw _ (List.mem_of_getElem? (i := 64) rfl))) (by decide) (backOf (W := 0) (rm_same l Z a0 hw [] p2 (if (p4 &&& (2 : Int32)) = (0 : Int32) then p3 else p2) T27.heap n0 Z27) hZ (hw _ (List.mem_of_getElem? (i := 64) rfl)) (hw _ (List.mem_of_getElem? (i := 2) rfl)) (by decide) (by decide)) (g := (mkF m 127 #[.val (.int p0), .val (.int p1), .val (.int p2), .val (.int p3), .val (.int p4), .val (.int p5), .val (.int (if (p4 &&& (1 : Int32)) = (0 : Int32) then p1 else p0)), .val (.int (if (p4 &&& (2 : Int32)) = (0 : Int32) then p3 else p2)), .val (.ref s12), .val (.ref s15), .val (.ref s18), .val (.ref s21), .val (.ref s24), .val (.ref s27), .val (.int ((1 : Int32) + ((p5 &&& (2147483647 : Int32)) % (144000 : Int32)))), .val (.int ((1 : Int32) + (((p5 ^^^ p4) &&& (2147483647 : Int32)) % (144000 : Int32)))), .unset, .unset, .unset, .unset, .unset] [(.int (if (p4 &&& (2 : Int32)) = (0 : Int32) then p3 else p2)), (.int p2)])) rfl (by rw [hml]; rfl) (argsL := [(.int p2), (.int (if (p4 &&& (2 : Int32)) = (0 : Int32) then p3 else p2))]) (rest := []) (lenOf own_pd15 rfl) rfl (by show 2 * 0 + _ ≤ _; exact Nat.le_of_eq rfl) (hb hby at_127) (fun _ _ => ⟨rfl, e34, (by decide : 28 + 0 ≤ _), (by decide : 58 + 0 ≤ _)⟩)
      dsimp only [Pt.U, Pt.locs, Pt.cells, Pt.slots] at X40 l40 y40 z40 st40 hQ40
      subst l40 y40 z40
      obtain ⟨rfl, N40q, e40⟩ := hQ40
      have N40 := Fr.app N34 N40q
      have pre42 : ∀ t, Steps p.tables e below (T40.setTop (mkF m 130 #[.val (.int p0), .val (.int p1), .val (.int p2), .val (.int p3), .val (.int p4), .val (.int p5), .val (.int (if (p4 &&& (1 : Int32)) = (0 : Int32) then p1 else p0)), .val (.int (if (p4 &&& (2 : Int32)) = (0 : Int32) then p3 else p2)), .val (.ref s12), .val (.ref s15), .val (.ref s18), .val (.ref s21), .val (.ref s24), .val (.ref s27), .val (.int ((1 : Int32) + ((p5 &&& (2147483647 : Int32)) % (144000 : Int32)))), .val (.int ((1 : Int32) + (((p5 ^^^ p4) &&& (2147483647 : Int32)) % (144000 : Int32)))), .unset, .unset, .unset, .unset, .unset] [(.int (fn_same p2 (if (p4 &&& (2 : Int32)) = (0 : Int32) then p3 else p2)))])) t → Steps p.tables e below (s₁.setTop (entryFrame m #[(.int p0), (.int p1), (.int p2), (.int p3), (.int p4), (.int p5)] maxLocals)) t := fun t k => pre39 t (by
        show Steps p.tables e below (T34.setTop (mkF m 127 #[.val (.int p0), .val (.int p1), .val (.int p2), .val (.int p3), .val (.int p4), .val (.int p5), .val (.int (if (p4 &&& (1 : Int32)) = (0 : Int32) then p1 else p0)), .val (.int (if (p4 &&& (2 : Int32)) = (0 : Int32) then p3 else p2)), .val (.ref s12), .val (.ref s15), .val (.ref s18), .val (.ref s21), .val (.ref s24), .val (.ref s27), .val (.int ((1 : Int32) + ((p5 &&& (2147483647 : Int32)) % (144000 : Int32)))), .val (.int ((1 : Int32) + (((p5 ^^^ p4) &&& (2147483647 : Int32)) % (144000 : Int32)))), .unset, .unset, .unset, .unset, .unset] [(.int (if (p4 &&& (2 : Int32)) = (0 : Int32) then p3 else p2)), (.int p2)])) t
        refine st40 _ ?_
        exact k)
      by_cases hc41 : (fn_same p2 (if (p4 &&& (2 : Int32)) = (0 : Int32) then p3 else p2)) = (0 : Int32)
      · have pre43 : ∀ t, Steps p.tables e below (T40.setTop (mkF m 138 #[.val (.int p0), .val (.int p1), .val (.int p2), .val (.int p3), .val (.int p4), .val (.int p5), .val (.int (if (p4 &&& (1 : Int32)) = (0 : Int32) then p1 else p0)), .val (.int (if (p4 &&& (2 : Int32)) = (0 : Int32) then p3 else p2)), .val (.ref s12), .val (.ref s15), .val (.ref s18), .val (.ref s21), .val (.ref s24), .val (.ref s27), .val (.int ((1 : Int32) + ((p5 &&& (2147483647 : Int32)) % (144000 : Int32)))), .val (.int ((1 : Int32) + (((p5 ^^^ p4) &&& (2147483647 : Int32)) % (144000 : Int32)))), .unset, .unset, .unset, .unset, .unset] [(.int (0 : Int32))])) t → Steps p.tables e below (s₁.setTop (entryFrame m #[(.int p0), (.int p1), (.int p2), (.int p3), (.int p4), (.int p5)] maxLocals)) t := fun t k => pre42 t (by
          show Steps p.tables e below (T40.setTop (mkF m 130 #[.val (.int p0), .val (.int p1), .val (.int p2), .val (.int p3), .val (.int p4), .val (.int p5), .val (.int (if (p4 &&& (1 : Int32)) = (0 : Int32) then p1 else p0)), .val (.int (if (p4 &&& (2 : Int32)) = (0 : Int32) then p3 else p2)), .val (.ref s12), .val (.ref s15), .val (.ref s18), .val (.ref s21), .val (.ref s24), .val (.ref s27), .val (.int ((1 : Int32) + ((p5 &&& (2147483647 : Int32)) % (144000 : Int32)))), .val (.int ((1 : Int32) + (((p5 ^^^ p4) &&& (2147483647 : Int32)) % (144000 : Int32)))), .unset, .unset, .unset, .unset, .unset] [(.int (fn_same p2 (if (p4 &&& (2 : Int32)) = (0 : Int32) then p3 else p2)))])) t
          refine XS.ifYes X40.here hx rfl (pc0 := 130) (pc' := 137) rfl (hb hby at_130) rfl ((if0 _ _).trans (teq hc41).1) (by decide) (by decide) ?_
          show Steps p.tables e below (T40.setTop (mkF m 137 #[.val (.int p0), .val (.int p1), .val (.int p2), .val (.int p3), .val (.int p4), .val (.int p5), .val (.int (if (p4 &&& (1 : Int32)) = (0 : Int32) then p1 else p0)), .val (.int (if (p4 &&& (2 : Int32)) = (0 : Int32) then p3 else p2)), .val (.ref s12), .val (.ref s15), .val (.ref s18), .val (.ref s21), .val (.ref s24), .val (.ref s27), .val (.int ((1 : Int32) + ((p5 &&& (2147483647 : Int32)) % (144000 : Int32)))), .val (.int ((1 : Int32) + (((p5 ^^^ p4) &&& (2147483647 : Int32)) % (144000 : Int32)))), .unset, .unset, .unset, .unset, .unset] [])) t
          refine XS.iconst X40.here hx rfl (hb hby at_137) ?_
          exact k)
        exact ⟨T40, _, X40, N40, e40, fun t k => pre43 t (by simp only [if_neg hc37, if_pos hc41] at k; exact k)⟩
      · have pre44 : ∀ t, Steps p.tables e below (T40.setTop (mkF m 138 #[.val (.int p0), .val (.int p1), .val (.int p2), .val (.int p3), .val (.int p4), .val (.int p5), .val (.int (if (p4 &&& (1 : Int32)) = (0 : Int32) then p1 else p0)), .val (.int (if (p4 &&& (2 : Int32)) = (0 : Int32) then p3 else p2)), .val (.ref s12), .val (.ref s15), .val (.ref s18), .val (.ref s21), .val (.ref s24), .val (.ref s27), .val (.int ((1 : Int32) + ((p5 &&& (2147483647 : Int32)) % (144000 : Int32)))), .val (.int ((1 : Int32) + (((p5 ^^^ p4) &&& (2147483647 : Int32)) % (144000 : Int32)))), .unset, .unset, .unset, .unset, .unset] [(.int (1 : Int32))])) t → Steps p.tables e below (s₁.setTop (entryFrame m #[(.int p0), (.int p1), (.int p2), (.int p3), (.int p4), (.int p5)] maxLocals)) t := fun t k => pre42 t (by
          show Steps p.tables e below (T40.setTop (mkF m 130 #[.val (.int p0), .val (.int p1), .val (.int p2), .val (.int p3), .val (.int p4), .val (.int p5), .val (.int (if (p4 &&& (1 : Int32)) = (0 : Int32) then p1 else p0)), .val (.int (if (p4 &&& (2 : Int32)) = (0 : Int32) then p3 else p2)), .val (.ref s12), .val (.ref s15), .val (.ref s18), .val (.ref s21), .val (.ref s24), .val (.ref s27), .val (.int ((1 : Int32) + ((p5 &&& (2147483647 : Int32)) % (144000 : Int32)))), .val (.int ((1 : Int32) + (((p5 ^^^ p4) &&& (2147483647 : Int32)) % (144000 : Int32)))), .unset, .unset, .unset, .unset, .unset] [(.int (fn_same p2 (if (p4 &&& (2 : Int32)) = (0 : Int32) then p3 else p2)))])) t
          refine XS.ifNo X40.here hx rfl (hb hby at_130) rfl ((if0 _ _).trans (feq hc41).1) ?_
          show Steps p.tables e below (T40.setTop (mkF m 133 #[.val (.int p0), .val (.int p1), .val (.int p2), .val (.int p3), .val (.int p4), .val (.int p5), .val (.int (if (p4 &&& (1 : Int32)) = (0 : Int32) then p1 else p0)), .val (.int (if (p4 &&& (2 : Int32)) = (0 : Int32) then p3 else p2)), .val (.ref s12), .val (.ref s15), .val (.ref s18), .val (.ref s21), .val (.ref s24), .val (.ref s27), .val (.int ((1 : Int32) + ((p5 &&& (2147483647 : Int32)) % (144000 : Int32)))), .val (.int ((1 : Int32) + (((p5 ^^^ p4) &&& (2147483647 : Int32)) % (144000 : Int32)))), .unset, .unset, .unset, .unset, .unset] [])) t
          refine XS.iconst X40.here hx rfl (hb hby at_133) ?_
          show Steps p.tables e below (T40.setTop (mkF m 134 #[.val (.int p0), .val (.int p1), .val (.int p2), .val (.int p3), .val (.int p4), .val (.int p5), .val (.int (if (p4 &&& (1 : Int32)) = (0 : Int32) then p1 else p0)), .val (.int (if (p4 &&& (2 : Int32)) = (0 : Int32) then p3 else p2)), .val (.ref s12), .val (.ref s15), .val (.ref s18), .val (.ref s21), .val (.ref s24), .val (.ref s27), .val (.int ((1 : Int32) + ((p5 &&& (2147483647 : Int32)) % (144000 : Int32)))), .val (.int ((1 : Int32) + (((p5 ^^^ p4) &&& (2147483647 : Int32)) % (144000 : Int32)))), .unset, .unset, .unset, .unset, .unset] [(.int (1 : Int32))])) t
          refine XS.goto X40.here hx rfl (pc0 := 134) (pc' := 138) rfl (hb hby at_134) (by decide) (by decide) ?_
          exact k)
        exact ⟨T40, _, X40, N40, e40, fun t k => pre44 t (by simp only [if_neg hc37, if_neg hc41] at k; exact k)⟩
  obtain ⟨T45, h45, X45, e45, E45, A45, D45, -, st45⟩ := newO X36 hx hZ hown (hw _ (List.mem_of_getElem? (i := 65) rfl)) (hw _ (List.mem_of_getElem? (i := 66) rfl)) (hw _ (List.mem_of_getElem? (i := 67) rfl)) e36 (g := (mkF m 140 #[.val (.int p0), .val (.int p1), .val (.int p2), .val (.int p3), .val (.int p4), .val (.int p5), .val (.int (if (p4 &&& (1 : Int32)) = (0 : Int32) then p1 else p0)), .val (.int (if (p4 &&& (2 : Int32)) = (0 : Int32) then p3 else p2)), .val (.ref s12), .val (.ref s15), .val (.ref s18), .val (.ref s21), .val (.ref s24), .val (.ref s27), .val (.int ((1 : Int32) + ((p5 &&& (2147483647 : Int32)) % (144000 : Int32)))), .val (.int ((1 : Int32) + (((p5 ^^^ p4) &&& (2147483647 : Int32)) % (144000 : Int32)))), .val (.int (if (fn_same p0 (if (p4 &&& (1 : Int32)) = (0 : Int32) then p1 else p0)) = (0 : Int32) then (0 : Int32) else (if (fn_same p2 (if (p4 &&& (2 : Int32)) = (0 : Int32) then p3 else p2)) = (0 : Int32) then (0 : Int32) else (1 : Int32)))), .unset, .unset, .unset, .unset] [])) rfl (hb hby at_140) (by decide) (by decide)
  obtain ⟨b45, g45⟩ : ∃ z, z = T27.heap.size := ⟨_, rfl⟩
  rw [← g45] at A45 D45 st45
  have ne_s12_b45 : s12 ≠ b45 := Nat.ne_of_lt (Nat.lt_of_lt_of_le f28_1.lt (Nat.le_of_eq g45.symm))
  have ne_t12_b45 : t12 ≠ b45 := Nat.ne_of_lt (Nat.lt_of_lt_of_le f28_4.lt (Nat.le_of_eq g45.symm))
  have ne_s15_b45 : s15 ≠ b45 := Nat.ne_of_lt (Nat.lt_of_lt_of_le f28_5.lt (Nat.le_of_eq g45.symm))
  have ne_t15_b45 : t15 ≠ b45 := Nat.ne_of_lt (Nat.lt_of_lt_of_le f28_8.lt (Nat.le_of_eq g45.symm))
  have ne_s18_b45 : s18 ≠ b45 := Nat.ne_of_lt (Nat.lt_of_lt_of_le f28_9.lt (Nat.le_of_eq g45.symm))
  have ne_t18_b45 : t18 ≠ b45 := Nat.ne_of_lt (Nat.lt_of_lt_of_le f28_12.lt (Nat.le_of_eq g45.symm))
  have ne_s21_b45 : s21 ≠ b45 := Nat.ne_of_lt (Nat.lt_of_lt_of_le f28_13.lt (Nat.le_of_eq g45.symm))
  have ne_t21_b45 : t21 ≠ b45 := Nat.ne_of_lt (Nat.lt_of_lt_of_le f28_16.lt (Nat.le_of_eq g45.symm))
  have ne_s24_b45 : s24 ≠ b45 := Nat.ne_of_lt (Nat.lt_of_lt_of_le f28_17.lt (Nat.le_of_eq g45.symm))
  have ne_t24_b45 : t24 ≠ b45 := Nat.ne_of_lt (Nat.lt_of_lt_of_le f28_20.lt (Nat.le_of_eq g45.symm))
  have ne_s27_b45 : s27 ≠ b45 := Nat.ne_of_lt (Nat.lt_of_lt_of_le Es27.lt (Nat.le_of_eq g45.symm))
  have ne_t27_b45 : t27 ≠ b45 := Nat.ne_of_lt (Nat.lt_of_lt_of_le Vs27.lt (Nat.le_of_eq g45.symm))
  have g_b45 : n0 ≤ b45 := Nat.le_trans Z27 (Nat.le_of_eq g45.symm)
  have sn_b45 := Safe.ext E45 hC28 (Safe.new (Nat.le_of_eq g45.symm))
  have hr46 := CHr.ext E45 hC28
  have hA46 := hA28.trans hr46
  have hC46 := hr46.1
  have hk46 := Nat.le_trans hk28 hr46.2.1
  have od46 := od28.ext E45
  have f46_1 := f28_1.ext E45
  have f46_2 := f28_2.ext E45
  have f46_3 := f28_3.ext E45
  have f46_4 := f28_4.ext E45
  have f46_5 := f28_5.ext E45
  have f46_6 := f28_6.ext E45
  have f46_7 := f28_7.ext E45
  have f46_8 := f28_8.ext E45
  have f46_9 := f28_9.ext E45
  have f46_10 := f28_10.ext E45
  have f46_11 := f28_11.ext E45
  have f46_12 := f28_12.ext E45
  have f46_13 := f28_13.ext E45
  have f46_14 := f28_14.ext E45
  have f46_15 := f28_15.ext E45
  have f46_16 := f28_16.ext E45
  have f46_17 := f28_17.ext E45
  have f46_18 := f28_18.ext E45
  have f46_19 := f28_19.ext E45
  have f46_20 := f28_20.ext E45
  have f46_21 := Es27.ext E45
  have f46_22 := Fs27_c.ext E45
  have f46_23 := Fs27_v.ext E45
  have f46_24 := Vs27.ext E45
  have Z45 : n0 ≤ h45.size := Nat.le_trans Z27 E45.1
  have F_name_b45 : Fld Z h45 b45 "com/example/cartulary/cartulary/store/Harvester$Settings" "name" "Ljava/lang/String;" .null := D45 (Or.inr (hw _ (List.mem_of_getElem? (i := 78) rfl))) (ty := (.object "java/lang/String")) (by decide)
  have F_url_b45 : Fld Z h45 b45 "com/example/cartulary/cartulary/store/Harvester$Settings" "url" "Ljava/lang/String;" .null := D45 (Or.inr (hw _ (List.mem_of_getElem? (i := 80) rfl))) (ty := (.object "java/lang/String")) (by decide)
  have F_prefix_b45 : Fld Z h45 b45 "com/example/cartulary/cartulary/store/Harvester$Settings" "prefix" "Ljava/lang/String;" .null := D45 (Or.inr (hw _ (List.mem_of_getElem? (i := 82) rfl))) (ty := (.object "java/lang/String")) (by decide)
  have F_every_b45 : Fld Z h45 b45 "com/example/cartulary/cartulary/store/Harvester$Settings" "every" "I" (.int (0 : Int32)) := D45 (Or.inr (hw _ (List.mem_of_getElem? (i := 84) rfl))) (ty := .int) (by decide)
  have F_oneRunOnly_b45 : Fld Z h45 b45 "com/example/cartulary/cartulary/store/Harvester$Settings" "oneRunOnly" "Z" (.int (0 : Int32)) := D45 (Or.inr (hw _ (List.mem_of_getElem? (i := 86) rfl))) (ty := .boolean) (by decide)
  have F_active_b45 : Fld Z h45 b45 "com/example/cartulary/cartulary/store/Harvester$Settings" "active" "Z" (.int (0 : Int32)) := D45 (Or.inr (hw _ (List.mem_of_getElem? (i := 88) rfl))) (ty := .boolean) (by decide)
  have pre47 : ∀ t, Steps p.tables e below (T45.setTop (mkF m 156 #[.val (.int p0), .val (.int p1), .val (.int p2), .val (.int p3), .val (.int p4), .val (.int p5), .val (.int (if (p4 &&& (1 : Int32)) = (0 : Int32) then p1 else p0)), .val (.int (if (p4 &&& (2 : Int32)) = (0 : Int32) then p3 else p2)), .val (.ref s12), .val (.ref s15), .val (.ref s18), .val (.ref s21), .val (.ref s24), .val (.ref s27), .val (.int ((1 : Int32) + ((p5 &&& (2147483647 : Int32)) % (144000 : Int32)))), .val (.int ((1 : Int32) + (((p5 ^^^ p4) &&& (2147483647 : Int32)) % (144000 : Int32)))), .val (.int (if (fn_same p0 (if (p4 &&& (1 : Int32)) = (0 : Int32) then p1 else p0)) = (0 : Int32) then (0 : Int32) else (if (fn_same p2 (if (p4 &&& (2 : Int32)) = (0 : Int32) then p3 else p2)) = (0 : Int32) then (0 : Int32) else (1 : Int32)))), .unset, .unset, .unset, .unset] [(.int (p4 &&& (4 : Int32))), (.int ((1 : Int32) + ((p5 &&& (2147483647 : Int32)) % (144000 : Int32)))), (.ref s18), (.ref s12), (.ref s24), (.ref b45), (.ref b45)])) t → Steps p.tables e below (s₁.setTop (entryFrame m #[(.int p0), (.int p1), (.int p2), (.int p3), (.int p4), (.int p5)] maxLocals)) t := fun t k => pre36 t (by
    show Steps p.tables e below (T36.setTop (mkF m 138 #[.val (.int p0), .val (.int p1), .val (.int p2), .val (.int p3), .val (.int p4), .val (.int p5), .val (.int (if (p4 &&& (1 : Int32)) = (0 : Int32) then p1 else p0)), .val (.int (if (p4 &&& (2 : Int32)) = (0 : Int32) then p3 else p2)), .val (.ref s12), .val (.ref s15), .val (.ref s18), .val (.ref s21), .val (.ref s24), .val (.ref s27), .val (.int ((1 : Int32) + ((p5 &&& (2147483647 : Int32)) % (144000 : Int32)))), .val (.int ((1 : Int32) + (((p5 ^^^ p4) &&& (2147483647 : Int32)) % (144000 : Int32)))), .unset, .unset, .unset, .unset, .unset] [(.int (if (fn_same p0 (if (p4 &&& (1 : Int32)) = (0 : Int32) then p1 else p0)) = (0 : Int32) then (0 : Int32) else (if (fn_same p2 (if (p4 &&& (2 : Int32)) = (0 : Int32) then p3 else p2)) = (0 : Int32) then (0 : Int32) else (1 : Int32))))])) t
    refine XS.istore X36.here hx rfl (hb hby at_138) rfl (l' := #[.val (.int p0), .val (.int p1), .val (.int p2), .val (.int p3), .val (.int p4), .val (.int p5), .val (.int (if (p4 &&& (1 : Int32)) = (0 : Int32) then p1 else p0)), .val (.int (if (p4 &&& (2 : Int32)) = (0 : Int32) then p3 else p2)), .val (.ref s12), .val (.ref s15), .val (.ref s18), .val (.ref s21), .val (.ref s24), .val (.ref s27), .val (.int ((1 : Int32) + ((p5 &&& (2147483647 : Int32)) % (144000 : Int32)))), .val (.int ((1 : Int32) + (((p5 ^^^ p4) &&& (2147483647 : Int32)) % (144000 : Int32)))), .val (.int (if (fn_same p0 (if (p4 &&& (1 : Int32)) = (0 : Int32) then p1 else p0)) = (0 : Int32) then (0 : Int32) else (if (fn_same p2 (if (p4 &&& (2 : Int32)) = (0 : Int32) then p3 else p2)) = (0 : Int32) then (0 : Int32) else (1 : Int32)))), .unset, .unset, .unset, .unset]) rfl ?_
    show Steps p.tables e below (T36.setTop (mkF m 140 #[.val (.int p0), .val (.int p1), .val (.int p2), .val (.int p3), .val (.int p4), .val (.int p5), .val (.int (if (p4 &&& (1 : Int32)) = (0 : Int32) then p1 else p0)), .val (.int (if (p4 &&& (2 : Int32)) = (0 : Int32) then p3 else p2)), .val (.ref s12), .val (.ref s15), .val (.ref s18), .val (.ref s21), .val (.ref s24), .val (.ref s27), .val (.int ((1 : Int32) + ((p5 &&& (2147483647 : Int32)) % (144000 : Int32)))), .val (.int ((1 : Int32) + (((p5 ^^^ p4) &&& (2147483647 : Int32)) % (144000 : Int32)))), .val (.int (if (fn_same p0 (if (p4 &&& (1 : Int32)) = (0 : Int32) then p1 else p0)) = (0 : Int32) then (0 : Int32) else (if (fn_same p2 (if (p4 &&& (2 : Int32)) = (0 : Int32) then p3 else p2)) = (0 : Int32) then (0 : Int32) else (1 : Int32)))), .unset, .unset, .unset, .unset] [])) t
    refine st45 _ ?_
    show Steps p.tables e below (T45.setTop (mkF m 143 #[.val (.int p0), .val (.int p1), .val (.int p2), .val (.int p3), .val (.int p4), .val (.int p5), .val (.int (if (p4 &&& (1 : Int32)) = (0 : Int32) then p1 else p0)), .val (.int (if (p4 &&& (2 : Int32)) = (0 : Int32) then p3 else p2)), .val (.ref s12), .val (.ref s15), .val (.ref s18), .val (.ref s21), .val (.ref s24), .val (.ref s27), .val (.int ((1 : Int32) + ((p5 &&& (2147483647 : Int32)) % (144000 : Int32)))), .val (.int ((1 : Int32) + (((p5 ^^^ p4) &&& (2147483647 : Int32)) % (144000 : Int32)))), .val (.int (if (fn_same p0 (if (p4 &&& (1 : Int32)) = (0 : Int32) then p1 else p0)) = (0 : Int32) then (0 : Int32) else (if (fn_same p2 (if (p4 &&& (2 : Int32)) = (0 : Int32) then p3 else p2)) = (0 : Int32) then (0 : Int32) else (1 : Int32)))), .unset, .unset, .unset, .unset] [(.ref b45)])) t
    refine XS.dup X45.here hx rfl (hb hby at_143) rfl rfl ?_
    show Steps p.tables e below (T45.setTop (mkF m 144 #[.val (.int p0), .val (.int p1), .val (.int p2), .val (.int p3), .val (.int p4), .val (.int p5), .val (.int (if (p4 &&& (1 : Int32)) = (0 : Int32) then p1 else p0)), .val (.int (if (p4 &&& (2 : Int32)) = (0 : Int32) then p3 else p2)), .val (.ref s12), .val (.ref s15), .val (.ref s18), .val (.ref s21), .val (.ref s24), .val (.ref s27), .val (.int ((1 : Int32) + ((p5 &&& (2147483647 : Int32)) % (144000 : Int32)))), .val (.int ((1 : Int32) + (((p5 ^^^ p4) &&& (2147483647 : Int32)) % (144000 : Int32)))), .val (.int (if (fn_same p0 (if (p4 &&& (1 : Int32)) = (0 : Int32) then p1 else p0)) = (0 : Int32) then (0 : Int32) else (if (fn_same p2 (if (p4 &&& (2 : Int32)) = (0 : Int32) then p3 else p2)) = (0 : Int32) then (0 : Int32) else (1 : Int32)))), .unset, .unset, .unset, .unset] [(.ref b45), (.ref b45)])) t
    refine XS.aload X45.here hx rfl (hb hby at_144) rfl rfl ?_
    show Steps p.tables e below (T45.setTop (mkF m 146 #[.val (.int p0), .val (.int p1), .val (.int p2), .val (.int p3), .val (.int p4), .val (.int p5), .val (.int (if (p4 &&& (1 : Int32)) = (0 : Int32) then p1 else p0)), .val (.int (if (p4 &&& (2 : Int32)) = (0 : Int32) then p3 else p2)), .val (.ref s12), .val (.ref s15), .val (.ref s18), .val (.ref s21), .val (.ref s24), .val (.ref s27), .val (.int ((1 : Int32) + ((p5 &&& (2147483647 : Int32)) % (144000 : Int32)))), .val (.int ((1 : Int32) + (((p5 ^^^ p4) &&& (2147483647 : Int32)) % (144000 : Int32)))), .val (.int (if (fn_same p0 (if (p4 &&& (1 : Int32)) = (0 : Int32) then p1 else p0)) = (0 : Int32) then (0 : Int32) else (if (fn_same p2 (if (p4 &&& (2 : Int32)) = (0 : Int32) then p3 else p2)) = (0 : Int32) then (0 : Int32) else (1 : Int32)))), .unset, .unset, .unset, .unset] [(.ref s24), (.ref b45), (.ref b45)])) t
    refine XS.aload X45.here hx rfl (hb hby at_146) rfl rfl ?_
    show Steps p.tables e below (T45.setTop (mkF m 148 #[.val (.int p0), .val (.int p1), .val (.int p2), .val (.int p3), .val (.int p4), .val (.int p5), .val (.int (if (p4 &&& (1 : Int32)) = (0 : Int32) then p1 else p0)), .val (.int (if (p4 &&& (2 : Int32)) = (0 : Int32) then p3 else p2)), .val (.ref s12), .val (.ref s15), .val (.ref s18), .val (.ref s21), .val (.ref s24), .val (.ref s27), .val (.int ((1 : Int32) + ((p5 &&& (2147483647 : Int32)) % (144000 : Int32)))), .val (.int ((1 : Int32) + (((p5 ^^^ p4) &&& (2147483647 : Int32)) % (144000 : Int32)))), .val (.int (if (fn_same p0 (if (p4 &&& (1 : Int32)) = (0 : Int32) then p1 else p0)) = (0 : Int32) then (0 : Int32) else (if (fn_same p2 (if (p4 &&& (2 : Int32)) = (0 : Int32) then p3 else p2)) = (0 : Int32) then (0 : Int32) else (1 : Int32)))), .unset, .unset, .unset, .unset] [(.ref s12), (.ref s24), (.ref b45), (.ref b45)])) t
    refine XS.aload X45.here hx rfl (hb hby at_148) rfl rfl ?_
    show Steps p.tables e below (T45.setTop (mkF m 150 #[.val (.int p0), .val (.int p1), .val (.int p2), .val (.int p3), .val (.int p4), .val (.int p5), .val (.int (if (p4 &&& (1 : Int32)) = (0 : Int32) then p1 else p0)), .val (.int (if (p4 &&& (2 : Int32)) = (0 : Int32) then p3 else p2)), .val (.ref s12), .val (.ref s15), .val (.ref s18), .val (.ref s21), .val (.ref s24), .val (.ref s27), .val (.int ((1 : Int32) + ((p5 &&& (2147483647 : Int32)) % (144000 : Int32)))), .val (.int ((1 : Int32) + (((p5 ^^^ p4) &&& (2147483647 : Int32)) % (144000 : Int32)))), .val (.int (if (fn_same p0 (if (p4 &&& (1 : Int32)) = (0 : Int32) then p1 else p0)) = (0 : Int32) then (0 : Int32) else (if (fn_same p2 (if (p4 &&& (2 : Int32)) = (0 : Int32) then p3 else p2)) = (0 : Int32) then (0 : Int32) else (1 : Int32)))), .unset, .unset, .unset, .unset] [(.ref s18), (.ref s12), (.ref s24), (.ref b45), (.ref b45)])) t
    refine XS.iload X45.here hx rfl (hb hby at_150) rfl ?_
    show Steps p.tables e below (T45.setTop (mkF m 152 #[.val (.int p0), .val (.int p1), .val (.int p2), .val (.int p3), .val (.int p4), .val (.int p5), .val (.int (if (p4 &&& (1 : Int32)) = (0 : Int32) then p1 else p0)), .val (.int (if (p4 &&& (2 : Int32)) = (0 : Int32) then p3 else p2)), .val (.ref s12), .val (.ref s15), .val (.ref s18), .val (.ref s21), .val (.ref s24), .val (.ref s27), .val (.int ((1 : Int32) + ((p5 &&& (2147483647 : Int32)) % (144000 : Int32)))), .val (.int ((1 : Int32) + (((p5 ^^^ p4) &&& (2147483647 : Int32)) % (144000 : Int32)))), .val (.int (if (fn_same p0 (if (p4 &&& (1 : Int32)) = (0 : Int32) then p1 else p0)) = (0 : Int32) then (0 : Int32) else (if (fn_same p2 (if (p4 &&& (2 : Int32)) = (0 : Int32) then p3 else p2)) = (0 : Int32) then (0 : Int32) else (1 : Int32)))), .unset, .unset, .unset, .unset] [(.int ((1 : Int32) + ((p5 &&& (2147483647 : Int32)) % (144000 : Int32)))), (.ref s18), (.ref s12), (.ref s24), (.ref b45), (.ref b45)])) t
    refine XS.iload X45.here hx rfl (hb hby at_152) rfl ?_
    show Steps p.tables e below (T45.setTop (mkF m 154 #[.val (.int p0), .val (.int p1), .val (.int p2), .val (.int p3), .val (.int p4), .val (.int p5), .val (.int (if (p4 &&& (1 : Int32)) = (0 : Int32) then p1 else p0)), .val (.int (if (p4 &&& (2 : Int32)) = (0 : Int32) then p3 else p2)), .val (.ref s12), .val (.ref s15), .val (.ref s18), .val (.ref s21), .val (.ref s24), .val (.ref s27), .val (.int ((1 : Int32) + ((p5 &&& (2147483647 : Int32)) % (144000 : Int32)))), .val (.int ((1 : Int32) + (((p5 ^^^ p4) &&& (2147483647 : Int32)) % (144000 : Int32)))), .val (.int (if (fn_same p0 (if (p4 &&& (1 : Int32)) = (0 : Int32) then p1 else p0)) = (0 : Int32) then (0 : Int32) else (if (fn_same p2 (if (p4 &&& (2 : Int32)) = (0 : Int32) then p3 else p2)) = (0 : Int32) then (0 : Int32) else (1 : Int32)))), .unset, .unset, .unset, .unset] [(.int p4), (.int ((1 : Int32) + ((p5 &&& (2147483647 : Int32)) % (144000 : Int32)))), (.ref s18), (.ref s12), (.ref s24), (.ref b45), (.ref b45)])) t
    refine XS.iconst X45.here hx rfl (hb hby at_154) ?_
    show Steps p.tables e below (T45.setTop (mkF m 155 #[.val (.int p0), .val (.int p1), .val (.int p2), .val (.int p3), .val (.int p4), .val (.int p5), .val (.int (if (p4 &&& (1 : Int32)) = (0 : Int32) then p1 else p0)), .val (.int (if (p4 &&& (2 : Int32)) = (0 : Int32) then p3 else p2)), .val (.ref s12), .val (.ref s15), .val (.ref s18), .val (.ref s21), .val (.ref s24), .val (.ref s27), .val (.int ((1 : Int32) + ((p5 &&& (2147483647 : Int32)) % (144000 : Int32)))), .val (.int ((1 : Int32) + (((p5 ^^^ p4) &&& (2147483647 : Int32)) % (144000 : Int32)))), .val (.int (if (fn_same p0 (if (p4 &&& (1 : Int32)) = (0 : Int32) then p1 else p0)) = (0 : Int32) then (0 : Int32) else (if (fn_same p2 (if (p4 &&& (2 : Int32)) = (0 : Int32) then p3 else p2)) = (0 : Int32) then (0 : Int32) else (1 : Int32)))), .unset, .unset, .unset, .unset] [(.int (4 : Int32)), (.int p4), (.int ((1 : Int32) + ((p5 &&& (2147483647 : Int32)) % (144000 : Int32)))), (.ref s18), (.ref s12), (.ref s24), (.ref b45), (.ref b45)])) t
    refine XS.iand X45.here hx rfl (hb hby at_155) rfl ?_
    exact k)
  obtain ⟨T48, LL48, X48, N48, e48, pre48⟩ : ∃ (T : State) (LL : List Loc), Stand p l e room_1 (s.setVm T21.vm) m #[(.int p0), (.int p1), (.int p2), (.int p3), (.int p4), (.int p5)] below meth c T LL (29) (64) ∧ Fr n0 LL ∧ T.heap = h45 ∧ ∀ t, Steps p.tables e below (T.setTop (mkF m 164 #[.val (.int p0), .val (.int p1), .val (.int p2), .val (.int p3), .val (.int p4), .val (.int p5), .val (.int (if (p4 &&& (1 : Int32)) = (0 : Int32) then p1 else p0)), .val (.int (if (p4 &&& (2 : Int32)) = (0 : Int32) then p3 else p2)), .val (.ref s12), .val (.ref s15), .val (.ref s18), .val (.ref s21), .val (.ref s24), .val (.ref s27), .val (.int ((1 : Int32) + ((p5 &&& (2147483647 : Int32)) % (144000 : Int32)))), .val (.int ((1 : Int32) + (((p5 ^^^ p4) &&& (2147483647 : Int32)) % (144000 : Int32)))), .val (.int (if (fn_same p0 (if (p4 &&& (1 : Int32)) = (0 : Int32) then p1 else p0)) = (0 : Int32) then (0 : Int32) else (if (fn_same p2 (if (p4 &&& (2 : Int32)) = (0 : Int32) then p3 else p2)) = (0 : Int32) then (0 : Int32) else (1 : Int32)))), .unset, .unset, .unset, .unset] [(.int (if (p4 &&& (4 : Int32)) = (0 : Int32) then (0 : Int32) else (1 : Int32))), (.int ((1 : Int32) + ((p5 &&& (2147483647 : Int32)) % (144000 : Int32)))), (.ref s18), (.ref s12), (.ref s24), (.ref b45), (.ref b45)])) t → Steps p.tables e below (s₁.setTop (entryFrame m #[(.int p0), (.int p1), (.int p2), (.int p3), (.int p4), (.int p5)] maxLocals)) t := by
    by_cases hc49 : (p4 &&& (4 : Int32)) = (0 : Int32)
    · have pre50 : ∀ t, Steps p.tables e below (T45.setTop (mkF m 164 #[.val (.int p0), .val (.int p1), .val (.int p2), .val (.int p3), .val (.int p4), .val (.int p5), .val (.int (if (p4 &&& (1 : Int32)) = (0 : Int32) then p1 else p0)), .val (.int (if (p4 &&& (2 : Int32)) = (0 : Int32) then p3 else p2)), .val (.ref s12), .val (.ref s15), .val (.ref s18), .val (.ref s21), .val (.ref s24), .val (.ref s27), .val (.int ((1 : Int32) + ((p5 &&& (2147483647 : Int32)) % (144000 : Int32)))), .val (.int ((1 : Int32) + (((p5 ^^^ p4) &&& (2147483647 : Int32)) % (144000 : Int32)))), .val (.int (if (fn_same p0 (if (p4 &&& (1 : Int32)) = (0 : Int32) then p1 else p0)) = (0 : Int32) then (0 : Int32) else (if (fn_same p2 (if (p4 &&& (2 : Int32)) = (0 : Int32) then p3 else p2)) = (0 : Int32) then (0 : Int32) else (1 : Int32)))), .unset, .unset, .unset, .unset] [(.int (0 : Int32)), (.int ((1 : Int32) + ((p5 &&& (2147483647 : Int32)) % (144000 : Int32)))), (.ref s18), (.ref s12), (.ref s24), (.ref b45), (.ref b45)])) t → Steps p.tables e below (s₁.setTop (entryFrame m #[(.int p0), (.int p1), (.int p2), (.int p3), (.int p4), (.int p5)] maxLocals)) t := fun t k => pre47 t (by
        show Steps p.tables e below (T45.setTop (mkF m 156 #[.val (.int p0), .val (.int p1), .val (.int p2), .val (.int p3), .val (.int p4), .val (.int p5), .val (.int (if (p4 &&& (1 : Int32)) = (0 : Int32) then p1 else p0)), .val (.int (if (p4 &&& (2 : Int32)) = (0 : Int32) then p3 else p2)), .val (.ref s12), .val (.ref s15), .val (.ref s18), .val (.ref s21), .val (.ref s24), .val (.ref s27), .val (.int ((1 : Int32) + ((p5 &&& (2147483647 : Int32)) % (144000 : Int32)))), .val (.int ((1 : Int32) + (((p5 ^^^ p4) &&& (2147483647 : Int32)) % (144000 : Int32)))), .val (.int (if (fn_same p0 (if (p4 &&& (1 : Int32)) = (0 : Int32) then p1 else p0)) = (0 : Int32) then (0 : Int32) else (if (fn_same p2 (if (p4 &&& (2 : Int32)) = (0 : Int32) then p3 else p2)) = (0 : Int32) then (0 : Int32) else (1 : Int32)))), .unset, .unset, .unset, .unset] [(.int (p4 &&& (4 : Int32))), (.int ((1 : Int32) + ((p5 &&& (2147483647 : Int32)) % (144000 : Int32)))), (.ref s18), (.ref s12), (.ref s24), (.ref b45), (.ref b45)])) t
        refine XS.ifYes X45.here hx rfl (pc0 := 156) (pc' := 163) rfl (hb hby at_156) rfl ((if0 _ _).trans (teq hc49).1) (by decide) (by decide) ?_
        show Steps p.tables e below (T45.setTop (mkF m 163 #[.val (.int p0), .val (.int p1), .val (.int p2), .val (.int p3), .val (.int p4), .val (.int p5), .val (.int (if (p4 &&& (1 : Int32)) = (0 : Int32) then p1 else p0)), .val (.int (if (p4 &&& (2 : Int32)) = (0 : Int32) then p3 else p2)), .val (.ref s12), .val (.ref s15), .val (.ref s18), .val (.ref s21), .val (.ref s24), .val (.ref s27), .val (.int ((1 : Int32) + ((p5 &&& (2147483647 : Int32)) % (144000 : Int32)))), .val (.int ((1 : Int32) + (((p5 ^^^ p4) &&& (2147483647 : Int32)) % (144000 : Int32)))), .val (.int (if (fn_same p0 (if (p4 &&& (1 : Int32)) = (0 : Int32) then p1 else p0)) = (0 : Int32) then (0 : Int32) else (if (fn_same p2 (if (p4 &&& (2 : Int32)) = (0 : Int32) then p3 else p2)) = (0 : Int32) then (0 : Int32) else (1 : Int32)))), .unset, .unset, .unset, .unset] [(.int ((1 : Int32) + ((p5 &&& (2147483647 : Int32)) % (144000 : Int32)))), (.ref s18), (.ref s12), (.ref s24), (.ref b45), (.ref b45)])) t
        refine XS.iconst X45.here hx rfl (hb hby at_163) ?_
        exact k)
      exact ⟨T45, _, X45, N36, e45, fun t k => pre50 t (by simp only [if_pos hc49] at k; exact k)⟩
    · have pre51 : ∀ t, Steps p.tables e below (T45.setTop (mkF m 164 #[.val (.int p0), .val (.int p1), .val (.int p2), .val (.int p3), .val (.int p4), .val (.int p5), .val (.int (if (p4 &&& (1 : Int32)) = (0 : Int32) then p1 else p0)), .val (.int (if (p4 &&& (2 : Int32)) = (0 : Int32) then p3 else p2)), .val (.ref s12), .val (.ref s15), .val (.ref s18), .val (.ref s21), .val (.ref s24), .val (.ref s27), .val (.int ((1 : Int32) + ((p5 &&& (2147483647 : Int32)) % (144000 : Int32)))), .val (.int ((1 : Int32) + (((p5 ^^^ p4) &&& (2147483647 : Int32)) % (144000 : Int32)))), .val (.int (if (fn_same p0 (if (p4 &&& (1 : Int32)) = (0 : Int32) then p1 else p0)) = (0 : Int32) then (0 : Int32) else (if (fn_same p2 (if (p4 &&& (2 : Int32)) = (0 : Int32) then p3 else p2)) = (0 : Int32) then (0 : Int32) else (1 : Int32)))), .unset, .unset, .unset, .unset] [(.int (1 : Int32)), (.int ((1 : Int32) + ((p5 &&& (2147483647 : Int32)) % (144000 : Int32)))), (.ref s18), (.ref s12), (.ref s24), (.ref b45), (.ref b45)])) t → Steps p.tables e below (s₁.setTop (entryFrame m #[(.int p0), (.int p1), (.int p2), (.int p3), (.int p4), (.int p5)] maxLocals)) t := fun t k => pre47 t (by
        show Steps p.tables e below (T45.setTop (mkF m 156 #[.val (.int p0), .val (.int p1), .val (.int p2), .val (.int p3), .val (.int p4), .val (.int p5), .val (.int (if (p4 &&& (1 : Int32)) = (0 : Int32) then p1 else p0)), .val (.int (if (p4 &&& (2 : Int32)) = (0 : Int32) then p3 else p2)), .val (.ref s12), .val (.ref s15), .val (.ref s18), .val (.ref s21), .val (.ref s24), .val (.ref s27), .val (.int ((1 : Int32) + ((p5 &&& (2147483647 : Int32)) % (144000 : Int32)))), .val (.int ((1 : Int32) + (((p5 ^^^ p4) &&& (2147483647 : Int32)) % (144000 : Int32)))), .val (.int (if (fn_same p0 (if (p4 &&& (1 : Int32)) = (0 : Int32) then p1 else p0)) = (0 : Int32) then (0 : Int32) else (if (fn_same p2 (if (p4 &&& (2 : Int32)) = (0 : Int32) then p3 else p2)) = (0 : Int32) then (0 : Int32) else (1 : Int32)))), .unset, .unset, .unset, .unset] [(.int (p4 &&& (4 : Int32))), (.int ((1 : Int32) + ((p5 &&& (2147483647 : Int32)) % (144000 : Int32)))), (.ref s18), (.ref s12), (.ref s24), (.ref b45), (.ref b45)])) t
        refine XS.ifNo X45.here hx rfl (hb hby at_156) rfl ((if0 _ _).trans (feq hc49).1) ?_
        show Steps p.tables e below (T45.setTop (mkF m 159 #[.val (.int p0), .val (.int p1), .val (.int p2), .val (.int p3), .val (.int p4), .val (.int p5), .val (.int (if (p4 &&& (1 : Int32)) = (0 : Int32) then p1 else p0)), .val (.int (if (p4 &&& (2 : Int32)) = (0 : Int32) then p3 else p2)), .val (.ref s12), .val (.ref s15), .val (.ref s18), .val (.ref s21), .val (.ref s24), .val (.ref s27), .val (.int ((1 : Int32) + ((p5 &&& (2147483647 : Int32)) % (144000 : Int32)))), .val (.int ((1 : Int32) + (((p5 ^^^ p4) &&& (2147483647 : Int32)) % (144000 : Int32)))), .val (.int (if (fn_same p0 (if (p4 &&& (1 : Int32)) = (0 : Int32) then p1 else p0)) = (0 : Int32) then (0 : Int32) else (if (fn_same p2 (if (p4 &&& (2 : Int32)) = (0 : Int32) then p3 else p2)) = (0 : Int32) then (0 : Int32) else (1 : Int32)))), .unset, .unset, .unset, .unset] [(.int ((1 : Int32) + ((p5 &&& (2147483647 : Int32)) % (144000 : Int32)))), (.ref s18), (.ref s12), (.ref s24), (.ref b45), (.ref b45)])) t
        refine XS.iconst X45.here hx rfl (hb hby at_159) ?_
        show Steps p.tables e below (T45.setTop (mkF m 160 #[.val (.int p0), .val (.int p1), .val (.int p2), .val (.int p3), .val (.int p4), .val (.int p5), .val (.int (if (p4 &&& (1 : Int32)) = (0 : Int32) then p1 else p0)), .val (.int (if (p4 &&& (2 : Int32)) = (0 : Int32) then p3 else p2)), .val (.ref s12), .val (.ref s15), .val (.ref s18), .val (.ref s21), .val (.ref s24), .val (.ref s27), .val (.int ((1 : Int32) + ((p5 &&& (2147483647 : Int32)) % (144000 : Int32)))), .val (.int ((1 : Int32) + (((p5 ^^^ p4) &&& (2147483647 : Int32)) % (144000 : Int32)))), .val (.int (if (fn_same p0 (if (p4 &&& (1 : Int32)) = (0 : Int32) then p1 else p0)) = (0 : Int32) then (0 : Int32) else (if (fn_same p2 (if (p4 &&& (2 : Int32)) = (0 : Int32) then p3 else p2)) = (0 : Int32) then (0 : Int32) else (1 : Int32)))), .unset, .unset, .unset, .unset] [(.int (1 : Int32)), (.int ((1 : Int32) + ((p5 &&& (2147483647 : Int32)) % (144000 : Int32)))), (.ref s18), (.ref s12), (.ref s24), (.ref b45), (.ref b45)])) t
        refine XS.goto X45.here hx rfl (pc0 := 160) (pc' := 164) rfl (hb hby at_160) (by decide) (by decide) ?_
        exact k)
      exact ⟨T45, _, X45, N36, e45, fun t k => pre51 t (by simp only [if_neg hc49] at k; exact k)⟩
  have pre52 : ∀ t, Steps p.tables e below (T48.setTop (mkF m 169 #[.val (.int p0), .val (.int p1), .val (.int p2), .val (.int p3), .val (.int p4), .val (.int p5), .val (.int (if (p4 &&& (1 : Int32)) = (0 : Int32) then p1 else p0)), .val (.int (if (p4 &&& (2 : Int32)) = (0 : Int32) then p3 else p2)), .val (.ref s12), .val (.ref s15), .val (.ref s18), .val (.ref s21), .val (.ref s24), .val (.ref s27), .val (.int ((1 : Int32) + ((p5 &&& (2147483647 : Int32)) % (144000 : Int32)))), .val (.int ((1 : Int32) + (((p5 ^^^ p4) &&& (2147483647 : Int32)) % (144000 : Int32)))), .val (.int (if (fn_same p0 (if (p4 &&& (1 : Int32)) = (0 : Int32) then p1 else p0)) = (0 : Int32) then (0 : Int32) else (if (fn_same p2 (if (p4 &&& (2 : Int32)) = (0 : Int32) then p3 else p2)) = (0 : Int32) then (0 : Int32) else (1 : Int32)))), .unset, .unset, .unset, .unset] [(.int (p4 &&& (8 : Int32))), (.int (if (p4 &&& (4 : Int32)) = (0 : Int32) then (0 : Int32) else (1 : Int32))), (.int ((1 : Int32) + ((p5 &&& (2147483647 : Int32)) % (144000 : Int32)))), (.ref s18), (.ref s12), (.ref s24), (.ref b45), (.ref b45)])) t → Steps p.tables e below (s₁.setTop (entryFrame m #[(.int p0), (.int p1), (.int p2), (.int p3), (.int p4), (.int p5)] maxLocals)) t := fun t k => pre48 t (by
    show Steps p.tables e below (T48.setTop (mkF m 164 #[.val (.int p0), .val (.int p1), .val (.int p2), .val (.int p3), .val (.int p4), .val (.int p5), .val (.int (if (p4 &&& (1 : Int32)) = (0 : Int32) then p1 else p0)), .val (.int (if (p4 &&& (2 : Int32)) = (0 : Int32) then p3 else p2)), .val (.ref s12), .val (.ref s15), .val (.ref s18), .val (.ref s21), .val (.ref s24), .val (.ref s27), .val (.int ((1 : Int32) + ((p5 &&& (2147483647 : Int32)) % (144000 : Int32)))), .val (.int ((1 : Int32) + (((p5 ^^^ p4) &&& (2147483647 : Int32)) % (144000 : Int32)))), .val (.int (if (fn_same p0 (if (p4 &&& (1 : Int32)) = (0 : Int32) then p1 else p0)) = (0 : Int32) then (0 : Int32) else (if (fn_same p2 (if (p4 &&& (2 : Int32)) = (0 : Int32) then p3 else p2)) = (0 : Int32) then (0 : Int32) else (1 : Int32)))), .unset, .unset, .unset, .unset] [(.int (if (p4 &&& (4 : Int32)) = (0 : Int32) then (0 : Int32) else (1 : Int32))), (.int ((1 : Int32) + ((p5 &&& (2147483647 : Int32)) % (144000 : Int32)))), (.ref s18), (.ref s12), (.ref s24), (.ref b45), (.ref b45)])) t
    refine XS.iload X48.here hx rfl (hb hby at_164) rfl ?_
    show Steps p.tables e below (T48.setTop (mkF m 166 #[.val (.int p0), .val (.int p1), .val (.int p2), .val (.int p3), .val (.int p4), .val (.int p5), .val (.int (if (p4 &&& (1 : Int32)) = (0 : Int32) then p1 else p0)), .val (.int (if (p4 &&& (2 : Int32)) = (0 : Int32) then p3 else p2)), .val (.ref s12), .val (.ref s15), .val (.ref s18), .val (.ref s21), .val (.ref s24), .val (.ref s27), .val (.int ((1 : Int32) + ((p5 &&& (2147483647 : Int32)) % (144000 : Int32)))), .val (.int ((1 : Int32) + (((p5 ^^^ p4) &&& (2147483647 : Int32)) % (144000 : Int32)))), .val (.int (if (fn_same p0 (if (p4 &&& (1 : Int32)) = (0 : Int32) then p1 else p0)) = (0 : Int32) then (0 : Int32) else (if (fn_same p2 (if (p4 &&& (2 : Int32)) = (0 : Int32) then p3 else p2)) = (0 : Int32) then (0 : Int32) else (1 : Int32)))), .unset, .unset, .unset, .unset] [(.int p4), (.int (if (p4 &&& (4 : Int32)) = (0 : Int32) then (0 : Int32) else (1 : Int32))), (.int ((1 : Int32) + ((p5 &&& (2147483647 : Int32)) % (144000 : Int32)))), (.ref s18), (.ref s12), (.ref s24), (.ref b45), (.ref b45)])) t
    refine XS.bipush X48.here hx rfl (hb hby at_166) ?_
    show Steps p.tables e below (T48.setTop (mkF m 168 #[.val (.int p0), .val (.int p1), .val (.int p2), .val (.int p3), .val (.int p4), .val (.int p5), .val (.int (if (p4 &&& (1 : Int32)) = (0 : Int32) then p1 else p0)), .val (.int (if (p4 &&& (2 : Int32)) = (0 : Int32) then p3 else p2)), .val (.ref s12), .val (.ref s15), .val (.ref s18), .val (.ref s21), .val (.ref s24), .val (.ref s27), .val (.int ((1 : Int32) + ((p5 &&& (2147483647 : Int32)) % (144000 : Int32)))), .val (.int ((1 : Int32) + (((p5 ^^^ p4) &&& (2147483647 : Int32)) % (144000 : Int32)))), .val (.int (if (fn_same p0 (if (p4 &&& (1 : Int32)) = (0 : Int32) then p1 else p0)) = (0 : Int32) then (0 : Int32) else (if (fn_same p2 (if (p4 &&& (2 : Int32)) = (0 : Int32) then p3 else p2)) = (0 : Int32) then (0 : Int32) else (1 : Int32)))), .unset, .unset, .unset, .unset] [(.int (8 : Int32)), (.int p4), (.int (if (p4 &&& (4 : Int32)) = (0 : Int32) then (0 : Int32) else (1 : Int32))), (.int ((1 : Int32) + ((p5 &&& (2147483647 : Int32)) % (144000 : Int32)))), (.ref s18), (.ref s12), (.ref s24), (.ref b45), (.ref b45)])) t
    refine XS.iand X48.here hx rfl (hb hby at_168) rfl ?_
    exact k)
  obtain ⟨T53, LL53, X53, N53, e53, pre53⟩ : ∃ (T : State) (LL : List Loc), Stand p l e room_1 (s.setVm T21.vm) m #[(.int p0), (.int p1), (.int p2), (.int p3), (.int p4), (.int p5)] below meth c T LL (29) (64) ∧ Fr n0 LL ∧ T.heap = h45 ∧ ∀ t, Steps p.tables e below (T.setTop (mkF m 177 #[.val (.int p0), .val (.int p1), .val (.int p2), .val (.int p3), .val (.int p4), .val (.int p5), .val (.int (if (p4 &&& (1 : Int32)) = (0 : Int32) then p1 else p0)), .val (.int (if (p4 &&& (2 : Int32)) = (0 : Int32) then p3 else p2)), .val (.ref s12), .val (.ref s15), .val (.ref s18), .val (.ref s21), .val (.ref s24), .val (.ref s27), .val (.int ((1 : Int32) + ((p5 &&& (2147483647 : Int32)) % (144000 : Int32)))), .val (.int ((1 : Int32) + (((p5 ^^^ p4) &&& (2147483647 : Int32)) % (144000 : Int32)))), .val (.int (if (fn_same p0 (if (p4 &&& (1 : Int32)) = (0 : Int32) then p1 else p0)) = (0 : Int32) then (0 : Int32) else (if (fn_same p2 (if (p4 &&& (2 : Int32)) = (0 : Int32) then p3 else p2)) = (0 : Int32) then (0 : Int32) else (1 : Int32)))), .unset, .unset, .unset, .unset] [(.int (if (p4 &&& (8 : Int32)) = (0 : Int32) then (0 : Int32) else (1 : Int32))), (.int (if (p4 &&& (4 : Int32)) = (0 : Int32) then (0 : Int32) else (1 : Int32))), (.int ((1 : Int32) + ((p5 &&& (2147483647 : Int32)) % (144000 : Int32)))), (.ref s18), (.ref s12), (.ref s24), (.ref b45), (.ref b45)])) t → Steps p.tables e below (s₁.setTop (entryFrame m #[(.int p0), (.int p1), (.int p2), (.int p3), (.int p4), (.int p5)] maxLocals)) t := by
    by_cases hc54 : (p4 &&& (8 : Int32)) = (0 : Int32)
    · have pre55 : ∀ t, Steps p.tables e below (T48.setTop (mkF m 177 #[.val (.int p0), .val (.int p1), .val (.int p2), .val (.int p3), .val (.int p4), .val (.int p5), .val (.int (if (p4 &&& (1 : Int32)) = (0 : Int32) then p1 else p0)), .val (.int (if (p4 &&& (2 : Int32)) = (0 : Int32) then p3 else p2)), .val (.ref s12), .val (.ref s15), .val (.ref s18), .val (.ref s21), .val (.ref s24), .val (.ref s27), .val (.int ((1 : Int32) + ((p5 &&& (2147483647 : Int32)) % (144000 : Int32)))), .val (.int ((1 : Int32) + (((p5 ^^^ p4) &&& (2147483647 : Int32)) % (144000 : Int32)))), .val (.int (if (fn_same p0 (if (p4 &&& (1 : Int32)) = (0 : Int32) then p1 else p0)) = (0 : Int32) then (0 : Int32) else (if (fn_same p2 (if (p4 &&& (2 : Int32)) = (0 : Int32) then p3 else p2)) = (0 : Int32) then (0 : Int32) else (1 : Int32)))), .unset, .unset, .unset, .unset] [(.int (0 : Int32)), (.int (if (p4 &&& (4 : Int32)) = (0 : Int32) then (0 : Int32) else (1 : Int32))), (.int ((1 : Int32) + ((p5 &&& (2147483647 : Int32)) % (144000 : Int32)))), (.ref s18), (.ref s12), (.ref s24), (.ref b45), (.ref b45)])) t → Steps p.tables e below (s₁.setTop (entryFrame m #[(.int p0), (.int p1), (.int p2), (.int p3), (.int p4), (.int p5)] maxLocals)) t := fun t k => pre52 t (by
        show Steps p.tables e below (T48.setTop (mkF m 169 #[.val (.int p0), .val (.int p1), .val (.int p2), .val (.int p3), .val (.int p4), .val (.int p5), .val (.int (if (p4 &&& (1 : Int32)) = (0 : Int32) then p1 else p0)), .val (.int (if (p4 &&& (2 : Int32)) = (0 : Int32) then p3 else p2)), .val (.ref s12), .val (.ref s15), .val (.ref s18), .val (.ref s21), .val (.ref s24), .val (.ref s27), .val (.int ((1 : Int32) + ((p5 &&& (2147483647 : Int32)) % (144000 : Int32)))), .val (.int ((1 : Int32) + (((p5 ^^^ p4) &&& (2147483647 : Int32)) % (144000 : Int32)))), .val (.int (if (fn_same p0 (if (p4 &&& (1 : Int32)) = (0 : Int32) then p1 else p0)) = (0 : Int32) then (0 : Int32) else (if (fn_same p2 (if (p4 &&& (2 : Int32)) = (0 : Int32) then p3 else p2)) = (0 : Int32) then (0 : Int32) else (1 : Int32)))), .unset, .unset, .unset, .unset] [(.int (p4 &&& (8 : Int32))), (.int (if (p4 &&& (4 : Int32)) = (0 : Int32) then (0 : Int32) else (1 : Int32))), (.int ((1 : Int32) + ((p5 &&& (2147483647 : Int32)) % (144000 : Int32)))), (.ref s18), (.ref s12), (.ref s24), (.ref b45), (.ref b45)])) t
        refine XS.ifYes X48.here hx rfl (pc0 := 169) (pc' := 176) rfl (hb hby at_169) rfl ((if0 _ _).trans (teq hc54).1) (by decide) (by decide) ?_
        show Steps p.tables e below (T48.setTop (mkF m 176 #[.val (.int p0), .val (.int p1), .val (.int p2), .val (.int p3), .val (.int p4), .val (.int p5), .val (.int (if (p4 &&& (1 : Int32)) = (0 : Int32) then p1 else p0)), .val (.int (if (p4 &&& (2 : Int32)) = (0 : Int32) then p3 else p2)), .val (.ref s12), .val (.ref s15), .val (.ref s18), .val (.ref s21), .val (.ref s24), .val (.ref s27), .val (.int ((1 : Int32) + ((p5 &&& (2147483647 : Int32)) % (144000 : Int32)))), .val (.int ((1 : Int32) + (((p5 ^^^ p4) &&& (2147483647 : Int32)) % (144000 : Int32)))), .val (.int (if (fn_same p0 (if (p4 &&& (1 : Int32)) = (0 : Int32) then p1 else p0)) = (0 : Int32) then (0 : Int32) else (if (fn_same p2 (if (p4 &&& (2 : Int32)) = (0 : Int32) then p3 else p2)) = (0 : Int32) then (0 : Int32) else (1 : Int32)))), .unset, .unset, .unset, .unset] [(.int (if (p4 &&& (4 : Int32)) = (0 : Int32) then (0 : Int32) else (1 : Int32))), (.int ((1 : Int32) + ((p5 &&& (2147483647 : Int32)) % (144000 : Int32)))), (.ref s18), (.ref s12), (.ref s24), (.ref b45), (.ref b45)])) t
        refine XS.iconst X48.here hx rfl (hb hby at_176) ?_
        exact k)
      exact ⟨T48, _, X48, N48, e48, fun t k => pre55 t (by simp only [if_pos hc54] at k; exact k)⟩
    · have pre56 : ∀ t, Steps p.tables e below (T48.setTop (mkF m 177 #[.val (.int p0), .val (.int p1), .val (.int p2), .val (.int p3), .val (.int p4), .val (.int p5), .val (.int (if (p4 &&& (1 : Int32)) = (0 : Int32) then p1 else p0)), .val (.int (if (p4 &&& (2 : Int32)) = (0 : Int32) then p3 else p2)), .val (.ref s12), .val (.ref s15), .val (.ref s18), .val (.ref s21), .val (.ref s24), .val (.ref s27), .val (.int ((1 : Int32) + ((p5 &&& (2147483647 : Int32)) % (144000 : Int32)))), .val (.int ((1 : Int32) + (((p5 ^^^ p4) &&& (2147483647 : Int32)) % (144000 : Int32)))), .val (.int (if (fn_same p0 (if (p4 &&& (1 : Int32)) = (0 : Int32) then p1 else p0)) = (0 : Int32) then (0 : Int32) else (if (fn_same p2 (if (p4 &&& (2 : Int32)) = (0 : Int32) then p3 else p2)) = (0 : Int32) then (0 : Int32) else (1 : Int32)))), .unset, .unset, .unset, .unset] [(.int (1 : Int32)), (.int (if (p4 &&& (4 : Int32)) = (0 : Int32) then (0 : Int32) else (1 : Int32))), (.int ((1 : Int32) + ((p5 &&& (2147483647 : Int32)) % (144000 : Int32)))), (.ref s18), (.ref s12), (.ref s24), (.ref b45), (.ref b45)])) t → Steps p.tables e below (s₁.setTop (entryFrame m #[(.int p0), (.int p1), (.int p2), (.int p3), (.int p4), (.int p5)] maxLocals)) t := fun t k => pre52 t (by
        show Steps p.tables e below (T48.setTop (mkF m 169 #[.val (.int p0), .val (.int p1), .val (.int p2), .val (.int p3), .val (.int p4), .val (.int p5), .val (.int (if (p4 &&& (1 : Int32)) = (0 : Int32) then p1 else p0)), .val (.int (if (p4 &&& (2 : Int32)) = (0 : Int32) then p3 else p2)), .val (.ref s12), .val (.ref s15), .val (.ref s18), .val (.ref s21), .val (.ref s24), .val (.ref s27), .val (.int ((1 : Int32) + ((p5 &&& (2147483647 : Int32)) % (144000 : Int32)))), .val (.int ((1 : Int32) + (((p5 ^^^ p4) &&& (2147483647 : Int32)) % (144000 : Int32)))), .val (.int (if (fn_same p0 (if (p4 &&& (1 : Int32)) = (0 : Int32) then p1 else p0)) = (0 : Int32) then (0 : Int32) else (if (fn_same p2 (if (p4 &&& (2 : Int32)) = (0 : Int32) then p3 else p2)) = (0 : Int32) then (0 : Int32) else (1 : Int32)))), .unset, .unset, .unset, .unset] [(.int (p4 &&& (8 : Int32))), (.int (if (p4 &&& (4 : Int32)) = (0 : Int32) then (0 : Int32) else (1 : Int32))), (.int ((1 : Int32) + ((p5 &&& (2147483647 : Int32)) % (144000 : Int32)))), (.ref s18), (.ref s12), (.ref s24), (.ref b45), (.ref b45)])) t
        refine XS.ifNo X48.here hx rfl (hb hby at_169) rfl ((if0 _ _).trans (feq hc54).1) ?_
        show Steps p.tables e below (T48.setTop (mkF m 172 #[.val (.int p0), .val (.int p1), .val (.int p2), .val (.int p3), .val (.int p4), .val (.int p5), .val (.int (if (p4 &&& (1 : Int32)) = (0 : Int32) then p1 else p0)), .val (.int (if (p4 &&& (2 : Int32)) = (0 : Int32) then p3 else p2)), .val (.ref s12), .val (.ref s15), .val (.ref s18), .val (.ref s21), .val (.ref s24), .val (.ref s27), .val (.int ((1 : Int32) + ((p5 &&& (2147483647 : Int32)) % (144000 : Int32)))), .val (.int ((1 : Int32) + (((p5 ^^^ p4) &&& (2147483647 : Int32)) % (144000 : Int32)))), .val (.int (if (fn_same p0 (if (p4 &&& (1 : Int32)) = (0 : Int32) then p1 else p0)) = (0 : Int32) then (0 : Int32) else (if (fn_same p2 (if (p4 &&& (2 : Int32)) = (0 : Int32) then p3 else p2)) = (0 : Int32) then (0 : Int32) else (1 : Int32)))), .unset, .unset, .unset, .unset] [(.int (if (p4 &&& (4 : Int32)) = (0 : Int32) then (0 : Int32) else (1 : Int32))), (.int ((1 : Int32) + ((p5 &&& (2147483647 : Int32)) % (144000 : Int32)))), (.ref s18), (.ref s12), (.ref s24), (.ref b45), (.ref b45)])) t
        refine XS.iconst X48.here hx rfl (hb hby at_172) ?_
        show Steps p.tables e below (T48.setTop (mkF m 173 #[.val (.int p0), .val (.int p1), .val (.int p2), .val (.int p3), .val (.int p4), .val (.int p5), .val (.int (if (p4 &&& (1 : Int32)) = (0 : Int32) then p1 else p0)), .val (.int (if (p4 &&& (2 : Int32)) = (0 : Int32) then p3 else p2)), .val (.ref s12), .val (.ref s15), .val (.ref s18), .val (.ref s21), .val (.ref s24), .val (.ref s27), .val (.int ((1 : Int32) + ((p5 &&& (2147483647 : Int32)) % (144000 : Int32)))), .val (.int ((1 : Int32) + (((p5 ^^^ p4) &&& (2147483647 : Int32)) % (144000 : Int32)))), .val (.int (if (fn_same p0 (if (p4 &&& (1 : Int32)) = (0 : Int32) then p1 else p0)) = (0 : Int32) then (0 : Int32) else (if (fn_same p2 (if (p4 &&& (2 : Int32)) = (0 : Int32) then p3 else p2)) = (0 : Int32) then (0 : Int32) else (1 : Int32)))), .unset, .unset, .unset, .unset] [(.int (1 : Int32)), (.int (if (p4 &&& (4 : Int32)) = (0 : Int32) then (0 : Int32) else (1 : Int32))), (.int ((1 : Int32) + ((p5 &&& (2147483647 : Int32)) % (144000 : Int32)))), (.ref s18), (.ref s12), (.ref s24), (.ref b45), (.ref b45)])) t
        refine XS.goto X48.here hx rfl (pc0 := 173) (pc' := 177) rfl (hb hby at_173) (by decide) (by decide) ?_
        exact k)
      exact ⟨T48, _, X48, N48, e48, fun t k => pre56 t (by simp only [if_neg hc54] at k; exact k)⟩
  obtain ⟨_, _, ⟨T57, L57, k57, n57⟩, -, X57, ⟨Lc57, hQ57, l57, y57, z57⟩, st57⟩ := X53.specialBack hx (y := (⟨"com/example/cartulary/cartulary/store/Harvester$Settings", "<init>", "(Ljava/lang/String;Ljava/lang/String;Ljava/lang/String;IZZ)V"⟩ : MethodName)) rfl hown (mvT hZ (hw _ (List.mem_of_getElem? (i := 68) rfl))) (mvT hZ (hw _ (List.mem_of_getElem? (i := 69) rfl))) (mvT hZ (hw _ (List.mem_of_getElem? (i := 70) rfl))) (by decide) (backOf (W := 1) (rm_set l Z a0 hw [] b45 s24 s12 s18 ((1 : Int32) + ((p5 &&& (2147483647 : Int32)) % (144000 : Int32))) (if (p4 &&& (4 : Int32)) = (0 : Int32) then (0 : Int32) else (1 : Int32)) (if (p4 &&& (8 : Int32)) = (0 : Int32) then (0 : Int32) else (1 : Int32)) h45 n0 Z45 A45 g_b45 F_name_b45 F_url_b45 F_prefix_b45 F_every_b45 F_oneRunOnly_b45 F_active_b45) hZ (hw _ (List.mem_of_getElem? (i := 70) rfl)) (hw _ (List.mem_of_getElem? (i := 67) rfl)) (by decide) (by decide)) (g := (mkF m 177 #[.val (.int p0), .val (.int p1), .val (.int p2), .val (.int p3), .val (.int p4), .val (.int p5), .val (.int (if (p4 &&& (1 : Int32)) = (0 : Int32) then p1 else p0)), .val (.int (if (p4 &&& (2 : Int32)) = (0 : Int32) then p3 else p2)), .val (.ref s12), .val (.ref s15), .val (.ref s18), .val (.ref s21), .val (.ref s24), .val (.ref s27), .val (.int ((1 : Int32) + ((p5 &&& (2147483647 : Int32)) % (144000 : Int32)))), .val (.int ((1 : Int32) + (((p5 ^^^ p4) &&& (2147483647 : Int32)) % (144000 : Int32)))), .val (.int (if (fn_same p0 (if (p4 &&& (1 : Int32)) = (0 : Int32) then p1 else p0)) = (0 : Int32) then (0 : Int32) else (if (fn_same p2 (if (p4 &&& (2 : Int32)) = (0 : Int32) then p3 else p2)) = (0 : Int32) then (0 : Int32) else (1 : Int32)))), .unset, .unset, .unset, .unset] [(.int (if (p4 &&& (8 : Int32)) = (0 : Int32) then (0 : Int32) else (1 : Int32))), (.int (if (p4 &&& (4 : Int32)) = (0 : Int32) then (0 : Int32) else (1 : Int32))), (.int ((1 : Int32) + ((p5 &&& (2147483647 : Int32)) % (144000 : Int32)))), (.ref s18), (.ref s12), (.ref s24), (.ref b45), (.ref b45)])) rfl (by rw [hml]; rfl) (Steps.refl _) (a := b45) (argsL := [(.ref s24), (.ref s12), (.ref s18), (.int ((1 : Int32) + ((p5 &&& (2147483647 : Int32)) % (144000 : Int32)))), (.int (if (p4 &&& (4 : Int32)) = (0 : Int32) then (0 : Int32) else (1 : Int32))), (.int (if (p4 &&& (8 : Int32)) = (0 : Int32) then (0 : Int32) else (1 : Int32)))]) (rest := [(.ref b45)]) (lenOf own_pd16 rfl) rfl (by show 2 * 0 + _ ≤ _; exact Nat.le_of_eq rfl) (hb hby at_177) (fun _ _ => ⟨rfl, e53, (by decide : 29 + 0 ≤ _), (by decide : 64 + 0 ≤ _)⟩)
  dsimp only [Pt.U, Pt.locs, Pt.cells, Pt.slots] at X57 l57 y57 z57 st57 hQ57
  subst l57 y57 z57
  obtain ⟨rfl, Nq57, Kq57, Eq57, Fq57_u, Fq57_p⟩ := hQ57
  have N57 := Fr.app N53 Nq57
  have sf58_b45 := Safe.keep Kq57 (allS sn_b45 all0) hC46 sn_b45
  have hr58 := CHr.keep Kq57 (allS sn_b45 all0) hC46
  have hA58 := hA46.trans hr58
  have hC58 := hr58.1
  have hk58 := Nat.le_trans hk46 hr58.2.1
  have od58 := od46.keep Kq57 (allS g_b45 all0)
  have f58_1 := f46_1.keep Kq57
  have f58_2 := f46_2.keep Kq57 (ninS ne_s12_b45 nin0)
  have f58_3 := f46_3.keep Kq57 (ninS ne_s12_b45 nin0)
  have f58_4 := f46_4.keep Kq57 (ninS ne_t12_b45 nin0)
  have f58_5 := f46_5.keep Kq57
  have f58_6 := f46_6.keep Kq57 (ninS ne_s15_b45 nin0)
  have f58_7 := f46_7.keep Kq57 (ninS ne_s15_b45 nin0)
  have f58_8 := f46_8.keep Kq57 (ninS ne_t15_b45 nin0)
  have f58_9 := f46_9.keep Kq57
  have f58_10 := f46_10.keep Kq57 (ninS ne_s18_b45 nin0)
  have f58_11 := f46_11.keep Kq57 (ninS ne_s18_b45 nin0)
  have f58_12 := f46_12.keep Kq57 (ninS ne_t18_b45 nin0)
  have f58_13 := f46_13.keep Kq57
  have f58_14 := f46_14.keep Kq57 (ninS ne_s21_b45 nin0)
  have f58_15 := f46_15.keep Kq57 (ninS ne_s21_b45 nin0)
  have f58_16 := f46_16.keep Kq57 (ninS ne_t21_b45 nin0)
  have f58_17 := f46_17.keep Kq57
  have f58_18 := f46_18.keep Kq57 (ninS ne_s24_b45 nin0)
  have f58_19 := f46_19.keep Kq57 (ninS ne_s24_b45 nin0)
  have f58_20 := f46_20.keep Kq57 (ninS ne_t24_b45 nin0)
  have f58_21 := f46_21.keep Kq57
  have f58_22 := f46_22.keep Kq57 (ninS ne_s27_b45 nin0)
  have f58_23 := f46_23.keep Kq57 (ninS ne_s27_b45 nin0)
  have f58_24 := f46_24.keep Kq57 (ninS ne_t27_b45 nin0)
  have f58_25 := A45.keep Kq57
  have Z57 : n0 ≤ T57.heap.size := Nat.le_trans Z45 Kq57.1
  obtain ⟨T59, h59, X59, e59, E59, A59, D59, -, st59⟩ := newO X57 hx hZ hown (hw _ (List.mem_of_getElem? (i := 65) rfl)) (hw _ (List.mem_of_getElem? (i := 66) rfl)) (hw _ (List.mem_of_getElem? (i := 67) rfl)) rfl (g := (mkF m 182 #[.val (.int p0), .val (.int p1), .val (.int p2), .val (.int p3), .val (.int p4), .val (.int p5), .val (.int (if (p4 &&& (1 : Int32)) = (0 : Int32) then p1 else p0)), .val (.int (if (p4 &&& (2 : Int32)) = (0 : Int32) then p3 else p2)), .val (.ref s12), .val (.ref s15), .val (.ref s18), .val (.ref s21), .val (.ref s24), .val (.ref s27), .val (.int ((1 : Int32) + ((p5 &&& (2147483647 : Int32)) % (144000 : Int32)))), .val (.int ((1 : Int32) + (((p5 ^^^ p4) &&& (2147483647 : Int32)) % (144000 : Int32)))), .val (.int (if (fn_same p0 (if (p4 &&& (1 : Int32)) = (0 : Int32) then p1 else p0)) = (0 : Int32) then (0 : Int32) else (if (fn_same p2 (if (p4 &&& (2 : Int32)) = (0 : Int32) then p3 else p2)) = (0 : Int32) then (0 : Int32) else (1 : Int32)))), .val (.ref b45), .unset, .unset, .unset] [])) rfl (hb hby at_182) (by decide) (by decide)
  obtain ⟨b59, g59⟩ : ∃ z, z = T57.heap.size := ⟨_, rfl⟩
  rw [← g59] at A59 D59 st59
  have ne_s12_b59 : s12 ≠ b59 := Nat.ne_of_lt (Nat.lt_of_lt_of_le f58_1.lt (Nat.le_of_eq g59.symm))
  have ne_t12_b59 : t12 ≠ b59 := Nat.ne_of_lt (Nat.lt_of_lt_of_le f58_4.lt (Nat.le_of_eq g59.symm))
  have ne_s15_b59 : s15 ≠ b59 := Nat.ne_of_lt (Nat.lt_of_lt_of_le f58_5.lt (Nat.le_of_eq g59.symm))
  have ne_t15_b59 : t15 ≠ b59 := Nat.ne_of_lt (Nat.lt_of_lt_of_le f58_8.lt (Nat.le_of_eq g59.symm))
  have ne_s18_b59 : s18 ≠ b59 := Nat.ne_of_lt (Nat.lt_of_lt_of_le f58_9.lt (Nat.le_of_eq g59.symm))
  have ne_t18_b59 : t18 ≠ b59 := Nat.ne_of_lt (Nat.lt_of_lt_of_le f58_12.lt (Nat.le_of_eq g59.symm))
  have ne_s21_b59 : s21 ≠ b59 := Nat.ne_of_lt (Nat.lt_of_lt_of_le f58_13.lt (Nat.le_of_eq g59.symm))
  have ne_t21_b59 : t21 ≠ b59 := Nat.ne_of_lt (Nat.lt_of_lt_of_le f58_16.lt (Nat.le_of_eq g59.symm))
  have ne_s24_b59 : s24 ≠ b59 := Nat.ne_of_lt (Nat.lt_of_lt_of_le f58_17.lt (Nat.le_of_eq g59.symm))
  have ne_t24_b59 : t24 ≠ b59 := Nat.ne_of_lt (Nat.lt_of_lt_of_le f58_20.lt (Nat.le_of_eq g59.symm))
  have ne_s27_b59 : s27 ≠ b59 := Nat.ne_of_lt (Nat.lt_of_lt_of_le f58_21.lt (Nat.le_of_eq g59.symm))
  have ne_t27_b59 : t27 ≠ b59 := Nat.ne_of_lt (Nat.lt_of_lt_of_le f58_24.lt (Nat.le_of_eq g59.symm))
  have ne_b45_b59 : b45 ≠ b59 := Nat.ne_of_lt (Nat.lt_of_lt_of_le f58_25.lt (Nat.le_of_eq g59.symm))
  have g_b59 : n0 ≤ b59 := Nat.le_trans Z57 (Nat.le_of_eq g59.symm)
  have sn_b59 := Safe.ext E59 hC58 (Safe.new (Nat.le_of_eq g59.symm))
  have sf60_b45 := Safe.ext E59 hC58 sf58_b45
  have hr60 := CHr.ext E59 hC58
  have hA60 := hA58.trans hr60
  have hC60 := hr60.1
  have hk60 := Nat.le_trans hk58 hr60.2.1
  have od60 := od58.ext E59
  have f60_1 := f58_1.ext E59
  have f60_2 := f58_2.ext E59
  have f60_3 := f58_3.ext E59
  have f60_4 := f58_4.ext E59
  have f60_5 := f58_5.ext E59
  have f60_6 := f58_6.ext E59
  have f60_7 := f58_7.ext E59
  have f60_8 := f58_8.ext E59
  have f60_9 := f58_9.ext E59
  have f60_10 := f58_10.ext E59
  have f60_11 := f58_11.ext E59
  have f60_12 := f58_12.ext E59
  have f60_13 := f58_13.ext E59
  have f60_14 := f58_14.ext E59
  have f60_15 := f58_15.ext E59
  have f60_16 := f58_16.ext E59
  have f60_17 := f58_17.ext E59
  have f60_18 := f58_18.ext E59
  have f60_19 := f58_19.ext E59
  have f60_20 := f58_20.ext E59
  have f60_21 := f58_21.ext E59
  have f60_22 := f58_22.ext E59
  have f60_23 := f58_23.ext E59
  have f60_24 := f58_24.ext E59
  have f60_25 := f58_25.ext E59
  have f60_26 := Fq57_u.ext E59
  have f60_27 := Fq57_p.ext E59
  have Z59 : n0 ≤ h59.size := Nat.le_trans Z57 E59.1
  have F_name_b59 : Fld Z h59 b59 "com/example/cartulary/cartulary/store/Harvester$Settings" "name" "Ljava/lang/String;" .null := D59 (Or.inr (hw _ (List.mem_of_getElem? (i := 78) rfl))) (ty := (.object "java/lang/String")) (by decide)
  have F_url_b59 : Fld Z h59 b59 "com/example/cartulary/cartulary/store/Harvester$Settings" "url" "Ljava/lang/String;" .null := D59 (Or.inr (hw _ (List.mem_of_getElem? (i := 80) rfl))) (ty := (.object "java/lang/String")) (by decide)
  have F_prefix_b59 : Fld Z h59 b59 "com/example/cartulary/cartulary/store/Harvester$Settings" "prefix" "Ljava/lang/String;" .null := D59 (Or.inr (hw _ (List.mem_of_getElem? (i := 82) rfl))) (ty := (.object "java/lang/String")) (by decide)
  have F_every_b59 : Fld Z h59 b59 "com/example/cartulary/cartulary/store/Harvester$Settings" "every" "I" (.int (0 : Int32)) := D59 (Or.inr (hw _ (List.mem_of_getElem? (i := 84) rfl))) (ty := .int) (by decide)
  have F_oneRunOnly_b59 : Fld Z h59 b59 "com/example/cartulary/cartulary/store/Harvester$Settings" "oneRunOnly" "Z" (.int (0 : Int32)) := D59 (Or.inr (hw _ (List.mem_of_getElem? (i := 86) rfl))) (ty := .boolean) (by decide)
  have F_active_b59 : Fld Z h59 b59 "com/example/cartulary/cartulary/store/Harvester$Settings" "active" "Z" (.int (0 : Int32)) := D59 (Or.inr (hw _ (List.mem_of_getElem? (i := 88) rfl))) (ty := .boolean) (by decide)
  have pre61 : ∀ t, Steps p.tables e below (T59.setTop (mkF m 199 #[.val (.int p0), .val (.int p1), .val (.int p2), .val (.int p3), .val (.int p4), .val (.int p5), .val (.int (if (p4 &&& (1 : Int32)) = (0 : Int32) then p1 else p0)), .val (.int (if (p4 &&& (2 : Int32)) = (0 : Int32) then p3 else p2)), .val (.ref s12), .val (.ref s15), .val (.ref s18), .val (.ref s21), .val (.ref s24), .val (.ref s27), .val (.int ((1 : Int32) + ((p5 &&& (2147483647 : Int32)) % (144000 : Int32)))), .val (.int ((1 : Int32) + (((p5 ^^^ p4) &&& (2147483647 : Int32)) % (144000 : Int32)))), .val (.int (if (fn_same p0 (if (p4 &&& (1 : Int32)) = (0 : Int32) then p1 else p0)) = (0 : Int32) then (0 : Int32) else (if (fn_same p2 (if (p4 &&& (2 : Int32)) = (0 : Int32) then p3 else p2)) = (0 : Int32) then (0 : Int32) else (1 : Int32)))), .val (.ref b45), .unset, .unset, .unset] [(.int (p4 &&& (16 : Int32))), (.int ((1 : Int32) + (((p5 ^^^ p4) &&& (2147483647 : Int32)) % (144000 : Int32)))), (.ref s21), (.ref s15), (.ref s27), (.ref b59), (.ref b59)])) t → Steps p.tables e below (s₁.setTop (entryFrame m #[(.int p0), (.int p1), (.int p2), (.int p3), (.int p4), (.int p5)] maxLocals)) t := fun t k => pre53 t (by
    show Steps p.tables e below (T53.setTop (mkF m 177 #[.val (.int p0), .val (.int p1), .val (.int p2), .val (.int p3), .val (.int p4), .val (.int p5), .val (.int (if (p4 &&& (1 : Int32)) = (0 : Int32) then p1 else p0)), .val (.int (if (p4 &&& (2 : Int32)) = (0 : Int32) then p3 else p2)), .val (.ref s12), .val (.ref s15), .val (.ref s18), .val (.ref s21), .val (.ref s24), .val (.ref s27), .val (.int ((1 : Int32) + ((p5 &&& (2147483647 : Int32)) % (144000 : Int32)))), .val (.int ((1 : Int32) + (((p5 ^^^ p4) &&& (2147483647 : Int32)) % (144000 : Int32)))), .val (.int (if (fn_same p0 (if (p4 &&& (1 : Int32)) = (0 : Int32) then p1 else p0)) = (0 : Int32) then (0 : Int32) else (if (fn_same p2 (if (p4 &&& (2 : Int32)) = (0 : Int32) then p3 else p2)) = (0 : Int32) then (0 : Int32) else (1 : Int32)))), .unset, .unset, .unset, .unset] [(.int (if (p4 &&& (8 : Int32)) = (0 : Int32) then (0 : Int32) else (1 : Int32))), (.int (if (p4 &&& (4 : Int32)) = (0 : Int32) then (0 : Int32) else (1 : Int32))), (.int ((1 : Int32) + ((p5 &&& (2147483647 : Int32)) % (144000 : Int32)))), (.ref s18), (.ref s12), (.ref s24), (.ref b45), (.ref b45)])) t
    refine st57.trans ?_
    show Steps p.tables e below (T57.setTop (mkF m 180 #[.val (.int p0), .val (.int p1), .val (.int p2), .val (.int p3), .val (.int p4), .val (.int p5), .val (.int (if (p4 &&& (1 : Int32)) = (0 : Int32) then p1 else p0)), .val (.int (if (p4 &&& (2 : Int32)) = (0 : Int32) then p3 else p2)), .val (.ref s12), .val (.ref s15), .val (.ref s18), .val (.ref s21), .val (.ref s24), .val (.ref s27), .val (.int ((1 : Int32) + ((p5 &&& (2147483647 : Int32)) % (144000 : Int32)))), .val (.int ((1 : Int32) + (((p5 ^^^ p4) &&& (2147483647 : Int32)) % (144000 : Int32)))), .val (.int (if (fn_same p0 (if (p4 &&& (1 : Int32)) = (0 : Int32) then p1 else p0)) = (0 : Int32) then (0 : Int32) else (if (fn_same p2 (if (p4 &&& (2 : Int32)) = (0 : Int32) then p3 else p2)) = (0 : Int32) then (0 : Int32) else (1 : Int32)))), .unset, .unset, .unset, .unset] [(.ref b45)])) t
    refine XS.astore X57.here hx rfl (hb hby at_180) rfl rfl (l' := #[.val (.int p0), .val (.int p1), .val (.int p2), .val (.int p3), .val (.int p4), .val (.int p5), .val (.int (if (p4 &&& (1 : Int32)) = (0 : Int32) then p1 else p0)), .val (.int (if (p4 &&& (2 : Int32)) = (0 : Int32) then p3 else p2)), .val (.ref s12), .val (.ref s15), .val (.ref s18), .val (.ref s21), .val (.ref s24), .val (.ref s27), .val (.int ((1 : Int32) + ((p5 &&& (2147483647 : Int32)) % (144000 : Int32)))), .val (.int ((1 : Int32) + (((p5 ^^^ p4) &&& (2147483647 : Int32)) % (144000 : Int32)))), .val (.int (if (fn_same p0 (if (p4 &&& (1 : Int32)) = (0 : Int32) then p1 else p0)) = (0 : Int32) then (0 : Int32) else (if (fn_same p2 (if (p4 &&& (2 : Int32)) = (0 : Int32) then p3 else p2)) = (0 : Int32) then (0 : Int32) else (1 : Int32)))), .val (.ref b45), .unset, .unset, .unset]) rfl ?_
    show Steps p.tables e below (T57.setTop (mkF m 182 #[.val (.int p0), .val (.int p1), .val (.int p2), .val (.int p3), .val (.int p4), .val (.int p5), .val (.int (if (p4 &&& (1 : Int32)) = (0 : Int32) then p1 else p0)), .val (.int (if (p4 &&& (2 : Int32)) = (0 : Int32) then p3 else p2)), .val (.ref s12), .val (.ref s15), .val (.ref s18), .val (.ref s21), .val (.ref s24), .val (.ref s27), .val (.int ((1 : Int32) + ((p5 &&& (2147483647 : Int32)) % (144000 : Int32)))), .val (.int ((1 : Int32) + (((p5 ^^^ p4) &&& (2147483647 : Int32)) % (144000 : Int32)))), .val (.int (if (fn_same p0 (if (p4 &&& (1 : Int32)) = (0 : Int32) then p1 else p0)) = (0 : Int32) then (0 : Int32) else (if (fn_same p2 (if (p4 &&& (2 : Int32)) = (0 : Int32) then p3 else p2)) = (0 : Int32) then (0 : Int32) else (1 : Int32)))), .val (.ref b45), .unset, .unset, .unset] [])) t
    refine st59 _ ?_
    show Steps p.tables e below (T59.setTop (mkF m 185 #[.val (.int p0), .val (.int p1), .val (.int p2), .val (.int p3), .val (.int p4), .val (.int p5), .val (.int (if (p4 &&& (1 : Int32)) = (0 : Int32) then p1 else p0)), .val (.int (if (p4 &&& (2 : Int32)) = (0 : Int32) then p3 else p2)), .val (.ref s12), .val (.ref s15), .val (.ref s18), .val (.ref s21), .val (.ref s24), .val (.ref s27), .val (.int ((1 : Int32) + ((p5 &&& (2147483647 : Int32)) % (144000 : Int32)))), .val (.int ((1 : Int32) + (((p5 ^^^ p4) &&& (2147483647 : Int32)) % (144000 : Int32)))), .val (.int (if (fn_same p0 (if (p4 &&& (1 : Int32)) = (0 : Int32) then p1 else p0)) = (0 : Int32) then (0 : Int32) else (if (fn_same p2 (if (p4 &&& (2 : Int32)) = (0 : Int32) then p3 else p2)) = (0 : Int32) then (0 : Int32) else (1 : Int32)))), .val (.ref b45), .unset, .unset, .unset] [(.ref b59)])) t
    refine XS.dup X59.here hx rfl (hb hby at_185) rfl rfl ?_
    show Steps p.tables e below (T59.setTop (mkF m 186 #[.val (.int p0), .val (.int p1), .val (.int p2), .val (.int p3), .val (.int p4), .val (.int p5), .val (.int (if (p4 &&& (1 : Int32)) = (0 : Int32) then p1 else p0)), .val (.int (if (p4 &&& (2 : Int32)) = (0 : Int32) then p3 else p2)), .val (.ref s12), .val (.ref s15), .val (.ref s18), .val (.ref s21), .val (.ref s24), .val (.ref s27), .val (.int ((1 : Int32) + ((p5 &&& (2147483647 : Int32)) % (144000 : Int32)))), .val (.int ((1 : Int32) + (((p5 ^^^ p4) &&& (2147483647 : Int32)) % (144000 : Int32)))), .val (.int (if (fn_same p0 (if (p4 &&& (1 : Int32)) = (0 : Int32) then p1 else p0)) = (0 : Int32) then (0 : Int32) else (if (fn_same p2 (if (p4 &&& (2 : Int32)) = (0 : Int32) then p3 else p2)) = (0 : Int32) then (0 : Int32) else (1 : Int32)))), .val (.ref b45), .unset, .unset, .unset] [(.ref b59), (.ref b59)])) t
    refine XS.aload X59.here hx rfl (hb hby at_186) rfl rfl ?_
    show Steps p.tables e below (T59.setTop (mkF m 188 #[.val (.int p0), .val (.int p1), .val (.int p2), .val (.int p3), .val (.int p4), .val (.int p5), .val (.int (if (p4 &&& (1 : Int32)) = (0 : Int32) then p1 else p0)), .val (.int (if (p4 &&& (2 : Int32)) = (0 : Int32) then p3 else p2)), .val (.ref s12), .val (.ref s15), .val (.ref s18), .val (.ref s21), .val (.ref s24), .val (.ref s27), .val (.int ((1 : Int32) + ((p5 &&& (2147483647 : Int32)) % (144000 : Int32)))), .val (.int ((1 : Int32) + (((p5 ^^^ p4) &&& (2147483647 : Int32)) % (144000 : Int32)))), .val (.int (if (fn_same p0 (if (p4 &&& (1 : Int32)) = (0 : Int32) then p1 else p0)) = (0 : Int32) then (0 : Int32) else (if (fn_same p2 (if (p4 &&& (2 : Int32)) = (0 : Int32) then p3 else p2)) = (0 : Int32) then (0 : Int32) else (1 : Int32)))), .val (.ref b45), .unset, .unset, .unset] [(.ref s27), (.ref b59), (.ref b59)])) t
    refine XS.aload X59.here hx rfl (hb hby at_188) rfl rfl ?_
    show Steps p.tables e below (T59.setTop (mkF m 190 #[.val (.int p0), .val (.int p1), .val (.int p2), .val (.int p3), .val (.int p4), .val (.int p5), .val (.int (if (p4 &&& (1 : Int32)) = (0 : Int32) then p1 else p0)), .val (.int (if (p4 &&& (2 : Int32)) = (0 : Int32) then p3 else p2)), .val (.ref s12), .val (.ref s15), .val (.ref s18), .val (.ref s21), .val (.ref s24), .val (.ref s27), .val (.int ((1 : Int32) + ((p5 &&& (2147483647 : Int32)) % (144000 : Int32)))), .val (.int ((1 : Int32) + (((p5 ^^^ p4) &&& (2147483647 : Int32)) % (144000 : Int32)))), .val (.int (if (fn_same p0 (if (p4 &&& (1 : Int32)) = (0 : Int32) then p1 else p0)) = (0 : Int32) then (0 : Int32) else (if (fn_same p2 (if (p4 &&& (2 : Int32)) = (0 : Int32) then p3 else p2)) = (0 : Int32) then (0 : Int32) else (1 : Int32)))), .val (.ref b45), .unset, .unset, .unset] [(.ref s15), (.ref s27), (.ref b59), (.ref b59)])) t
    refine XS.aload X59.here hx rfl (hb hby at_190) rfl rfl ?_
    show Steps p.tables e below (T59.setTop (mkF m 192 #[.val (.int p0), .val (.int p1), .val (.int p2), .val (.int p3), .val (.int p4), .val (.int p5), .val (.int (if (p4 &&& (1 : Int32)) = (0 : Int32) then p1 else p0)), .val (.int (if (p4 &&& (2 : Int32)) = (0 : Int32) then p3 else p2)), .val (.ref s12), .val (.ref s15), .val (.ref s18), .val (.ref s21), .val (.ref s24), .val (.ref s27), .val (.int ((1 : Int32) + ((p5 &&& (2147483647 : Int32)) % (144000 : Int32)))), .val (.int ((1 : Int32) + (((p5 ^^^ p4) &&& (2147483647 : Int32)) % (144000 : Int32)))), .val (.int (if (fn_same p0 (if (p4 &&& (1 : Int32)) = (0 : Int32) then p1 else p0)) = (0 : Int32) then (0 : Int32) else (if (fn_same p2 (if (p4 &&& (2 : Int32)) = (0 : Int32) then p3 else p2)) = (0 : Int32) then (0 : Int32) else (1 : Int32)))), .val (.ref b45), .unset, .unset, .unset] [(.ref s21), (.ref s15), (.ref s27), (.ref b59), (.ref b59)])) t
    refine XS.iload X59.here hx rfl (hb hby at_192) rfl ?_
    show Steps p.tables e below (T59.setTop (mkF m 194 #[.val (.int p0), .val (.int p1), .val (.int p2), .val (.int p3), .val (.int p4), .val (.int p5), .val (.int (if (p4 &&& (1 : Int32)) = (0 : Int32) then p1 else p0)), .val (.int (if (p4 &&& (2 : Int32)) = (0 : Int32) then p3 else p2)), .val (.ref s12), .val (.ref s15), .val (.ref s18), .val (.ref s21), .val (.ref s24), .val (.ref s27), .val (.int ((1 : Int32) + ((p5 &&& (2147483647 : Int32)) % (144000 : Int32)))), .val (.int ((1 : Int32) + (((p5 ^^^ p4) &&& (2147483647 : Int32)) % (144000 : Int32)))), .val (.int (if (fn_same p0 (if (p4 &&& (1 : Int32)) = (0 : Int32) then p1 else p0)) = (0 : Int32) then (0 : Int32) else (if (fn_same p2 (if (p4 &&& (2 : Int32)) = (0 : Int32) then p3 else p2)) = (0 : Int32) then (0 : Int32) else (1 : Int32)))), .val (.ref b45), .unset, .unset, .unset] [(.int ((1 : Int32) + (((p5 ^^^ p4) &&& (2147483647 : Int32)) % (144000 : Int32)))), (.ref s21), (.ref s15), (.ref s27), (.ref b59), (.ref b59)])) t
    refine XS.iload X59.here hx rfl (hb hby at_194) rfl ?_
    show Steps p.tables e below (T59.setTop (mkF m 196 #[.val (.int p0), .val (.int p1), .val (.int p2), .val (.int p3), .val (.int p4), .val (.int p5), .val (.int (if (p4 &&& (1 : Int32)) = (0 : Int32) then p1 else p0)), .val (.int (if (p4 &&& (2 : Int32)) = (0 : Int32) then p3 else p2)), .val (.ref s12), .val (.ref s15), .val (.ref s18), .val (.ref s21), .val (.ref s24), .val (.ref s27), .val (.int ((1 : Int32) + ((p5 &&& (2147483647 : Int32)) % (144000 : Int32)))), .val (.int ((1 : Int32) + (((p5 ^^^ p4) &&& (2147483647 : Int32)) % (144000 : Int32)))), .val (.int (if (fn_same p0 (if (p4 &&& (1 : Int32)) = (0 : Int32) then p1 else p0)) = (0 : Int32) then (0 : Int32) else (if (fn_same p2 (if (p4 &&& (2 : Int32)) = (0 : Int32) then p3 else p2)) = (0 : Int32) then (0 : Int32) else (1 : Int32)))), .val (.ref b45), .unset, .unset, .unset] [(.int p4), (.int ((1 : Int32) + (((p5 ^^^ p4) &&& (2147483647 : Int32)) % (144000 : Int32)))), (.ref s21), (.ref s15), (.ref s27), (.ref b59), (.ref b59)])) t
    refine XS.bipush X59.here hx rfl (hb hby at_196) ?_
    show Steps p.tables e below (T59.setTop (mkF m 198 #[.val (.int p0), .val (.int p1), .val (.int p2), .val (.int p3), .val (.int p4), .val (.int p5), .val (.int (if (p4 &&& (1 : Int32)) = (0 : Int32) then p1 else p0)), .val (.int (if (p4 &&& (2 : Int32)) = (0 : Int32) then p3 else p2)), .val (.ref s12), .val (.ref s15), .val (.ref s18), .val (.ref s21), .val (.ref s24), .val (.ref s27), .val (.int ((1 : Int32) + ((p5 &&& (2147483647 : Int32)) % (144000 : Int32)))), .val (.int ((1 : Int32) + (((p5 ^^^ p4) &&& (2147483647 : Int32)) % (144000 : Int32)))), .val (.int (if (fn_same p0 (if (p4 &&& (1 : Int32)) = (0 : Int32) then p1 else p0)) = (0 : Int32) then (0 : Int32) else (if (fn_same p2 (if (p4 &&& (2 : Int32)) = (0 : Int32) then p3 else p2)) = (0 : Int32) then (0 : Int32) else (1 : Int32)))), .val (.ref b45), .unset, .unset, .unset] [(.int (16 : Int32)), (.int p4), (.int ((1 : Int32) + (((p5 ^^^ p4) &&& (2147483647 : Int32)) % (144000 : Int32)))), (.ref s21), (.ref s15), (.ref s27), (.ref b59), (.ref b59)])) t
    refine XS.iand X59.here hx rfl (hb hby at_198) rfl ?_
    exact k)
  obtain ⟨T62, LL62, X62, N62, e62, pre62⟩ : ∃ (T : State) (LL : List Loc), Stand p l e room_1 (s.setVm T21.vm) m #[(.int p0), (.int p1), (.int p2), (.int p3), (.int p4), (.int p5)] below meth c T LL (30) (70) ∧ Fr n0 LL ∧ T.heap = h59 ∧ ∀ t, Steps p.tables e below (T.setTop (mkF m 207 #[.val (.int p0), .val (.int p1), .val (.int p2), .val (.int p3), .val (.int p4), .val (.int p5), .val (.int (if (p4 &&& (1 : Int32)) = (0 : Int32) then p1 else p0)), .val (.int (if (p4 &&& (2 : Int32)) = (0 : Int32) then p3 else p2)), .val (.ref s12), .val (.ref s15), .val (.ref s18), .val (.ref s21), .val (.ref s24), .val (.ref s27), .val (.int ((1 : Int32) + ((p5 &&& (2147483647 : Int32)) % (144000 : Int32)))), .val (.int ((1 : Int32) + (((p5 ^^^ p4) &&& (2147483647 : Int32)) % (144000 : Int32)))), .val (.int (if (fn_same p0 (if (p4 &&& (1 : Int32)) = (0 : Int32) then p1 else p0)) = (0 : Int32) then (0 : Int32) else (if (fn_same p2 (if (p4 &&& (2 : Int32)) = (0 : Int32) then p3 else p2)) = (0 : Int32) then (0 : Int32) else (1 : Int32)))), .val (.ref b45), .unset, .unset, .unset] [(.int (if (p4 &&& (16 : Int32)) = (0 : Int32) then (0 : Int32) else (1 : Int32))), (.int ((1 : Int32) + (((p5 ^^^ p4) &&& (2147483647 : Int32)) % (144000 : Int32)))), (.ref s21), (.ref s15), (.ref s27), (.ref b59), (.ref b59)])) t → Steps p.tables e below (s₁.setTop (entryFrame m #[(.int p0), (.int p1), (.int p2), (.int p3), (.int p4), (.int p5)] maxLocals)) t := by
    by_cases hc63 : (p4 &&& (16 : Int32)) = (0 : Int32)
    · have pre64 : ∀ t, Steps p.tables e below (T59.setTop (mkF m 207 #[.val (.int p0), .val (.int p1), .val (.int p2), .val (.int p3), .val (.int p4), .val (.int p5), .val (.int (if (p4 &&& (1 : Int32)) = (0 : Int32) then p1 else p0)), .val (.int (if (p4 &&& (2 : Int32)) = (0 : Int32) then p3 else p2)), .val (.ref s12), .val (.ref s15), .val (.ref s18), .val (.ref s21), .val (.ref s24), .val (.ref s27), .val (.int ((1 : Int32) + ((p5 &&& (2147483647 : Int32)) % (144000 : Int32)))), .val (.int ((1 : Int32) + (((p5 ^^^ p4) &&& (2147483647 : Int32)) % (144000 : Int32)))), .val (.int (if (fn_same p0 (if (p4 &&& (1 : Int32)) = (0 : Int32) then p1 else p0)) = (0 : Int32) then (0 : Int32) else (if (fn_same p2 (if (p4 &&& (2 : Int32)) = (0 : Int32) then p3 else p2)) = (0 : Int32) then (0 : Int32) else (1 : Int32)))), .val (.ref b45), .unset, .unset, .unset] [(.int (0 : Int32)), (.int ((1 : Int32) + (((p5 ^^^ p4) &&& (2147483647 : Int32)) % (144000 : Int32)))), (.ref s21), (.ref s15), (.ref s27), (.ref b59), (.ref b59)])) t → Steps p.tables e below (s₁.setTop (entryFrame m #[(.int p0), (.int p1), (.int p2), (.int p3), (.int p4), (.int p5)] maxLocals)) t := fun t k => pre61 t (by
        show Steps p.tables e below (T59.setTop (mkF m 199 #[.val (.int p0), .val (.int p1), .val (.int p2), .val (.int p3), .val (.int p4), .val (.int p5), .val (.int (if (p4 &&& (1 : Int32)) = (0 : Int32) then p1 else p0)), .val (.int (if (p4 &&& (2 : Int32)) = (0 : Int32) then p3 else p2)), .val (.ref s12), .val (.ref s15), .val (.ref s18), .val (.ref s21), .val (.ref s24), .val (.ref s27), .val (.int ((1 : Int32) + ((p5 &&& (2147483647 : Int32)) % (144000 : Int32)))), .val (.int ((1 : Int32) + (((p5 ^^^ p4) &&& (2147483647 : Int32)) % (144000 : Int32)))), .val (.int (if (fn_same p0 (if (p4 &&& (1 : Int32)) = (0 : Int32) then p1 else p0)) = (0 : Int32) then (0 : Int32) else (if (fn_same p2 (if (p4 &&& (2 : Int32)) = (0 : Int32) then p3 else p2)) = (0 : Int32) then (0 : Int32) else (1 : Int32)))), .val (.ref b45), .unset, .unset, .unset] [(.int (p4 &&& (16 : Int32))), (.int ((1 : Int32) + (((p5 ^^^ p4) &&& (2147483647 : Int32)) % (144000 : Int32)))), (.ref s21), (.ref s15), (.ref s27), (.ref b59), (.ref b59)])) t
        refine XS.ifYes X59.here hx rfl (pc0 := 199) (pc' := 206) rfl (hb hby at_199) rfl ((if0 _ _).trans (teq hc63).1) (by decide) (by decide) ?_
        show Steps p.tables e below (T59.setTop (mkF m 206 #[.val (.int p0), .val (.int p1), .val (.int p2), .val (.int p3), .val (.int p4), .val (.int p5), .val (.int (if (p4 &&& (1 : Int32)) = (0 : Int32) then p1 else p0)), .val (.int (if (p4 &&& (2 : Int32)) = (0 : Int32) then p3 else p2)), .val (.ref s12), .val (.ref s15), .val (.ref s18), .val (.ref s21), .val (.ref s24), .val (.ref s27), .val (.int ((1 : Int32) + ((p5 &&& (2147483647 : Int32)) % (144000 : Int32)))), .val (.int ((1 : Int32) + (((p5 ^^^ p4) &&& (2147483647 : Int32)) % (144000 : Int32)))), .val (.int (if (fn_same p0 (if (p4 &&& (1 : Int32)) = (0 : Int32) then p1 else p0)) = (0 : Int32) then (0 : Int32) else (if (fn_same p2 (if (p4 &&& (2 : Int32)) = (0 : Int32) then p3 else p2)) = (0 : Int32) then (0 : Int32) else (1 : Int32)))), .val (.ref b45), .unset, .unset, .unset] [(.int ((1 : Int32) + (((p5 ^^^ p4) &&& (2147483647 : Int32)) % (144000 : Int32)))), (.ref s21), (.ref s15), (.ref s27), (.ref b59), (.ref b59)])) t
        refine XS.iconst X59.here hx rfl (hb hby at_206) ?_
        exact k)
      exact ⟨T59, _, X59, N57, e59, fun t k => pre64 t (by simp only [if_pos hc63] at k; exact k)⟩
    · have pre65 : ∀ t, Steps p.tables e below (T59.setTop (mkF m 207 #[.val (.int p0), .val (.int p1), .val (.int p2), .val (.int p3), .val (.int p4), .val (.int p5), .val (.int (if (p4 &&& (1 : Int32)) = (0 : Int32) then p1 else p0)), .val (.int (if (p4 &&& (2 : Int32)) = (0 : Int32) then p3 else p2)), .val (.ref s12), .val (.ref s15), .val (.ref s18), .val (.ref s21), .val (.ref s24), .val (.ref s27), .val (.int ((1 : Int32) + ((p5 &&& (2147483647 : Int32)) % (144000 : Int32)))), .val (.int ((1 : Int32) + (((p5 ^^^ p4) &&& (2147483647 : Int32)) % (144000 : Int32)))), .val (.int (if (fn_same p0 (if (p4 &&& (1 : Int32)) = (0 : Int32) then p1 else p0)) = (0 : Int32) then (0 : Int32) else (if (fn_same p2 (if (p4 &&& (2 : Int32)) = (0 : Int32) then p3 else p2)) = (0 : Int32) then (0 : Int32) else (1 : Int32)))), .val (.ref b45), .unset, .unset, .unset] [(.int (1 : Int32)), (.int ((1 : Int32) + (((p5 ^^^ p4) &&& (2147483647 : Int32)) % (144000 : Int32)))), (.ref s21), (.ref s15), (.ref s27), (.ref b59), (.ref b59)])) t → Steps p.tables e below (s₁.setTop (entryFrame m #[(.int p0), (.int p1), (.int p2), (.int p3), (.int p4), (.int p5)] maxLocals)) t := fun t k => pre61 t (by
        show Steps p.tables e below (T59.setTop (mkF m 199 #[.val (.int p0), .val (.int p1), .val (.int p2), .val (.int p3), .val (.int p4), .val (.int p5), .val (.int (if (p4 &&& (1 : Int32)) = (0 : Int32) then p1 else p0)), .val (.int (if (p4 &&& (2 : Int32)) = (0 : Int32) then p3 else p2)), .val (.ref s12), .val (.ref s15), .val (.ref s18), .val (.ref s21), .val (.ref s24), .val (.ref s27), .val (.int ((1 : Int32) + ((p5 &&& (2147483647 : Int32)) % (144000 : Int32)))), .val (.int ((1 : Int32) + (((p5 ^^^ p4) &&& (2147483647 : Int32)) % (144000 : Int32)))), .val (.int (if (fn_same p0 (if (p4 &&& (1 : Int32)) = (0 : Int32) then p1 else p0)) = (0 : Int32) then (0 : Int32) else (if (fn_same p2 (if (p4 &&& (2 : Int32)) = (0 : Int32) then p3 else p2)) = (0 : Int32) then (0 : Int32) else (1 : Int32)))), .val (.ref b45), .unset, .unset, .unset] [(.int (p4 &&& (16 : Int32))), (.int ((1 : Int32) + (((p5 ^^^ p4) &&& (2147483647 : Int32)) % (144000 : Int32)))), (.ref s21), (.ref s15), (.ref s27), (.ref b59), (.ref b59)])) t
        refine XS.ifNo X59.here hx rfl (hb hby at_199) rfl ((if0 _ _).trans (feq hc63).1) ?_
        show Steps p.tables e below (T59.setTop (mkF m 202 #[.val (.int p0), .val (.int p1), .val (.int p2), .val (.int p3), .val (.int p4), .val (.int p5), .val (.int (if (p4 &&& (1 : Int32)) = (0 : Int32) then p1 else p0)), .val (.int (if (p4 &&& (2 : Int32)) = (0 : Int32) then p3 else p2)), .val (.ref s12), .val (.ref s15), .val (.ref s18), .val (.ref s21), .val (.ref s24), .val (.ref s27), .val (.int ((1 : Int32) + ((p5 &&& (2147483647 : Int32)) % (144000 : Int32)))), .val (.int ((1 : Int32) + (((p5 ^^^ p4) &&& (2147483647 : Int32)) % (144000 : Int32)))), .val (.int (if (fn_same p0 (if (p4 &&& (1 : Int32)) = (0 : Int32) then p1 else p0)) = (0 : Int32) then (0 : Int32) else (if (fn_same p2 (if (p4 &&& (2 : Int32)) = (0 : Int32) then p3 else p2)) = (0 : Int32) then (0 : Int32) else (1 : Int32)))), .val (.ref b45), .unset, .unset, .unset] [(.int ((1 : Int32) + (((p5 ^^^ p4) &&& (2147483647 : Int32)) % (144000 : Int32)))), (.ref s21), (.ref s15), (.ref s27), (.ref b59), (.ref b59)])) t
        refine XS.iconst X59.here hx rfl (hb hby at_202) ?_
        show Steps p.tables e below (T59.setTop (mkF m 203 #[.val (.int p0), .val (.int p1), .val (.int p2), .val (.int p3), .val (.int p4), .val (.int p5), .val (.int (if (p4 &&& (1 : Int32)) = (0 : Int32) then p1 else p0)), .val (.int (if (p4 &&& (2 : Int32)) = (0 : Int32) then p3 else p2)), .val (.ref s12), .val (.ref s15), .val (.ref s18), .val (.ref s21), .val (.ref s24), .val (.ref s27), .val (.int ((1 : Int32) + ((p5 &&& (2147483647 : Int32)) % (144000 : Int32)))), .val (.int ((1 : Int32) + (((p5 ^^^ p4) &&& (2147483647 : Int32)) % (144000 : Int32)))), .val (.int (if (fn_same p0 (if (p4 &&& (1 : Int32)) = (0 : Int32) then p1 else p0)) = (0 : Int32) then (0 : Int32) else (if (fn_same p2 (if (p4 &&& (2 : Int32)) = (0 : Int32) then p3 else p2)) = (0 : Int32) then (0 : Int32) else (1 : Int32)))), .val (.ref b45), .unset, .unset, .unset] [(.int (1 : Int32)), (.int ((1 : Int32) + (((p5 ^^^ p4) &&& (2147483647 : Int32)) % (144000 : Int32)))), (.ref s21), (.ref s15), (.ref s27), (.ref b59), (.ref b59)])) t
        refine XS.goto X59.here hx rfl (pc0 := 203) (pc' := 207) rfl (hb hby at_203) (by decide) (by decide) ?_
        exact k)
      exact ⟨T59, _, X59, N57, e59, fun t k => pre65 t (by simp only [if_neg hc63] at k; exact k)⟩
  have pre66 : ∀ t, Steps p.tables e below (T62.setTop (mkF m 212 #[.val (.int p0), .val (.int p1), .val (.int p2), .val (.int p3), .val (.int p4), .val (.int p5), .val (.int (if (p4 &&& (1 : Int32)) = (0 : Int32) then p1 else p0)), .val (.int (if (p4 &&& (2 : Int32)) = (0 : Int32) then p3 else p2)), .val (.ref s12), .val (.ref s15), .val (.ref s18), .val (.ref s21), .val (.ref s24), .val (.ref s27), .val (.int ((1 : Int32) + ((p5 &&& (2147483647 : Int32)) % (144000 : Int32)))), .val (.int ((1 : Int32) + (((p5 ^^^ p4) &&& (2147483647 : Int32)) % (144000 : Int32)))), .val (.int (if (fn_same p0 (if (p4 &&& (1 : Int32)) = (0 : Int32) then p1 else p0)) = (0 : Int32) then (0 : Int32) else (if (fn_same p2 (if (p4 &&& (2 : Int32)) = (0 : Int32) then p3 else p2)) = (0 : Int32) then (0 : Int32) else (1 : Int32)))), .val (.ref b45), .unset, .unset, .unset] [(.int (p4 &&& (32 : Int32))), (.int (if (p4 &&& (16 : Int32)) = (0 : Int32) then (0 : Int32) else (1 : Int32))), (.int ((1 : Int32) + (((p5 ^^^ p4) &&& (2147483647 : Int32)) % (144000 : Int32)))), (.ref s21), (.ref s15), (.ref s27), (.ref b59), (.ref b59)])) t → Steps p.tables e below (s₁.setTop (entryFrame m #[(.int p0), (.int p1), (.int p2), (.int p3), (.int p4), (.int p5)] maxLocals)) t := fun t k => pre62 t (by
    show Steps p.tables e below (T62.setTop (mkF m 207 #[.val (.int p0), .val (.int p1), .val (.int p2), .val (.int p3), .val (.int p4), .val (.int p5), .val (.int (if (p4 &&& (1 : Int32)) = (0 : Int32) then p1 else p0)), .val (.int (if (p4 &&& (2 : Int32)) = (0 : Int32) then p3 else p2)), .val (.ref s12), .val (.ref s15), .val (.ref s18), .val (.ref s21), .val (.ref s24), .val (.ref s27), .val (.int ((1 : Int32) + ((p5 &&& (2147483647 : Int32)) % (144000 : Int32)))), .val (.int ((1 : Int32) + (((p5 ^^^ p4) &&& (2147483647 : Int32)) % (144000 : Int32)))), .val (.int (if (fn_same p0 (if (p4 &&& (1 : Int32)) = (0 : Int32) then p1 else p0)) = (0 : Int32) then (0 : Int32) else (if (fn_same p2 (if (p4 &&& (2 : Int32)) = (0 : Int32) then p3 else p2)) = (0 : Int32) then (0 : Int32) else (1 : Int32)))), .val (.ref b45), .unset, .unset, .unset] [(.int (if (p4 &&& (16 : Int32)) = (0 : Int32) then (0 : Int32) else (1 : Int32))), (.int ((1 : Int32) + (((p5 ^^^ p4) &&& (2147483647 : Int32)) % (144000 : Int32)))), (.ref s21), (.ref s15), (.ref s27), (.ref b59), (.ref b59)])) t
    refine XS.iload X62.here hx rfl (hb hby at_207) rfl ?_
    show Steps p.tables e below (T62.setTop (mkF m 209 #[.val (.int p0), .val (.int p1), .val (.int p2), .val (.int p3), .val (.int p4), .val (.int p5), .val (.int (if (p4 &&& (1 : Int32)) = (0 : Int32) then p1 else p0)), .val (.int (if (p4 &&& (2 : Int32)) = (0 : Int32) then p3 else p2)), .val (.ref s12), .val (.ref s15), .val (.ref s18), .val (.ref s21), .val (.ref s24), .val (.ref s27), .val (.int ((1 : Int32) + ((p5 &&& (2147483647 : Int32)) % (144000 : Int32)))), .val (.int ((1 : Int32) + (((p5 ^^^ p4) &&& (2147483647 : Int32)) % (144000 : Int32)))), .val (.int (if (fn_same p0 (if (p4 &&& (1 : Int32)) = (0 : Int32) then p1 else p0)) = (0 : Int32) then (0 : Int32) else (if (fn_same p2 (if (p4 &&& (2 : Int32)) = (0 : Int32) then p3 else p2)) = (0 : Int32) then (0 : Int32) else (1 : Int32)))), .val (.ref b45), .unset, .unset, .unset] [(.int p4), (.int (if (p4 &&& (16 : Int32)) = (0 : Int32) then (0 : Int32) else (1 : Int32))), (.int ((1 : Int32) + (((p5 ^^^ p4) &&& (2147483647 : Int32)) % (144000 : Int32)))), (.ref s21), (.ref s15), (.ref s27), (.ref b59), (.ref b59)])) t
    refine XS.bipush X62.here hx rfl (hb hby at_209) ?_
    show Steps p.tables e below (T62.setTop (mkF m 211 #[.val (.int p0), .val (.int p1), .val (.int p2), .val (.int p3), .val (.int p4), .val (.int p5), .val (.int (if (p4 &&& (1 : Int32)) = (0 : Int32) then p1 else p0)), .val (.int (if (p4 &&& (2 : Int32)) = (0 : Int32) then p3 else p2)), .val (.ref s12), .val (.ref s15), .val (.ref s18), .val (.ref s21), .val (.ref s24), .val (.ref s27), .val (.int ((1 : Int32) + ((p5 &&& (2147483647 : Int32)) % (144000 : Int32)))), .val (.int ((1 : Int32) + (((p5 ^^^ p4) &&& (2147483647 : Int32)) % (144000 : Int32)))), .val (.int (if (fn_same p0 (if (p4 &&& (1 : Int32)) = (0 : Int32) then p1 else p0)) = (0 : Int32) then (0 : Int32) else (if (fn_same p2 (if (p4 &&& (2 : Int32)) = (0 : Int32) then p3 else p2)) = (0 : Int32) then (0 : Int32) else (1 : Int32)))), .val (.ref b45), .unset, .unset, .unset] [(.int (32 : Int32)), (.int p4), (.int (if (p4 &&& (16 : Int32)) = (0 : Int32) then (0 : Int32) else (1 : Int32))), (.int ((1 : Int32) + (((p5 ^^^ p4) &&& (2147483647 : Int32)) % (144000 : Int32)))), (.ref s21), (.ref s15), (.ref s27), (.ref b59), (.ref b59)])) t
    refine XS.iand X62.here hx rfl (hb hby at_211) rfl ?_
    exact k)
  obtain ⟨T67, LL67, X67, N67, e67, pre67⟩ : ∃ (T : State) (LL : List Loc), Stand p l e room_1 (s.setVm T21.vm) m #[(.int p0), (.int p1), (.int p2), (.int p3), (.int p4), (.int p5)] below meth c T LL (30) (70) ∧ Fr n0 LL ∧ T.heap = h59 ∧ ∀ t, Steps p.tables e below (T.setTop (mkF m 220 #[.val (.int p0), .val (.int p1), .val (.int p2), .val (.int p3), .val (.int p4), .val (.int p5), .val (.int (if (p4 &&& (1 : Int32)) = (0 : Int32) then p1 else p0)), .val (.int (if (p4 &&& (2 : Int32)) = (0 : Int32) then p3 else p2)), .val (.ref s12), .val (.ref s15), .val (.ref s18), .val (.ref s21), .val (.ref s24), .val (.ref s27), .val (.int ((1 : Int32) + ((p5 &&& (2147483647 : Int32)) % (144000 : Int32)))), .val (.int ((1 : Int32) + (((p5 ^^^ p4) &&& (2147483647 : Int32)) % (144000 : Int32)))), .val (.int (if (fn_same p0 (if (p4 &&& (1 : Int32)) = (0 : Int32) then p1 else p0)) = (0 : Int32) then (0 : Int32) else (if (fn_same p2 (if (p4 &&& (2 : Int32)) = (0 : Int32) then p3 else p2)) = (0 : Int32) then (0 : Int32) else (1 : Int32)))), .val (.ref b45), .unset, .unset, .unset] [(.int (if (p4 &&& (32 : Int32)) = (0 : Int32) then (0 : Int32) else (1 : Int32))), (.int (if (p4 &&& (16 : Int32)) = (0 : Int32) then (0 : Int32) else (1 : Int32))), (.int ((1 : Int32) + (((p5 ^^^ p4) &&& (2147483647 : Int32)) % (144000 : Int32)))), (.ref s21), (.ref s15), (.ref s27), (.ref b59), (.ref b59)])) t → Steps p.tables e below (s₁.setTop (entryFrame m #[(.int p0), (.int p1), (.int p2), (.int p3), (.int p4), (.int p5)] maxLocals)) t := by
    by_cases hc68 : (p4 &&& (32 : Int32)) = (0 : Int32)
    · have pre69 : ∀ t, Steps p.tables e below (T62.setTop (mkF m 220 #[.val (.int p0), .val (.int p1), .val (.int p2), .val (.int p3), .val (.int p4), .val (.int p5), .val (.int (if (p4 &&& (1 : Int32)) = (0 : Int32) then p1 else p0)), .val (.int (if (p4 &&& (2 : Int32)) = (0 : Int32) then p3 else p2)), .val (.ref s12), .val (.ref s15), .val (.ref s18), .val (.ref s21), .val (.ref s24), .val (.ref s27), .val (.int ((1 : Int32) + ((p5 &&& (2147483647 : Int32)) % (144000 : Int32)))), .val (.int ((1 : Int32) + (((p5 ^^^ p4) &&& (2147483647 : Int32)) % (144000 : Int32)))), .val (.int (if (fn_same p0 (if (p4 &&& (1 : Int32)) = (0 : Int32) then p1 else p0)) = (0 : Int32) then (0 : Int32) else (if (fn_same p2 (if (p4 &&& (2 : Int32)) = (0 : Int32) then p3 else p2)) = (0 : Int32) then (0 : Int32) else (1 : Int32)))), .val (.ref b45), .unset, .unset, .unset] [(.int (0 : Int32)), (.int (if (p4 &&& (16 : Int32)) = (0 : Int32) then (0 : Int32) else (1 : Int32))), (.int ((1 : Int32) + (((p5 ^^^ p4) &&& (2147483647 : Int32)) % (144000 : Int32)))), (.ref s21), (.ref s15), (.ref s27), (.ref b59), (.ref b59)])) t → Steps p.tables e below (s₁.setTop (entryFrame m #[(.int p0), (.int p1), (.int p2), (.int p3), (.int p4), (.int p5)] maxLocals)) t := fun t k => pre66 t (by
        show Steps p.tables e below (T62.setTop (mkF m 212 #[.val (.int p0), .val (.int p1), .val (.int p2), .val (.int p3), .val (.int p4), .val (.int p5), .val (.int (if (p4 &&& (1 : Int32)) = (0 : Int32) then p1 else p0)), .val (.int (if (p4 &&& (2 : Int32)) = (0 : Int32) then p3 else p2)), .val (.ref s12), .val (.ref s15), .val (.ref s18), .val (.ref s21), .val (.ref s24), .val (.ref s27), .val (.int ((1 : Int32) + ((p5 &&& (2147483647 : Int32)) % (144000 : Int32)))), .val (.int ((1 : Int32) + (((p5 ^^^ p4) &&& (2147483647 : Int32)) % (144000 : Int32)))), .val (.int (if (fn_same p0 (if (p4 &&& (1 : Int32)) = (0 : Int32) then p1 else p0)) = (0 : Int32) then (0 : Int32) else (if (fn_same p2 (if (p4 &&& (2 : Int32)) = (0 : Int32) then p3 else p2)) = (0 : Int32) then (0 : Int32) else (1 : Int32)))), .val (.ref b45), .unset, .unset, .unset] [(.int (p4 &&& (32 : Int32))), (.int (if (p4 &&& (16 : Int32)) = (0 : Int32) then (0 : Int32) else (1 : Int32))), (.int ((1 : Int32) + (((p5 ^^^ p4) &&& (2147483647 : Int32)) % (144000 : Int32)))), (.ref s21), (.ref s15), (.ref s27), (.ref b59), (.ref b59)])) t
        refine XS.ifYes X62.here hx rfl (pc0 := 212) (pc' := 219) rfl (hb hby at_212) rfl ((if0 _ _).trans (teq hc68).1) (by decide) (by decide) ?_
        show Steps p.tables e below (T62.setTop (mkF m 219 #[.val (.int p0), .val (.int p1), .val (.int p2), .val (.int p3), .val (.int p4), .val (.int p5), .val (.int (if (p4 &&& (1 : Int32)) = (0 : Int32) then p1 else p0)), .val (.int (if (p4 &&& (2 : Int32)) = (0 : Int32) then p3 else p2)), .val (.ref s12), .val (.ref s15), .val (.ref s18), .val (.ref s21), .val (.ref s24), .val (.ref s27), .val (.int ((1 : Int32) + ((p5 &&& (2147483647 : Int32)) % (144000 : Int32)))), .val (.int ((1 : Int32) + (((p5 ^^^ p4) &&& (2147483647 : Int32)) % (144000 : Int32)))), .val (.int (if (fn_same p0 (if (p4 &&& (1 : Int32)) = (0 : Int32) then p1 else p0)) = (0 : Int32) then (0 : Int32) else (if (fn_same p2 (if (p4 &&& (2 : Int32)) = (0 : Int32) then p3 else p2)) = (0 : Int32) then (0 : Int32) else (1 : Int32)))), .val (.ref b45), .unset, .unset, .unset] [(.int (if (p4 &&& (16 : Int32)) = (0 : Int32) then (0 : Int32) else (1 : Int32))), (.int ((1 : Int32) + (((p5 ^^^ p4) &&& (2147483647 : Int32)) % (144000 : Int32)))), (.ref s21), (.ref s15), (.ref s27), (.ref b59), (.ref b59)])) t
        refine XS.iconst X62.here hx rfl (hb hby at_219) ?_
        exact k)
      exact ⟨T62, _, X62, N62, e62, fun t k => pre69 t (by simp only [if_pos hc68] at k; exact k)⟩
    · have pre70 : ∀ t, Steps p.tables e below (T62.setTop (mkF m 220 #[.val (.int p0), .val (.int p1), .val (.int p2), .val (.int p3), .val (.int p4), .val (.int p5), .val (.int (if (p4 &&& (1 : Int32)) = (0 : Int32) then p1 else p0)), .val (.int (if (p4 &&& (2 : Int32)) = (0 : Int32) then p3 else p2)), .val (.ref s12), .val (.ref s15), .val (.ref s18), .val (.ref s21), .val (.ref s24), .val (.ref s27), .val (.int ((1 : Int32) + ((p5 &&& (2147483647 : Int32)) % (144000 : Int32)))), .val (.int ((1 : Int32) + (((p5 ^^^ p4) &&& (2147483647 : Int32)) % (144000 : Int32)))), .val (.int (if (fn_same p0 (if (p4 &&& (1 : Int32)) = (0 : Int32) then p1 else p0)) = (0 : Int32) then (0 : Int32) else (if (fn_same p2 (if (p4 &&& (2 : Int32)) = (0 : Int32) then p3 else p2)) = (0 : Int32) then (0 : Int32) else (1 : Int32)))), .val (.ref b45), .unset, .unset, .unset] [(.int (1 : Int32)), (.int (if (p4 &&& (16 : Int32)) = (0 : Int32) then (0 : Int32) else (1 : Int32))), (.int ((1 : Int32) + (((p5 ^^^ p4) &&& (2147483647 : Int32)) % (144000 : Int32)))), (.ref s21), (.ref s15), (.ref s27), (.ref b59), (.ref b59)])) t → Steps p.tables e below (s₁.setTop (entryFrame m #[(.int p0), (.int p1), (.int p2), (.int p3), (.int p4), (.int p5)] maxLocals)) t := fun t k => pre66 t (by
        show Steps p.tables e below (T62.setTop (mkF m 212 #[.val (.int p0), .val (.int p1), .val (.int p2), .val (.int p3), .val (.int p4), .val (.int p5), .val (.int (if (p4 &&& (1 : Int32)) = (0 : Int32) then p1 else p0)), .val (.int (if (p4 &&& (2 : Int32)) = (0 : Int32) then p3 else p2)), .val (.ref s12), .val (.ref s15), .val (.ref s18), .val (.ref s21), .val (.ref s24), .val (.ref s27), .val (.int ((1 : Int32) + ((p5 &&& (2147483647 : Int32)) % (144000 : Int32)))), .val (.int ((1 : Int32) + (((p5 ^^^ p4) &&& (2147483647 : Int32)) % (144000 : Int32)))), .val (.int (if (fn_same p0 (if (p4 &&& (1 : Int32)) = (0 : Int32) then p1 else p0)) = (0 : Int32) then (0 : Int32) else (if (fn_same p2 (if (p4 &&& (2 : Int32)) = (0 : Int32) then p3 else p2)) = (0 : Int32) then (0 : Int32) else (1 : Int32)))), .val (.ref b45), .unset, .unset, .unset] [(.int (p4 &&& (32 : Int32))), (.int (if (p4 &&& (16 : Int32)) = (0 : Int32) then (0 : Int32) else (1 : Int32))), (.int ((1 : Int32) + (((p5 ^^^ p4) &&& (2147483647 : Int32)) % (144000 : Int32)))), (.ref s21), (.ref s15), (.ref s27), (.ref b59), (.ref b59)])) t
        refine XS.ifNo X62.here hx rfl (hb hby at_212) rfl ((if0 _ _).trans (feq hc68).1) ?_
        show Steps p.tables e below (T62.setTop (mkF m 215 #[.val (.int p0), .val (.int p1), .val (.int p2), .val (.int p3), .val (.int p4), .val (.int p5), .val (.int (if (p4 &&& (1 : Int32)) = (0 : Int32) then p1 else p0)), .val (.int (if (p4 &&& (2 : Int32)) = (0 : Int32) then p3 else p2)), .val (.ref s12), .val (.ref s15), .val (.ref s18), .val (.ref s21), .val (.ref s24), .val (.ref s27), .val (.int ((1 : Int32) + ((p5 &&& (2147483647 : Int32)) % (144000 : Int32)))), .val (.int ((1 : Int32) + (((p5 ^^^ p4) &&& (2147483647 : Int32)) % (144000 : Int32)))), .val (.int (if (fn_same p0 (if (p4 &&& (1 : Int32)) = (0 : Int32) then p1 else p0)) = (0 : Int32) then (0 : Int32) else (if (fn_same p2 (if (p4 &&& (2 : Int32)) = (0 : Int32) then p3 else p2)) = (0 : Int32) then (0 : Int32) else (1 : Int32)))), .val (.ref b45), .unset, .unset, .unset] [(.int (if (p4 &&& (16 : Int32)) = (0 : Int32) then (0 : Int32) else (1 : Int32))), (.int ((1 : Int32) + (((p5 ^^^ p4) &&& (2147483647 : Int32)) % (144000 : Int32)))), (.ref s21), (.ref s15), (.ref s27), (.ref b59), (.ref b59)])) t
        refine XS.iconst X62.here hx rfl (hb hby at_215) ?_
        show Steps p.tables e below (T62.setTop (mkF m 216 #[.val (.int p0), .val (.int p1), .val (.int p2), .val (.int p3), .val (.int p4), .val (.int p5), .val (.int (if (p4 &&& (1 : Int32)) = (0 : Int32) then p1 else p0)), .val (.int (if (p4 &&& (2 : Int32)) = (0 : Int32) then p3 else p2)), .val (.ref s12), .val (.ref s15), .val (.ref s18), .val (.ref s21), .val (.ref s24), .val (.ref s27), .val (.int ((1 : Int32) + ((p5 &&& (2147483647 : Int32)) % (144000 : Int32)))), .val (.int ((1 : Int32) + (((p5 ^^^ p4) &&& (2147483647 : Int32)) % (144000 : Int32)))), .val (.int (if (fn_same p0 (if (p4 &&& (1 : Int32)) = (0 : Int32) then p1 else p0)) = (0 : Int32) then (0 : Int32) else (if (fn_same p2 (if (p4 &&& (2 : Int32)) = (0 : Int32) then p3 else p2)) = (0 : Int32) then (0 : Int32) else (1 : Int32)))), .val (.ref b45), .unset, .unset, .unset] [(.int (1 : Int32)), (.int (if (p4 &&& (16 : Int32)) = (0 : Int32) then (0 : Int32) else (1 : Int32))), (.int ((1 : Int32) + (((p5 ^^^ p4) &&& (2147483647 : Int32)) % (144000 : Int32)))), (.ref s21), (.ref s15), (.ref s27), (.ref b59), (.ref b59)])) t
        refine XS.goto X62.here hx rfl (pc0 := 216) (pc' := 220) rfl (hb hby at_216) (by decide) (by decide) ?_
        exact k)
      exact ⟨T62, _, X62, N62, e62, fun t k => pre70 t (by simp only [if_neg hc68] at k; exact k)⟩
  obtain ⟨_, _, ⟨T71, L71, k71, n71⟩, -, X71, ⟨Lc71, hQ71, l71, y71, z71⟩, st71⟩ := X67.specialBack hx (y := (⟨"com/example/cartulary/cartulary/store/Harvester$Settings", "<init>", "(Ljava/lang/String;Ljava/lang/String;Ljava/lang/String;IZZ)V"⟩ : MethodName)) rfl hown (mvT hZ (hw _ (List.mem_of_getElem? (i := 68) rfl))) (mvT hZ (hw _ (List.mem_of_getElem? (i := 69) rfl))) (mvT hZ (hw _ (List.mem_of_getElem? (i := 70) rfl))) (by decide) (backOf (W := 1) (rm_set l Z a0 hw [] b59 s27 s15 s21 ((1 : Int32) + (((p5 ^^^ p4) &&& (2147483647 : Int32)) % (144000 : Int32))) (if (p4 &&& (16 : Int32)) = (0 : Int32) then (0 : Int32) else (1 : Int32)) (if (p4 &&& (32 : Int32)) = (0 : Int32) then (0 : Int32) else (1 : Int32)) h59 n0 Z59 A59 g_b59 F_name_b59 F_url_b59 F_prefix_b59 F_every_b59 F_oneRunOnly_b59 F_active_b59) hZ (hw _ (List.mem_of_getElem? (i := 70) rfl)) (hw _ (List.mem_of_getElem? (i := 67) rfl)) (by decide) (by decide)) (g := (mkF m 220 #[.val (.int p0), .val (.int p1), .val (.int p2), .val (.int p3), .val (.int p4), .val (.int p5), .val (.int (if (p4 &&& (1 : Int32)) = (0 : Int32) then p1 else p0)), .val (.int (if (p4 &&& (2 : Int32)) = (0 : Int32) then p3 else p2)), .val (.ref s12), .val (.ref s15), .val (.ref s18), .val (.ref s21), .val (.ref s24), .val (.ref s27), .val (.int ((1 : Int32) + ((p5 &&& (2147483647 : Int32)) % (144000 : Int32)))), .val (.int ((1 : Int32) + (((p5 ^^^ p4) &&& (2147483647 : Int32)) % (144000 : Int32)))), .val (.int (if (fn_same p0 (if (p4 &&& (1 : Int32)) = (0 : Int32) then p1 else p0)) = (0 : Int32) then (0 : Int32) else (if (fn_same p2 (if (p4 &&& (2 : Int32)) = (0 : Int32) then p3 else p2)) = (0 : Int32) then (0 : Int32) else (1 : Int32)))), .val (.ref b45), .unset, .unset, .unset] [(.int (if (p4 &&& (32 : Int32)) = (0 : Int32) then (0 : Int32) else (1 : Int32))), (.int (if (p4 &&& (16 : Int32)) = (0 : Int32) then (0 : Int32) else (1 : Int32))), (.int ((1 : Int32) + (((p5 ^^^ p4) &&& (2147483647 : Int32)) % (144000 : Int32)))), (.ref s21), (.ref s15), (.ref s27), (.ref b59), (.ref b59)])) rfl (by rw [hml]; rfl) (Steps.refl _) (a := b59) (argsL := [(.ref s27), (.ref s15), (.ref s21), (.int ((1 : Int32) + (((p5 ^^^ p4) &&& (2147483647 : Int32)) % (144000 : Int32)))), (.int (if (p4 &&& (16 : Int32)) = (0 : Int32) then (0 : Int32) else (1 : Int32))), (.int (if (p4 &&& (32 : Int32)) = (0 : Int32) then (0 : Int32) else (1 : Int32)))]) (rest := [(.ref b59)]) (lenOf own_pd16 rfl) rfl (by show 2 * 0 + _ ≤ _; exact Nat.le_of_eq rfl) (hb hby at_220) (fun _ _ => ⟨rfl, e67, (by decide : 30 + 0 ≤ _), (by decide : 70 + 0 ≤ _)⟩)
  dsimp only [Pt.U, Pt.locs, Pt.cells, Pt.slots] at X71 l71 y71 z71 st71 hQ71
  subst l71 y71 z71
  obtain ⟨rfl, Nq71, Kq71, Eq71, Fq71_u, Fq71_p⟩ := hQ71
  have N71 := Fr.app N67 Nq71
  have sf72_b45 := Safe.keep Kq71 (allS sn_b59 all0) hC60 sf60_b45
  have sf72_b59 := Safe.keep Kq71 (allS sn_b59 all0) hC60 sn_b59
  have hr72 := CHr.keep Kq71 (allS sn_b59 all0) hC60
  have hA72 := hA60.trans hr72
  have hC72 := hr72.1
  have hk72 := Nat.le_trans hk60 hr72.2.1
  have od72 := od60.keep Kq71 (allS g_b59 all0)
  have f72_1 := f60_1.keep Kq71
  have f72_2 := f60_2.keep Kq71 (ninS ne_s12_b59 nin0)
  have f72_3 := f60_3.keep Kq71 (ninS ne_s12_b59 nin0)
  have f72_4 := f60_4.keep Kq71 (ninS ne_t12_b59 nin0)
  have f72_5 := f60_5.keep Kq71
  have f72_6 := f60_6.keep Kq71 (ninS ne_s15_b59 nin0)
  have f72_7 := f60_7.keep Kq71 (ninS ne_s15_b59 nin0)
  have f72_8 := f60_8.keep Kq71 (ninS ne_t15_b59 nin0)
  have f72_9 := f60_9.keep Kq71
  have f72_10 := f60_10.keep Kq71 (ninS ne_s18_b59 nin0)
  have f72_11 := f60_11.keep Kq71 (ninS ne_s18_b59 nin0)
  have f72_12 := f60_12.keep Kq71 (ninS ne_t18_b59 nin0)
  have f72_13 := f60_13.keep Kq71
  have f72_14 := f60_14.keep Kq71 (ninS ne_s21_b59 nin0)
  have f72_15 := f60_15.keep Kq71 (ninS ne_s21_b59 nin0)
  have f72_16 := f60_16.keep Kq71 (ninS ne_t21_b59 nin0)
  have f72_17 := f60_17.keep Kq71
  have f72_18 := f60_18.keep Kq71 (ninS ne_s24_b59 nin0)
  have f72_19 := f60_19.keep Kq71 (ninS ne_s24_b59 nin0)
  have f72_20 := f60_20.keep Kq71 (ninS ne_t24_b59 nin0)
  have f72_21 := f60_21.keep Kq71
  have f72_22 := f60_22.keep Kq71 (ninS ne_s27_b59 nin0)
  have f72_23 := f60_23.keep Kq71 (ninS ne_s27_b59 nin0)
  have f72_24 := f60_24.keep Kq71 (ninS ne_t27_b59 nin0)
  have f72_25 := f60_25.keep Kq71
  have f72_26 := f60_26.keep Kq71 (ninS ne_b45_b59 nin0)
  have f72_27 := f60_27.keep Kq71 (ninS ne_b45_b59 nin0)
  have f72_28 := A59.keep Kq71
  have Z71 : n0 ≤ T71.heap.size := Nat.le_trans Z59 Kq71.1
  have pre73 : ∀ t, Steps p.tables e below (T71.setTop (mkF m 229 #[.val (.int p0), .val (.int p1), .val (.int p2), .val (.int p3), .val (.int p4), .val (.int p5), .val (.int (if (p4 &&& (1 : Int32)) = (0 : Int32) then p1 else p0)), .val (.int (if (p4 &&& (2 : Int32)) = (0 : Int32) then p3 else p2)), .val (.ref s12), .val (.ref s15), .val (.ref s18), .val (.ref s21), .val (.ref s24), .val (.ref s27), .val (.int ((1 : Int32) + ((p5 &&& (2147483647 : Int32)) % (144000 : Int32)))), .val (.int ((1 : Int32) + (((p5 ^^^ p4) &&& (2147483647 : Int32)) % (144000 : Int32)))), .val (.int (if (fn_same p0 (if (p4 &&& (1 : Int32)) = (0 : Int32) then p1 else p0)) = (0 : Int32) then (0 : Int32) else (if (fn_same p2 (if (p4 &&& (2 : Int32)) = (0 : Int32) then p3 else p2)) = (0 : Int32) then (0 : Int32) else (1 : Int32)))), .val (.ref b45), .val (.ref b59), .unset, .unset] [(.ref b59), (.ref b45)])) t → Steps p.tables e below (s₁.setTop (entryFrame m #[(.int p0), (.int p1), (.int p2), (.int p3), (.int p4), (.int p5)] maxLocals)) t := fun t k => pre67 t (by
    show Steps p.tables e below (T67.setTop (mkF m 220 #[.val (.int p0), .val (.int p1), .val (.int p2), .val (.int p3), .val (.int p4), .val (.int p5), .val (.int (if (p4 &&& (1 : Int32)) = (0 : Int32) then p1 else p0)), .val (.int (if (p4 &&& (2 : Int32)) = (0 : Int32) then p3 else p2)), .val (.ref s12), .val (.ref s15), .val (.ref s18), .val (.ref s21), .val (.ref s24), .val (.ref s27), .val (.int ((1 : Int32) + ((p5 &&& (2147483647 : Int32)) % (144000 : Int32)))), .val (.int ((1 : Int32) + (((p5 ^^^ p4) &&& (2147483647 : Int32)) % (144000 : Int32)))), .val (.int (if (fn_same p0 (if (p4 &&& (1 : Int32)) = (0 : Int32) then p1 else p0)) = (0 : Int32) then (0 : Int32) else (if (fn_same p2 (if (p4 &&& (2 : Int32)) = (0 : Int32) then p3 else p2)) = (0 : Int32) then (0 : Int32) else (1 : Int32)))), .val (.ref b45), .unset, .unset, .unset] [(.int (if (p4 &&& (32 : Int32)) = (0 : Int32) then (0 : Int32) else (1 : Int32))), (.int (if (p4 &&& (16 : Int32)) = (0 : Int32) then (0 : Int32) else (1 : Int32))), (.int ((1 : Int32) + (((p5 ^^^ p4) &&& (2147483647 : Int32)) % (144000 : Int32)))), (.ref s21), (.ref s15), (.ref s27), (.ref b59), (.ref b59)])) t
    refine st71.trans ?_
    show Steps p.tables e below (T71.setTop (mkF m 223 #[.val (.int p0), .val (.int p1), .val (.int p2), .val (.int p3), .val (.int p4), .val (.int p5), .val (.int (if (p4 &&& (1 : Int32)) = (0 : Int32) then p1 else p0)), .val (.int (if (p4 &&& (2 : Int32)) = (0 : Int32) then p3 else p2)), .val (.ref s12), .val (.ref s15), .val (.ref s18), .val (.ref s21), .val (.ref s24), .val (.ref s27), .val (.int ((1 : Int32) + ((p5 &&& (2147483647 : Int32)) % (144000 : Int32)))), .val (.int ((1 : Int32) + (((p5 ^^^ p4) &&& (2147483647 : Int32)) % (144000 : Int32)))), .val (.int (if (fn_same p0 (if (p4 &&& (1 : Int32)) = (0 : Int32) then p1 else p0)) = (0 : Int32) then (0 : Int32) else (if (fn_same p2 (if (p4 &&& (2 : Int32)) = (0 : Int32) then p3 else p2)) = (0 : Int32) then (0 : Int32) else (1 : Int32)))), .val (.ref b45), .unset, .unset, .unset] [(.ref b59)])) t
    refine XS.astore X71.here hx rfl (hb hby at_223) rfl rfl (l' := #[.val (.int p0), .val (.int p1), .val (.int p2), .val (.int p3), .val (.int p4), .val (.int p5), .val (.int (if (p4 &&& (1 : Int32)) = (0 : Int32) then p1 else p0)), .val (.int (if (p4 &&& (2 : Int32)) = (0 : Int32) then p3 else p2)), .val (.ref s12), .val (.ref s15), .val (.ref s18), .val (.ref s21), .val (.ref s24), .val (.ref s27), .val (.int ((1 : Int32) + ((p5 &&& (2147483647 : Int32)) % (144000 : Int32)))), .val (.int ((1 : Int32) + (((p5 ^^^ p4) &&& (2147483647 : Int32)) % (144000 : Int32)))), .val (.int (if (fn_same p0 (if (p4 &&& (1 : Int32)) = (0 : Int32) then p1 else p0)) = (0 : Int32) then (0 : Int32) else (if (fn_same p2 (if (p4 &&& (2 : Int32)) = (0 : Int32) then p3 else p2)) = (0 : Int32) then (0 : Int32) else (1 : Int32)))), .val (.ref b45), .val (.ref b59), .unset, .unset]) rfl ?_
    show Steps p.tables e below (T71.setTop (mkF m 225 #[.val (.int p0), .val (.int p1), .val (.int p2), .val (.int p3), .val (.int p4), .val (.int p5), .val (.int (if (p4 &&& (1 : Int32)) = (0 : Int32) then p1 else p0)), .val (.int (if (p4 &&& (2 : Int32)) = (0 : Int32) then p3 else p2)), .val (.ref s12), .val (.ref s15), .val (.ref s18), .val (.ref s21), .val (.ref s24), .val (.ref s27), .val (.int ((1 : Int32) + ((p5 &&& (2147483647 : Int32)) % (144000 : Int32)))), .val (.int ((1 : Int32) + (((p5 ^^^ p4) &&& (2147483647 : Int32)) % (144000 : Int32)))), .val (.int (if (fn_same p0 (if (p4 &&& (1 : Int32)) = (0 : Int32) then p1 else p0)) = (0 : Int32) then (0 : Int32) else (if (fn_same p2 (if (p4 &&& (2 : Int32)) = (0 : Int32) then p3 else p2)) = (0 : Int32) then (0 : Int32) else (1 : Int32)))), .val (.ref b45), .val (.ref b59), .unset, .unset] [])) t
    refine XS.aload X71.here hx rfl (hb hby at_225) rfl rfl ?_
    show Steps p.tables e below (T71.setTop (mkF m 227 #[.val (.int p0), .val (.int p1), .val (.int p2), .val (.int p3), .val (.int p4), .val (.int p5), .val (.int (if (p4 &&& (1 : Int32)) = (0 : Int32) then p1 else p0)), .val (.int (if (p4 &&& (2 : Int32)) = (0 : Int32) then p3 else p2)), .val (.ref s12), .val (.ref s15), .val (.ref s18), .val (.ref s21), .val (.ref s24), .val (.ref s27), .val (.int ((1 : Int32) + ((p5 &&& (2147483647 : Int32)) % (144000 : Int32)))), .val (.int ((1 : Int32) + (((p5 ^^^ p4) &&& (2147483647 : Int32)) % (144000 : Int32)))), .val (.int (if (fn_same p0 (if (p4 &&& (1 : Int32)) = (0 : Int32) then p1 else p0)) = (0 : Int32) then (0 : Int32) else (if (fn_same p2 (if (p4 &&& (2 : Int32)) = (0 : Int32) then p3 else p2)) = (0 : Int32) then (0 : Int32) else (1 : Int32)))), .val (.ref b45), .val (.ref b59), .unset, .unset] [(.ref b45)])) t
    refine XS.aload X71.here hx rfl (hb hby at_227) rfl rfl ?_
    exact k)
  obtain ⟨cq74, kq74, q74a, q74b, q74c⟩ := isOf hZ rfl f72_25
  obtain ⟨_, _, ⟨T74, L74, k74, n74⟩, -, X74, ⟨Lc74, hQ74, l74, y74, z74⟩, st74⟩ := X71.virtualBack hx (y := (⟨"com/example/cartulary/cartulary/store/Harvester$Settings", "readsSameListAs", "(Lcom/example/cartulary/cartulary/store/Harvester$Settings;)Z"⟩ : MethodName)) (z := (⟨"com/example/cartulary/cartulary/store/Harvester$Settings", "readsSameListAs", "(Lcom/example/cartulary/cartulary/store/Harvester$Settings;)Z"⟩ : MethodName)) hown (mvT hZ (hw _ (List.mem_of_getElem? (i := 89) rfl))) (mvT hZ (hw _ (List.mem_of_getElem? (i := 90) rfl))) (notFace_of_selects (args := #[]) (mvT hZ (hw _ (List.mem_of_getElem? (i := 92) rfl)))) (mvT hZ (hw _ (List.mem_of_getElem? (i := 92) rfl))) (mvT hZ (hw _ (List.mem_of_getElem? (i := 91) rfl))) (by decide) (backOf (W := 0) (rm_rs l Z a0 hw [] b45 b59 G1 s12 t12 kb12 (own_cs p0) s15 t15 kb15 (own_cs (if (p4 &&& (1 : Int32)) = (0 : Int32) then p1 else p0)) s18 t18 kb18 (own_cs p2) s21 t21 kb21 (own_cs (if (p4 &&& (2 : Int32)) = (0 : Int32) then p3 else p2)) T71.heap n0 Z71 O2 P5 od72 ⟨f72_1, f72_2, f72_3, f72_4⟩ (own_csr _) (own_csl _) ⟨f72_5, f72_6, f72_7, f72_8⟩ (own_csr _) (own_csl _) ⟨f72_9, f72_10, f72_11, f72_12⟩ (own_csr _) (own_csl _) ⟨f72_13, f72_14, f72_15, f72_16⟩ (own_csr _) (own_csl _) f72_26 Fq71_u f72_27 Fq71_p) hZ (hw _ (List.mem_of_getElem? (i := 93) rfl)) (hw _ (List.mem_of_getElem? (i := 67) rfl)) (by decide) (by decide)) q74a q74c (g := (mkF m 229 #[.val (.int p0), .val (.int p1), .val (.int p2), .val (.int p3), .val (.int p4), .val (.int p5), .val (.int (if (p4 &&& (1 : Int32)) = (0 : Int32) then p1 else p0)), .val (.int (if (p4 &&& (2 : Int32)) = (0 : Int32) then p3 else p2)), .val (.ref s12), .val (.ref s15), .val (.ref s18), .val (.ref s21), .val (.ref s24), .val (.ref s27), .val (.int ((1 : Int32) + ((p5 &&& (2147483647 : Int32)) % (144000 : Int32)))), .val (.int ((1 : Int32) + (((p5 ^^^ p4) &&& (2147483647 : Int32)) % (144000 : Int32)))), .val (.int (if (fn_same p0 (if (p4 &&& (1 : Int32)) = (0 : Int32) then p1 else p0)) = (0 : Int32) then (0 : Int32) else (if (fn_same p2 (if (p4 &&& (2 : Int32)) = (0 : Int32) then p3 else p2)) = (0 : Int32) then (0 : Int32) else (1 : Int32)))), .val (.ref b45), .val (.ref b59), .unset, .unset] [(.ref b59), (.ref b45)])) rfl (by rw [hml]; rfl) (Steps.refl _) (argsL := [(.ref b59)]) (rest := []) (lenOf own_pd17 rfl) rfl (by show 2 * 0 + _ ≤ _; exact Nat.le_of_eq rfl) (hb hby at_229) (fun _ _ => ⟨rfl, rfl, (by decide : 30 + 0 ≤ _), (by decide : 70 + 0 ≤ _)⟩)
  dsimp only [Pt.U, Pt.locs, Pt.cells, Pt.slots] at X74 l74 y74 z74 st74 hQ74
  subst l74 y74 z74
  obtain ⟨rfl, Nq74, e74⟩ := hQ74
  have N74 := Fr.app N71 Nq74
  have pre75 : ∀ t, Steps p.tables e below (T74.setTop (mkF m 238 #[.val (.int p0), .val (.int p1), .val (.int p2), .val (.int p3), .val (.int p4), .val (.int p5), .val (.int (if (p4 &&& (1 : Int32)) = (0 : Int32) then p1 else p0)), .val (.int (if (p4 &&& (2 : Int32)) = (0 : Int32) then p3 else p2)), .val (.ref s12), .val (.ref s15), .val (.ref s18), .val (.ref s21), .val (.ref s24), .val (.ref s27), .val (.int ((1 : Int32) + ((p5 &&& (2147483647 : Int32)) % (144000 : Int32)))), .val (.int ((1 : Int32) + (((p5 ^^^ p4) &&& (2147483647 : Int32)) % (144000 : Int32)))), .val (.int (if (fn_same p0 (if (p4 &&& (1 : Int32)) = (0 : Int32) then p1 else p0)) = (0 : Int32) then (0 : Int32) else (if (fn_same p2 (if (p4 &&& (2 : Int32)) = (0 : Int32) then p3 else p2)) = (0 : Int32) then (0 : Int32) else (1 : Int32)))), .val (.ref b45), .val (.ref b59), .val (.int (own_rs (own_cs p0) (own_cs (if (p4 &&& (1 : Int32)) = (0 : Int32) then p1 else p0)) (own_cs p2) (own_cs (if (p4 &&& (2 : Int32)) = (0 : Int32) then p3 else p2)))), .unset] [(.ref b45), (.ref b59)])) t → Steps p.tables e below (s₁.setTop (entryFrame m #[(.int p0), (.int p1), (.int p2), (.int p3), (.int p4), (.int p5)] maxLocals)) t := fun t k => pre73 t (by
    show Steps p.tables e below (T71.setTop (mkF m 229 #[.val (.int p0), .val (.int p1), .val (.int p2), .val (.int p3), .val (.int p4), .val (.int p5), .val (.int (if (p4 &&& (1 : Int32)) = (0 : Int32) then p1 else p0)), .val (.int (if (p4 &&& (2 : Int32)) = (0 : Int32) then p3 else p2)), .val (.ref s12), .val (.ref s15), .val (.ref s18), .val (.ref s21), .val (.ref s24), .val (.ref s27), .val (.int ((1 : Int32) + ((p5 &&& (2147483647 : Int32)) % (144000 : Int32)))), .val (.int ((1 : Int32) + (((p5 ^^^ p4) &&& (2147483647 : Int32)) % (144000 : Int32)))), .val (.int (if (fn_same p0 (if (p4 &&& (1 : Int32)) = (0 : Int32) then p1 else p0)) = (0 : Int32) then (0 : Int32) else (if (fn_same p2 (if (p4 &&& (2 : Int32)) = (0 : Int32) then p3 else p2)) = (0 : Int32) then (0 : Int32) else (1 : Int32)))), .val (.ref b45), .val (.ref b59), .unset, .unset] [(.ref b59), (.ref b45)])) t
    refine st74.trans ?_
    show Steps p.tables e below (T74.setTop (mkF m 232 #[.val (.int p0), .val (.int p1), .val (.int p2), .val (.int p3), .val (.int p4), .val (.int p5), .val (.int (if (p4 &&& (1 : Int32)) = (0 : Int32) then p1 else p0)), .val (.int (if (p4 &&& (2 : Int32)) = (0 : Int32) then p3 else p2)), .val (.ref s12), .val (.ref s15), .val (.ref s18), .val (.ref s21), .val (.ref s24), .val (.ref s27), .val (.int ((1 : Int32) + ((p5 &&& (2147483647 : Int32)) % (144000 : Int32)))), .val (.int ((1 : Int32) + (((p5 ^^^ p4) &&& (2147483647 : Int32)) % (144000 : Int32)))), .val (.int (if (fn_same p0 (if (p4 &&& (1 : Int32)) = (0 : Int32) then p1 else p0)) = (0 : Int32) then (0 : Int32) else (if (fn_same p2 (if (p4 &&& (2 : Int32)) = (0 : Int32) then p3 else p2)) = (0 : Int32) then (0 : Int32) else (1 : Int32)))), .val (.ref b45), .val (.ref b59), .unset, .unset] [(.int (own_rs (own_cs p0) (own_cs (if (p4 &&& (1 : Int32)) = (0 : Int32) then p1 else p0)) (own_cs p2) (own_cs (if (p4 &&& (2 : Int32)) = (0 : Int32) then p3 else p2))))])) t
    refine XS.istore X74.here hx rfl (hb hby at_232) rfl (l' := #[.val (.int p0), .val (.int p1), .val (.int p2), .val (.int p3), .val (.int p4), .val (.int p5), .val (.int (if (p4 &&& (1 : Int32)) = (0 : Int32) then p1 else p0)), .val (.int (if (p4 &&& (2 : Int32)) = (0 : Int32) then p3 else p2)), .val (.ref s12), .val (.ref s15), .val (.ref s18), .val (.ref s21), .val (.ref s24), .val (.ref s27), .val (.int ((1 : Int32) + ((p5 &&& (2147483647 : Int32)) % (144000 : Int32)))), .val (.int ((1 : Int32) + (((p5 ^^^ p4) &&& (2147483647 : Int32)) % (144000 : Int32)))), .val (.int (if (fn_same p0 (if (p4 &&& (1 : Int32)) = (0 : Int32) then p1 else p0)) = (0 : Int32) then (0 : Int32) else (if (fn_same p2 (if (p4 &&& (2 : Int32)) = (0 : Int32) then p3 else p2)) = (0 : Int32) then (0 : Int32) else (1 : Int32)))), .val (.ref b45), .val (.ref b59), .val (.int (own_rs (own_cs p0) (own_cs (if (p4 &&& (1 : Int32)) = (0 : Int32) then p1 else p0)) (own_cs p2) (own_cs (if (p4 &&& (2 : Int32)) = (0 : Int32) then p3 else p2)))), .unset]) rfl ?_
    show Steps p.tables e below (T74.setTop (mkF m 234 #[.val (.int p0), .val (.int p1), .val (.int p2), .val (.int p3), .val (.int p4), .val (.int p5), .val (.int (if (p4 &&& (1 : Int32)) = (0 : Int32) then p1 else p0)), .val (.int (if (p4 &&& (2 : Int32)) = (0 : Int32) then p3 else p2)), .val (.ref s12), .val (.ref s15), .val (.ref s18), .val (.ref s21), .val (.ref s24), .val (.ref s27), .val (.int ((1 : Int32) + ((p5 &&& (2147483647 : Int32)) % (144000 : Int32)))), .val (.int ((1 : Int32) + (((p5 ^^^ p4) &&& (2147483647 : Int32)) % (144000 : Int32)))), .val (.int (if (fn_same p0 (if (p4 &&& (1 : Int32)) = (0 : Int32) then p1 else p0)) = (0 : Int32) then (0 : Int32) else (if (fn_same p2 (if (p4 &&& (2 : Int32)) = (0 : Int32) then p3 else p2)) = (0 : Int32) then (0 : Int32) else (1 : Int32)))), .val (.ref b45), .val (.ref b59), .val (.int (own_rs (own_cs p0) (own_cs (if (p4 &&& (1 : Int32)) = (0 : Int32) then p1 else p0)) (own_cs p2) (own_cs (if (p4 &&& (2 : Int32)) = (0 : Int32) then p3 else p2)))), .unset] [])) t
    refine XS.aload X74.here hx rfl (hb hby at_234) rfl rfl ?_
    show Steps p.tables e below (T74.setTop (mkF m 236 #[.val (.int p0), .val (.int p1), .val (.int p2), .val (.int p3), .val (.int p4), .val (.int p5), .val (.int (if (p4 &&& (1 : Int32)) = (0 : Int32) then p1 else p0)), .val (.int (if (p4 &&& (2 : Int32)) = (0 : Int32) then p3 else p2)), .val (.ref s12), .val (.ref s15), .val (.ref s18), .val (.ref s21), .val (.ref s24), .val (.ref s27), .val (.int ((1 : Int32) + ((p5 &&& (2147483647 : Int32)) % (144000 : Int32)))), .val (.int ((1 : Int32) + (((p5 ^^^ p4) &&& (2147483647 : Int32)) % (144000 : Int32)))), .val (.int (if (fn_same p0 (if (p4 &&& (1 : Int32)) = (0 : Int32) then p1 else p0)) = (0 : Int32) then (0 : Int32) else (if (fn_same p2 (if (p4 &&& (2 : Int32)) = (0 : Int32) then p3 else p2)) = (0 : Int32) then (0 : Int32) else (1 : Int32)))), .val (.ref b45), .val (.ref b59), .val (.int (own_rs (own_cs p0) (own_cs (if (p4 &&& (1 : Int32)) = (0 : Int32) then p1 else p0)) (own_cs p2) (own_cs (if (p4 &&& (2 : Int32)) = (0 : Int32) then p3 else p2)))), .unset] [(.ref b59)])) t
    refine XS.aload X74.here hx rfl (hb hby at_236) rfl rfl ?_
    exact k)
  obtain ⟨cq76, kq76, q76a, q76b, q76c⟩ := isOf hZ e74 f72_28
  obtain ⟨_, _, ⟨T76, L76, k76, n76⟩, -, X76, ⟨Lc76, hQ76, l76, y76, z76⟩, st76⟩ := X74.virtualBack hx (y := (⟨"com/example/cartulary/cartulary/store/Harvester$Settings", "readsSameListAs", "(Lcom/example/cartulary/cartulary/store/Harvester$Settings;)Z"⟩ : MethodName)) (z := (⟨"com/example/cartulary/cartulary/store/Harvester$Settings", "readsSameListAs", "(Lcom/example/cartulary/cartulary/store/Harvester$Settings;)Z"⟩ : MethodName)) hown (mvT hZ (hw _ (List.mem_of_getElem? (i := 89) rfl))) (mvT hZ (hw _ (List.mem_of_getElem? (i := 90) rfl))) (notFace_of_selects (args := #[]) (mvT hZ (hw _ (List.mem_of_getElem? (i := 92) rfl)))) (mvT hZ (hw _ (List.mem_of_getElem? (i := 92) rfl))) (mvT hZ (hw _ (List.mem_of_getElem? (i := 91) rfl))) (by decide) (backOf (W := 0) (rm_rs l Z a0 hw [] b59 b45 G1 s15 t15 kb15 (own_cs (if (p4 &&& (1 : Int32)) = (0 : Int32) then p1 else p0)) s12 t12 kb12 (own_cs p0) s21 t21 kb21 (own_cs (if (p4 &&& (2 : Int32)) = (0 : Int32) then p3 else p2)) s18 t18 kb18 (own_cs p2) T71.heap n0 Z71 O2 P5 od72 ⟨f72_5, f72_6, f72_7, f72_8⟩ (own_csr _) (own_csl _) ⟨f72_1, f72_2, f72_3, f72_4⟩ (own_csr _) (own_csl _) ⟨f72_13, f72_14, f72_15, f72_16⟩ (own_csr _) (own_csl _) ⟨f72_9, f72_10, f72_11, f72_12⟩ (own_csr _) (own_csl _) Fq71_u f72_26 Fq71_p f72_27) hZ (hw _ (List.mem_of_getElem? (i := 93) rfl)) (hw _ (List.mem_of_getElem? (i := 67) rfl)) (by decide) (by decide)) q76a q76c (g := (mkF m 238 #[.val (.int p0), .val (.int p1), .val (.int p2), .val (.int p3), .val (.int p4), .val (.int p5), .val (.int (if (p4 &&& (1 : Int32)) = (0 : Int32) then p1 else p0)), .val (.int (if (p4 &&& (2 : Int32)) = (0 : Int32) then p3 else p2)), .val (.ref s12), .val (.ref s15), .val (.ref s18), .val (.ref s21), .val (.ref s24), .val (.ref s27), .val (.int ((1 : Int32) + ((p5 &&& (2147483647 : Int32)) % (144000 : Int32)))), .val (.int ((1 : Int32) + (((p5 ^^^ p4) &&& (2147483647 : Int32)) % (144000 : Int32)))), .val (.int (if (fn_same p0 (if (p4 &&& (1 : Int32)) = (0 : Int32) then p1 else p0)) = (0 : Int32) then (0 : Int32) else (if (fn_same p2 (if (p4 &&& (2 : Int32)) = (0 : Int32) then p3 else p2)) = (0 : Int32) then (0 : Int32) else (1 : Int32)))), .val (.ref b45), .val (.ref b59), .val (.int (own_rs (own_cs p0) (own_cs (if (p4 &&& (1 : Int32)) = (0 : Int32) then p1 else p0)) (own_cs p2) (own_cs (if (p4 &&& (2 : Int32)) = (0 : Int32) then p3 else p2)))), .unset] [(.ref b45), (.ref b59)])) rfl (by rw [hml]; rfl) (Steps.refl _) (argsL := [(.ref b45)]) (rest := []) (lenOf own_pd17 rfl) rfl (by show 2 * 0 + _ ≤ _; exact Nat.le_of_eq rfl) (hb hby at_238) (fun _ _ => ⟨rfl, e74, (by decide : 30 + 0 ≤ _), (by decide : 70 + 0 ≤ _)⟩)
  dsimp only [Pt.U, Pt.locs, Pt.cells, Pt.slots] at X76 l76 y76 z76 st76 hQ76
  subst l76 y76 z76
  obtain ⟨rfl, Nq76, e76⟩ := hQ76
  have N76 := Fr.app N74 Nq76
  obtain ⟨fs, hr, hrun, hended, hEnd⟩ := X76.leaveW hS21 (by rw [e76]; exact hk72) (v := some (.int (1 : Int32))) (fun h => by rw [Bd.returns] at h; cases h)
  have hAe := hA72.trans (CHv.at X76 hZ hEL hC72)
  refine ⟨_, _, pre75 _ ?_, hrun, hended, _, _, rfl, ?_, ?_, hEnd.1, hEnd.2.1, hEnd.2.2.1, hEnd.2.2.2.mono (by decide) (by decide)⟩
  · show Steps p.tables e below (T74.setTop (mkF m 238 #[.val (.int p0), .val (.int p1), .val (.int p2), .val (.int p3), .val (.int p4), .val (.int p5), .val (.int (if (p4 &&& (1 : Int32)) = (0 : Int32) then p1 else p0)), .val (.int (if (p4 &&& (2 : Int32)) = (0 : Int32) then p3 else p2)), .val (.ref s12), .val (.ref s15), .val (.ref s18), .val (.ref s21), .val (.ref s24), .val (.ref s27), .val (.int ((1 : Int32) + ((p5 &&& (2147483647 : Int32)) % (144000 : Int32)))), .val (.int ((1 : Int32) + (((p5 ^^^ p4) &&& (2147483647 : Int32)) % (144000 : Int32)))), .val (.int (if (fn_same p0 (if (p4 &&& (1 : Int32)) = (0 : Int32) then p1 else p0)) = (0 : Int32) then (0 : Int32) else (if (fn_same p2 (if (p4 &&& (2 : Int32)) = (0 : Int32) then p3 else p2)) = (0 : Int32) then (0 : Int32) else (1 : Int32)))), .val (.ref b45), .val (.ref b59), .val (.int (own_rs (own_cs p0) (own_cs (if (p4 &&& (1 : Int32)) = (0 : Int32) then p1 else p0)) (own_cs p2) (own_cs (if (p4 &&& (2 : Int32)) = (0 : Int32) then p3 else p2)))), .unset] [(.ref b45), (.ref b59)])) _
    refine st76.trans ?_
    show Steps p.tables e below (T76.setTop (mkF m 241 #[.val (.int p0), .val (.int p1), .val (.int p2), .val (.int p3), .val (.int p4), .val (.int p5), .val (.int (if (p4 &&& (1 : Int32)) = (0 : Int32) then p1 else p0)), .val (.int (if (p4 &&& (2 : Int32)) = (0 : Int32) then p3 else p2)), .val (.ref s12), .val (.ref s15), .val (.ref s18), .val (.ref s21), .val (.ref s24), .val (.ref s27), .val (.int ((1 : Int32) + ((p5 &&& (2147483647 : Int32)) % (144000 : Int32)))), .val (.int ((1 : Int32) + (((p5 ^^^ p4) &&& (2147483647 : Int32)) % (144000 : Int32)))), .val (.int (if (fn_same p0 (if (p4 &&& (1 : Int32)) = (0 : Int32) then p1 else p0)) = (0 : Int32) then (0 : Int32) else (if (fn_same p2 (if (p4 &&& (2 : Int32)) = (0 : Int32) then p3 else p2)) = (0 : Int32) then (0 : Int32) else (1 : Int32)))), .val (.ref b45), .val (.ref b59), .val (.int (own_rs (own_cs p0) (own_cs (if (p4 &&& (1 : Int32)) = (0 : Int32) then p1 else p0)) (own_cs p2) (own_cs (if (p4 &&& (2 : Int32)) = (0 : Int32) then p3 else p2)))), .unset] [(.int (own_rs (own_cs (if (p4 &&& (1 : Int32)) = (0 : Int32) then p1 else p0)) (own_cs p0) (own_cs (if (p4 &&& (2 : Int32)) = (0 : Int32) then p3 else p2)) (own_cs p2)))])) _
    refine XS.istore X76.here hx rfl (hb hby at_241) rfl (l' := #[.val (.int p0), .val (.int p1), .val (.int p2), .val (.int p3), .val (.int p4), .val (.int p5), .val (.int (if (p4 &&& (1 : Int32)) = (0 : Int32) then p1 else p0)), .val (.int (if (p4 &&& (2 : Int32)) = (0 : Int32) then p3 else p2)), .val (.ref s12), .val (.ref s15), .val (.ref s18), .val (.ref s21), .val (.ref s24), .val (.ref s27), .val (.int ((1 : Int32) + ((p5 &&& (2147483647 : Int32)) % (144000 : Int32)))), .val (.int ((1 : Int32) + (((p5 ^^^ p4) &&& (2147483647 : Int32)) % (144000 : Int32)))), .val (.int (if (fn_same p0 (if (p4 &&& (1 : Int32)) = (0 : Int32) then p1 else p0)) = (0 : Int32) then (0 : Int32) else (if (fn_same p2 (if (p4 &&& (2 : Int32)) = (0 : Int32) then p3 else p2)) = (0 : Int32) then (0 : Int32) else (1 : Int32)))), .val (.ref b45), .val (.ref b59), .val (.int (own_rs (own_cs p0) (own_cs (if (p4 &&& (1 : Int32)) = (0 : Int32) then p1 else p0)) (own_cs p2) (own_cs (if (p4 &&& (2 : Int32)) = (0 : Int32) then p3 else p2)))), .val (.int (own_rs (own_cs (if (p4 &&& (1 : Int32)) = (0 : Int32) then p1 else p0)) (own_cs p0) (own_cs (if (p4 &&& (2 : Int32)) = (0 : Int32) then p3 else p2)) (own_cs p2)))]) rfl ?_
    show Steps p.tables e below (T76.setTop (mkF m 243 #[.val (.int p0), .val (.int p1), .val (.int p2), .val (.int p3), .val (.int p4), .val (.int p5), .val (.int (if (p4 &&& (1 : Int32)) = (0 : Int32) then p1 else p0)), .val (.int (if (p4 &&& (2 : Int32)) = (0 : Int32) then p3 else p2)), .val (.ref s12), .val (.ref s15), .val (.ref s18), .val (.ref s21), .val (.ref s24), .val (.ref s27), .val (.int ((1 : Int32) + ((p5 &&& (2147483647 : Int32)) % (144000 : Int32)))), .val (.int ((1 : Int32) + (((p5 ^^^ p4) &&& (2147483647 : Int32)) % (144000 : Int32)))), .val (.int (if (fn_same p0 (if (p4 &&& (1 : Int32)) = (0 : Int32) then p1 else p0)) = (0 : Int32) then (0 : Int32) else (if (fn_same p2 (if (p4 &&& (2 : Int32)) = (0 : Int32) then p3 else p2)) = (0 : Int32) then (0 : Int32) else (1 : Int32)))), .val (.ref b45), .val (.ref b59), .val (.int (own_rs (own_cs p0) (own_cs (if (p4 &&& (1 : Int32)) = (0 : Int32) then p1 else p0)) (own_cs p2) (own_cs (if (p4 &&& (2 : Int32)) = (0 : Int32) then p3 else p2)))), .val (.int (own_rs (own_cs (if (p4 &&& (1 : Int32)) = (0 : Int32) then p1 else p0)) (own_cs p0) (own_cs (if (p4 &&& (2 : Int32)) = (0 : Int32) then p3 else p2)) (own_cs p2)))] [])) _
    refine XS.iload X76.here hx rfl (hb hby at_243) rfl ?_
    show Steps p.tables e below (T76.setTop (mkF m 245 #[.val (.int p0), .val (.int p1), .val (.int p2), .val (.int p3), .val (.int p4), .val (.int p5), .val (.int (if (p4 &&& (1 : Int32)) = (0 : Int32) then p1 else p0)), .val (.int (if (p4 &&& (2 : Int32)) = (0 : Int32) then p3 else p2)), .val (.ref s12), .val (.ref s15), .val (.ref s18), .val (.ref s21), .val (.ref s24), .val (.ref s27), .val (.int ((1 : Int32) + ((p5 &&& (2147483647 : Int32)) % (144000 : Int32)))), .val (.int ((1 : Int32) + (((p5 ^^^ p4) &&& (2147483647 : Int32)) % (144000 : Int32)))), .val (.int (if (fn_same p0 (if (p4 &&& (1 : Int32)) = (0 : Int32) then p1 else p0)) = (0 : Int32) then (0 : Int32) else (if (fn_same p2 (if (p4 &&& (2 : Int32)) = (0 : Int32) then p3 else p2)) = (0 : Int32) then (0 : Int32) else (1 : Int32)))), .val (.ref b45), .val (.ref b59), .val (.int (own_rs (own_cs p0) (own_cs (if (p4 &&& (1 : Int32)) = (0 : Int32) then p1 else p0)) (own_cs p2) (own_cs (if (p4 &&& (2 : Int32)) = (0 : Int32) then p3 else p2)))), .val (.int (own_rs (own_cs (if (p4 &&& (1 : Int32)) = (0 : Int32) then p1 else p0)) (own_cs p0) (own_cs (if (p4 &&& (2 : Int32)) = (0 : Int32) then p3 else p2)) (own_cs p2)))] [(.int (own_rs (own_cs p0) (own_cs (if (p4 &&& (1 : Int32)) = (0 : Int32) then p1 else p0)) (own_cs p2) (own_cs (if (p4 &&& (2 : Int32)) = (0 : Int32) then p3 else p2))))])) _
    refine XS.iload X76.here hx rfl (hb hby at_245) rfl ?_
    show Steps p.tables e below (T76.setTop (mkF m 247 #[.val (.int p0), .val (.int p1), .val (.int p2), .val (.int p3), .val (.int p4), .val (.int p5), .val (.int (if (p4 &&& (1 : Int32)) = (0 : Int32) then p1 else p0)), .val (.int (if (p4 &&& (2 : Int32)) = (0 : Int32) then p3 else p2)), .val (.ref s12), .val (.ref s15), .val (.ref s18), .val (.ref s21), .val (.ref s24), .val (.ref s27), .val (.int ((1 : Int32) + ((p5 &&& (2147483647 : Int32)) % (144000 : Int32)))), .val (.int ((1 : Int32) + (((p5 ^^^ p4) &&& (2147483647 : Int32)) % (144000 : Int32)))), .val (.int (if (fn_same p0 (if (p4 &&& (1 : Int32)) = (0 : Int32) then p1 else p0)) = (0 : Int32) then (0 : Int32) else (if (fn_same p2 (if (p4 &&& (2 : Int32)) = (0 : Int32) then p3 else p2)) = (0 : Int32) then (0 : Int32) else (1 : Int32)))), .val (.ref b45), .val (.ref b59), .val (.int (own_rs (own_cs p0) (own_cs (if (p4 &&& (1 : Int32)) = (0 : Int32) then p1 else p0)) (own_cs p2) (own_cs (if (p4 &&& (2 : Int32)) = (0 : Int32) then p3 else p2)))), .val (.int (own_rs (own_cs (if (p4 &&& (1 : Int32)) = (0 : Int32) then p1 else p0)) (own_cs p0) (own_cs (if (p4 &&& (2 : Int32)) = (0 : Int32) then p3 else p2)) (own_cs p2)))] [(.int (if (fn_same p0 (if (p4 &&& (1 : Int32)) = (0 : Int32) then p1 else p0)) = (0 : Int32) then (0 : Int32) else (if (fn_same p2 (if (p4 &&& (2 : Int32)) = (0 : Int32) then p3 else p2)) = (0 : Int32) then (0 : Int32) else (1 : Int32)))), (.int (own_rs (own_cs p0) (own_cs (if (p4 &&& (1 : Int32)) = (0 : Int32) then p1 else p0)) (own_cs p2) (own_cs (if (p4 &&& (2 : Int32)) = (0 : Int32) then p3 else p2))))])) _
    refine XS.icmpNo X76.here hx rfl (hb hby at_247) rfl (teq (own_ab _ _ _ _)).2 ?_
    show Steps p.tables e below (T76.setTop (mkF m 250 #[.val (.int p0), .val (.int p1), .val (.int p2), .val (.int p3), .val (.int p4), .val (.int p5), .val (.int (if (p4 &&& (1 : Int32)) = (0 : Int32) then p1 else p0)), .val (.int (if (p4 &&& (2 : Int32)) = (0 : Int32) then p3 else p2)), .val (.ref s12), .val (.ref s15), .val (.ref s18), .val (.ref s21), .val (.ref s24), .val (.ref s27), .val (.int ((1 : Int32) + ((p5 &&& (2147483647 : Int32)) % (144000 : Int32)))), .val (.int ((1 : Int32) + (((p5 ^^^ p4) &&& (2147483647 : Int32)) % (144000 : Int32)))), .val (.int (if (fn_same p0 (if (p4 &&& (1 : Int32)) = (0 : Int32) then p1 else p0)) = (0 : Int32) then (0 : Int32) else (if (fn_same p2 (if (p4 &&& (2 : Int32)) = (0 : Int32) then p3 else p2)) = (0 : Int32) then (0 : Int32) else (1 : Int32)))), .val (.ref b45), .val (.ref b59), .val (.int (own_rs (own_cs p0) (own_cs (if (p4 &&& (1 : Int32)) = (0 : Int32) then p1 else p0)) (own_cs p2) (own_cs (if (p4 &&& (2 : Int32)) = (0 : Int32) then p3 else p2)))), .val (.int (own_rs (own_cs (if (p4 &&& (1 : Int32)) = (0 : Int32) then p1 else p0)) (own_cs p0) (own_cs (if (p4 &&& (2 : Int32)) = (0 : Int32) then p3 else p2)) (own_cs p2)))] [])) _
    refine XS.iload X76.here hx rfl (hb hby at_250) rfl ?_
    show Steps p.tables e below (T76.setTop (mkF m 252 #[.val (.int p0), .val (.int p1), .val (.int p2), .val (.int p3), .val (.int p4), .val (.int p5), .val (.int (if (p4 &&& (1 : Int32)) = (0 : Int32) then p1 else p0)), .val (.int (if (p4 &&& (2 : Int32)) = (0 : Int32) then p3 else p2)), .val (.ref s12), .val (.ref s15), .val (.ref s18), .val (.ref s21), .val (.ref s24), .val (.ref s27), .val (.int ((1 : Int32) + ((p5 &&& (2147483647 : Int32)) % (144000 : Int32)))), .val (.int ((1 : Int32) + (((p5 ^^^ p4) &&& (2147483647 : Int32)) % (144000 : Int32)))), .val (.int (if (fn_same p0 (if (p4 &&& (1 : Int32)) = (0 : Int32) then p1 else p0)) = (0 : Int32) then (0 : Int32) else (if (fn_same p2 (if (p4 &&& (2 : Int32)) = (0 : Int32) then p3 else p2)) = (0 : Int32) then (0 : Int32) else (1 : Int32)))), .val (.ref b45), .val (.ref b59), .val (.int (own_rs (own_cs p0) (own_cs (if (p4 &&& (1 : Int32)) = (0 : Int32) then p1 else p0)) (own_cs p2) (own_cs (if (p4 &&& (2 : Int32)) = (0 : Int32) then p3 else p2)))), .val (.int (own_rs (own_cs (if (p4 &&& (1 : Int32)) = (0 : Int32) then p1 else p0)) (own_cs p0) (own_cs (if (p4 &&& (2 : Int32)) = (0 : Int32) then p3 else p2)) (own_cs p2)))] [(.int (own_rs (own_cs (if (p4 &&& (1 : Int32)) = (0 : Int32) then p1 else p0)) (own_cs p0) (own_cs (if (p4 &&& (2 : Int32)) = (0 : Int32) then p3 else p2)) (own_cs p2)))])) _
    refine XS.iload X76.here hx rfl (hb hby at_252) rfl ?_
    show Steps p.tables e below (T76.setTop (mkF m 254 #[.val (.int p0), .val (.int p1), .val (.int p2), .val (.int p3), .val (.int p4), .val (.int p5), .val (.int (if (p4 &&& (1 : Int32)) = (0 : Int32) then p1 else p0)), .val (.int (if (p4 &&& (2 : Int32)) = (0 : Int32) then p3 else p2)), .val (.ref s12), .val (.ref s15), .val (.ref s18), .val (.ref s21), .val (.ref s24), .val (.ref s27), .val (.int ((1 : Int32) + ((p5 &&& (2147483647 : Int32)) % (144000 : Int32)))), .val (.int ((1 : Int32) + (((p5 ^^^ p4) &&& (2147483647 : Int32)) % (144000 : Int32)))), .val (.int (if (fn_same p0 (if (p4 &&& (1 : Int32)) = (0 : Int32) then p1 else p0)) = (0 : Int32) then (0 : Int32) else (if (fn_same p2 (if (p4 &&& (2 : Int32)) = (0 : Int32) then p3 else p2)) = (0 : Int32) then (0 : Int32) else (1 : Int32)))), .val (.ref b45), .val (.ref b59), .val (.int (own_rs (own_cs p0) (own_cs (if (p4 &&& (1 : Int32)) = (0 : Int32) then p1 else p0)) (own_cs p2) (own_cs (if (p4 &&& (2 : Int32)) = (0 : Int32) then p3 else p2)))), .val (.int (own_rs (own_cs (if (p4 &&& (1 : Int32)) = (0 : Int32) then p1 else p0)) (own_cs p0) (own_cs (if (p4 &&& (2 : Int32)) = (0 : Int32) then p3 else p2)) (own_cs p2)))] [(.int (if (fn_same p0 (if (p4 &&& (1 : Int32)) = (0 : Int32) then p1 else p0)) = (0 : Int32) then (0 : Int32) else (if (fn_same p2 (if (p4 &&& (2 : Int32)) = (0 : Int32) then p3 else p2)) = (0 : Int32) then (0 : Int32) else (1 : Int32)))), (.int (own_rs (own_cs (if (p4 &&& (1 : Int32)) = (0 : Int32) then p1 else p0)) (own_cs p0) (own_cs (if (p4 &&& (2 : Int32)) = (0 : Int32) then p3 else p2)) (own_cs p2)))])) _
    refine XS.icmpNo X76.here hx rfl (hb hby at_254) rfl (teq (own_ba _ _ _ _)).2 ?_
    show Steps p.tables e below (T76.setTop (mkF m 257 #[.val (.int p0), .val (.int p1), .val (.int p2), .val (.int p3), .val (.int p4), .val (.int p5), .val (.int (if (p4 &&& (1 : Int32)) = (0 : Int32) then p1 else p0)), .val (.int (if (p4 &&& (2 : Int32)) = (0 : Int32) then p3 else p2)), .val (.ref s12), .val (.ref s15), .val (.ref s18), .val (.ref s21), .val (.ref s24), .val (.ref s27), .val (.int ((1 : Int32) + ((p5 &&& (2147483647 : Int32)) % (144000 : Int32)))), .val (.int ((1 : Int32) + (((p5 ^^^ p4) &&& (2147483647 : Int32)) % (144000 : Int32)))), .val (.int (if (fn_same p0 (if (p4 &&& (1 : Int32)) = (0 : Int32) then p1 else p0)) = (0 : Int32) then (0 : Int32) else (if (fn_same p2 (if (p4 &&& (2 : Int32)) = (0 : Int32) then p3 else p2)) = (0 : Int32) then (0 : Int32) else (1 : Int32)))), .val (.ref b45), .val (.ref b59), .val (.int (own_rs (own_cs p0) (own_cs (if (p4 &&& (1 : Int32)) = (0 : Int32) then p1 else p0)) (own_cs p2) (own_cs (if (p4 &&& (2 : Int32)) = (0 : Int32) then p3 else p2)))), .val (.int (own_rs (own_cs (if (p4 &&& (1 : Int32)) = (0 : Int32) then p1 else p0)) (own_cs p0) (own_cs (if (p4 &&& (2 : Int32)) = (0 : Int32) then p3 else p2)) (own_cs p2)))] [])) _
    refine XS.iconst X76.here hx rfl (hb hby at_257) ?_
    show Steps p.tables e below (T76.setTop (mkF m 258 #[.val (.int p0), .val (.int p1), .val (.int p2), .val (.int p3), .val (.int p4), .val (.int p5), .val (.int (if (p4 &&& (1 : Int32)) = (0 : Int32) then p1 else p0)), .val (.int (if (p4 &&& (2 : Int32)) = (0 : Int32) then p3 else p2)), .val (.ref s12), .val (.ref s15), .val (.ref s18), .val (.ref s21), .val (.ref s24), .val (.ref s27), .val (.int ((1 : Int32) + ((p5 &&& (2147483647 : Int32)) % (144000 : Int32)))), .val (.int ((1 : Int32) + (((p5 ^^^ p4) &&& (2147483647 : Int32)) % (144000 : Int32)))), .val (.int (if (fn_same p0 (if (p4 &&& (1 : Int32)) = (0 : Int32) then p1 else p0)) = (0 : Int32) then (0 : Int32) else (if (fn_same p2 (if (p4 &&& (2 : Int32)) = (0 : Int32) then p3 else p2)) = (0 : Int32) then (0 : Int32) else (1 : Int32)))), .val (.ref b45), .val (.ref b59), .val (.int (own_rs (own_cs p0) (own_cs (if (p4 &&& (1 : Int32)) = (0 : Int32) then p1 else p0)) (own_cs p2) (own_cs (if (p4 &&& (2 : Int32)) = (0 : Int32) then p3 else p2)))), .val (.int (own_rs (own_cs (if (p4 &&& (1 : Int32)) = (0 : Int32) then p1 else p0)) (own_cs p0) (own_cs (if (p4 &&& (2 : Int32)) = (0 : Int32) then p3 else p2)) (own_cs p2)))] [(.int (1 : Int32))])) _
    refine XS.goto X76.here hx rfl (pc0 := 258) (pc' := 262) rfl (hb hby at_258) (by decide) (by decide) ?_
    show Steps p.tables e below (T76.setTop (mkF m 262 #[.val (.int p0), .val (.int p1), .val (.int p2), .val (.int p3), .val (.int p4), .val (.int p5), .val (.int (if (p4 &&& (1 : Int32)) = (0 : Int32) then p1 else p0)), .val (.int (if (p4 &&& (2 : Int32)) = (0 : Int32) then p3 else p2)), .val (.ref s12), .val (.ref s15), .val (.ref s18), .val (.ref s21), .val (.ref s24), .val (.ref s27), .val (.int ((1 : Int32) + ((p5 &&& (2147483647 : Int32)) % (144000 : Int32)))), .val (.int ((1 : Int32) + (((p5 ^^^ p4) &&& (2147483647 : Int32)) % (144000 : Int32)))), .val (.int (if (fn_same p0 (if (p4 &&& (1 : Int32)) = (0 : Int32) then p1 else p0)) = (0 : Int32) then (0 : Int32) else (if (fn_same p2 (if (p4 &&& (2 : Int32)) = (0 : Int32) then p3 else p2)) = (0 : Int32) then (0 : Int32) else (1 : Int32)))), .val (.ref b45), .val (.ref b59), .val (.int (own_rs (own_cs p0) (own_cs (if (p4 &&& (1 : Int32)) = (0 : Int32) then p1 else p0)) (own_cs p2) (own_cs (if (p4 &&& (2 : Int32)) = (0 : Int32) then p3 else p2)))), .val (.int (own_rs (own_cs (if (p4 &&& (1 : Int32)) = (0 : Int32) then p1 else p0)) (own_cs p0) (own_cs (if (p4 &&& (2 : Int32)) = (0 : Int32) then p3 else p2)) (own_cs p2)))] [(.int (1 : Int32))])) _
    exact retN X76 hx (t := .boolean) Bd.returns (by simp) (hb hby at_262) hr
  · show Q_law Z p0 p1 p2 p3 p4 p5 G1 h0 n0 _ T76.heap _
    rw [e76]
    exact ⟨rfl, N76⟩
  · rw [hh]
    show CHr Z consts_1 s.vm h0 T76.vm T76.heap
    rw [e76]
    exact hAe
set_option maxRecDepth 65536 in
set_option maxHeartbeats 40000000 in
theorem comes_1 {Post : Tables → Env → Array Value → State → Outcome → State → Prop} (hpost : ∀ tb e args s v u, (limb_1_1.after args s (.returned v) u = true ∧ limb_1_2.after args s (.returned v) u = true ∧ True) → ReturnedEndW s (.returned v) u (Jvm.fieldLocs frame_1_writes args s ++ Jvm.arrayLocs frame_1_arrays args s ++ Jvm.staticLocs frame_1_statics s) 48 1216 → Post tb e args s (.returned v) u) :
    ArmFor flags0 classFile x code maxLocals ret World_1 tables_1 room_1 Calls_1 rest_1 Pre_1 Post := by
  intro l hfl _ _ p e ha hc hk s m args below hf hA hF happ hP
  obtain ⟨hcalls, hrest, hpre⟩ := hP
  obtain ⟨-, -, -, hnamed, -, -, -, hat⟩ := (Spec.applies_iff hf).mp happ
  obtain ⟨hg, hn⟩ := and_e (Cond.before_iff.mp (show (Jvm.Cond.and given_1 narrow_1).before args s = true from hpre))
  obtain ⟨hcnt, hg0⟩ := and_e hg
  obtain ⟨ha0, hg1⟩ := and_e hg0
  obtain ⟨ha1, hg2⟩ := and_e hg1
  obtain ⟨ha2, hg3⟩ := and_e hg2
  obtain ⟨ha3, hg4⟩ := and_e hg3
  obtain ⟨ha4, hg5⟩ := and_e hg4
  have ha5 := hg5
  obtain ⟨w0, w1, w2, w3, w4, w5, rfl⟩ : ∃ w0 w1 w2 w3 w4 w5 : Value, args = #[w0, w1, w2, w3, w4, w5] := by
    have hs : args.size = 6 := by simpa [Cond.value, given_1] using hcnt
    obtain ⟨L⟩ := args
    match L, hs with
    | [w0, w1, w2, w3, w4, w5], _ => exact ⟨w0, w1, w2, w3, w4, w5, rfl⟩
  have hw := fun d (hd : d ∈ tables_1) => atoms_spec (ws := Jvm.Cond.code x code maxLocals ret :: tables_1) hat d (List.mem_cons_of_mem _ hd)
  have hfit : Fit s := fun {y c} hc i hi => by
    obtain ⟨ha, rfl⟩ := Array.getElem?_eq_some_iff.mp hc
    have q := List.all_eq_true.mp ((Array.all_eq_true_iff_forall_mem.mp hF) _ (Array.getElem_mem ha)) i (List.mem_range.mpr hi)
    simpa [Array.getElem?_eq_getElem hi] using q
  obtain ⟨hsets, hown0⟩ := atoms_of _ (rest_1_c_eq ▸ (show rest_1_c.before _ s = true from hrest))
  have hr0 := Cond.before_iff.mp hown0
  obtain ⟨i0, ei0⟩ := is_v ha0
  obtain rfl : w0 = (.int i0) := Option.some.inj ei0
  obtain ⟨i1, ei1⟩ := is_v ha1
  obtain rfl : w1 = (.int i1) := Option.some.inj ei1
  obtain ⟨i2, ei2⟩ := is_v ha2
  obtain rfl : w2 = (.int i2) := Option.some.inj ei2
  obtain ⟨i3, ei3⟩ := is_v ha3
  obtain rfl : w3 = (.int i3) := Option.some.inj ei3
  obtain ⟨i4, ei4⟩ := is_v ha4
  obtain rfl : w4 = (.int i4) := Option.some.inj ei4
  obtain ⟨i5, ei5⟩ := is_v ha5
  obtain rfl : w5 = (.int i5) := Option.some.inj ei5
  have n3 := not_v (Cond.before_iff.mp (hsets _ (List.mem_of_getElem? (i := 2) rfl)))
  obtain ⟨G1, e6⟩ := is_v (Cond.before_iff.mp (hsets _ (List.mem_of_getElem? (i := 1) rfl)))
  have O2 : Sta s s.heap "java/lang/String" "COMPACT_STRINGS" "Z" (.int G1) := Sta.start e6 (Or.inl (hsets _ (List.mem_of_getElem? (i := 0) rfl)))
  have P5 : ¬ (G1 = (0 : Int32)) := gotF (Cond.eq_ints e6 (Term.int_eval (0))) n3
  have hC0 : CHv s consts_1 s.vm s.heap := CHv.start (own_EW hw) hcalls.1 (hsets _ (List.mem_of_getElem? (i := 2) rfl)) (hw _ (List.mem_of_getElem? (i := 22) rfl)) (hw _ (List.mem_of_getElem? (i := 8) rfl))
  obtain ⟨n, o, h1, h2, h3, _, L, rfl, ⟨rfl, N⟩, -, hq⟩ := rm_law l s _ hw tables_1 i0 i1 i2 i3 i4 i5 G1 s.heap s.heap.size (Nat.le_refl _) O2 P5 (Old.start s) p e ha hc hk s m _ below hf ((Spec.applies_iff_loose hf).mp happ).1 ⟨rfl, State.Warmed39.refl s, rfl, hC0⟩ trivial
  refine ⟨n, _, h1, h2, h3, hpost _ _ _ _ _ _ ⟨Cond.after_iff.mpr rfl, Cond.after_iff.mpr (eq_i res_at (Term.int_eval (1)) rfl), trivial⟩ ⟨hq.1, hq.2.1, hq.2.2.1, (hq.2.2.2.sift fun y hy => Or.inr (N y hy)).mono (by decide) (by decide)⟩⟩
theorem main_1_1 : Claimed_1_1 := comes_1 fun _ _ _ _ _ _ h hF => ⟨h.1, hF⟩
theorem main_1_2 : Claimed_1_2 := comes_1 fun _ _ _ _ _ _ h hF => ⟨h.2.1, hF⟩
end Jvm.Pilot.@@N@@
namespace Jvm.Pilot.@@N@@
open Jvm Jvm.ClassFile Sem Op Lib Jvm.Free Jvm.Stand Jvm.Pilot.@@N@@.Jvm.D
/-! MADE BY PROGRAM (witnessworld.py) out of the Statement's table words and the real class files: 21 classes; the members and pool entries that the words name. The judged class is class 1, her method 6. -/
namespace start1
open Jvm.ClassFile
def u (s : String) : CpInfo := .utf8 (stringToUtf16 s)
/-- a pool by its gaps: so many unusable entries, then the entry; so many at the end -/
def gap : Nat → List CpInfo → List CpInfo
  | 0, r => r
  | n + 1, r => .unusable :: gap n r
def poolList (es : List (Nat × CpInfo)) (last : Nat) : List CpInfo := es.foldr (fun e r => gap e.1 (e.2 :: r)) (gap last [])
def pool (es : List (Nat × CpInfo)) (last : Nat) : Array CpInfo := ⟨poolList es last⟩
def fileOf (pool : Array CpInfo) (this : Nat) (attrs : Array Attribute := #[]) (ms : Array MethodInfo := #[]) (fl : Nat := 33) (sup : Nat := 0) (ifs : Array Nat := #[]) (fds : Array FieldInfo := #[]) : ClassFile where
  minorVersion := 0
  majorVersion := 65
  constantPool := pool
  accessFlags := fl
  thisClass := this
  superClass := sup
  interfaces := ifs
  fields := fds
  methods := ms
  attributes := attrs
def plain (name : String) (sup : Option ClassId) : Class where
  name := name
  kind := .ordinary
  loader := none
  accessFlags := 33
  super := sup
  interfaces := #[]
  cf := none
  fields := #[]
  methods := #[]
  instanceTypes := #[]
  staticTypes := #[]
  resolved := #[]
  callSites := []
  init := .initialized
  statics := none
  mirror := none

def pool0 : Array CpInfo := pool [(5, u "<init>"), (0, u "()V"), (1, .class_ 10), (1, u "java/lang/Object")] 113

def k0c0 : Code := { maxStack := 0, maxLocals := 1, code := object_method_1_code, exceptionTable := #[], attributes := #[] }
def k0m0 : Method := { name := "<init>", desc := "()V", sig := { parameters := [], returnType := none }, accessFlags := 1, code := some k0c0 }
/-- java/lang/Object -/
def k0 : Class := { plain "java/lang/Object" none with
  accessFlags := 33
  interfaces := #[]
  cf := some (fileOf pool0 8 #[] #[{ accessFlags := 1, nameIndex := 5, descriptorIndex := 6, attributes := #[] }] 33 0 #[] #[])
  fields := #[]
  methods := #[k0m0]
  instanceTypes := #[]
  staticTypes := #[]
  resolved := Array.replicate 124 none
  statics := none }

def pool1 : Array CpInfo := pool [(2, .class_ 4), (1, u "java/lang/Object"), (0, u "<init>"), (0, u "()V"), (0, .methodref 8 9), (0, .class_ 10), (0, .nameAndType 11 12), (0, u "com/example/cartulary/cartulary/store/SettingsReadsSameListAsPinLaw"), (0, u "len"), (0, u "(I)I"), (0, .class_ 14), (0, u "java/lang/String"), (0, .methodref 13 16), (0, .nameAndType 5 17), (0, u "([C)V"), (0, .methodref 8 19), (0, .nameAndType 20 12), (0, u "c0"), (0, .methodref 13 22), (0, .nameAndType 23 24), (0, u "valueOf"), (0, u "(C)Ljava/lang/String;"), (0, .methodref 8 26), (0, .nameAndType 27 12), (0, u "c1"), (0, .methodref 8 29), (0, .nameAndType 30 31), (0, u "str"), (0, u "(I)Ljava/lang/String;"), (0, .integer 2147483647), (0, .class_ 34), (0, u "com/example/cartulary/cartulary/store/Harvester$Settings"), (0, .integer 144000), (0, .methodref 8 37), (0, .nameAndType 38 39), (0, u "same"), (0, u "(II)Z"), (0, .methodref 33 41), (0, .nameAndType 5 42), (0, u "(Ljava/lang/String;Ljava/lang/String;Ljava/lang/String;IZZ)V"), (0, .methodref 33 44), (0, .nameAndType 45 46), (0, u "readsSameListAs"), (0, u "(Lcom/example/cartulary/cartulary/store/Harvester$Settings;)Z"), (3, u "law"), (0, u "(IIIIII)Z")] 6

def k1m0 : Method := { name := "<init>", desc := "()V", sig := { parameters := [], returnType := none }, accessFlags := 2, code := none }
def k1c1 : Code := { maxStack := 2, maxLocals := 1, code := method_2_code, exceptionTable := #[], attributes := #[] }
def k1m1 : Method := { name := "len", desc := "(I)I", sig := { parameters := [.int], returnType := some .int }, accessFlags := 10, code := some k1c1 }
def k1c2 : Code := { maxStack := 2, maxLocals := 1, code := method_3_code, exceptionTable := #[], attributes := #[] }
def k1m2 : Method := { name := "c0", desc := "(I)I", sig := { parameters := [.int], returnType := some .int }, accessFlags := 10, code := some k1c2 }
def k1c3 : Code := { maxStack := 2, maxLocals := 1, code := method_4_code, exceptionTable := #[], attributes := #[] }
def k1m3 : Method := { name := "c1", desc := "(I)I", sig := { parameters := [.int], returnType := some .int }, accessFlags := 10, code := some k1c3 }
def k1c4 : Code := { maxStack := 3, maxLocals := 3, code := method_5_code, exceptionTable := #[], attributes := #[] }
def k1m4 : Method := { name := "str", desc := "(I)Ljava/lang/String;", sig := { parameters := [.int], returnType := some (.object "java/lang/String") }, accessFlags := 10, code := some k1c4 }
def k1c5 : Code := { maxStack := 2, maxLocals := 3, code := method_6_code, exceptionTable := #[], attributes := #[] }
def k1m5 : Method := { name := "same", desc := "(II)Z", sig := { parameters := [.int, .int], returnType := some .boolean }, accessFlags := 10, code := some k1c5 }
def k1c6 : Code := { maxStack := 9, maxLocals := 21, code := code, exceptionTable := #[], attributes := #[] }
def k1m6 : Method := { name := "law", desc := "(IIIIII)Z", sig := { parameters := [.int, .int, .int, .int, .int, .int], returnType := some .boolean }, accessFlags := 9, code := some k1c6 }
/-- com/example/cartulary/cartulary/store/SettingsReadsSameListAsPinLaw -/
def k1 : Class := { plain "com/example/cartulary/cartulary/store/SettingsReadsSameListAsPinLaw" (some 0) with
  accessFlags := 49
  interfaces := #[]
  cf := some (fileOf pool1 8 #[] #[{ accessFlags := 2, nameIndex := 5, descriptorIndex := 6, attributes := #[] }, { accessFlags := 10, nameIndex := 11, descriptorIndex := 12, attributes := #[] }, { accessFlags := 10, nameIndex := 20, descriptorIndex := 12, attributes := #[] }, { accessFlags := 10, nameIndex := 27, descriptorIndex := 12, attributes := #[] }, { accessFlags := 10, nameIndex := 30, descriptorIndex := 31, attributes := #[] }, { accessFlags := 10, nameIndex := 38, descriptorIndex := 39, attributes := #[] }, { accessFlags := 9, nameIndex := 50, descriptorIndex := 51, attributes := #[] }] 49 2 #[] #[])
  fields := #[]
  methods := #[k1m0, k1m1, k1m2, k1m3, k1m4, k1m5, k1m6]
  instanceTypes := #[]
  staticTypes := #[]
  resolved := Array.replicate 58 none
  statics := none }

def pool2 : Array CpInfo := pool [(1, .class_ 2), (0, u "java/io/Serializable"), (0, .class_ 4), (0, u "java/lang/Object")] 2

/-- java/io/Serializable -/
def k2 : Class := { plain "java/io/Serializable" (some 0) with
  accessFlags := 1537
  interfaces := #[]
  cf := some (fileOf pool2 1 #[] #[] 1537 3 #[] #[])
  fields := #[]
  methods := #[]
  instanceTypes := #[]
  staticTypes := #[]
  resolved := Array.replicate 7 none
  statics := none }

def pool3 : Array CpInfo := pool [(1, .class_ 2), (0, u "java/lang/Comparable"), (0, .class_ 4), (0, u "java/lang/Object")] 7

/-- java/lang/Comparable -/
def k3 : Class := { plain "java/lang/Comparable" (some 0) with
  accessFlags := 1537
  interfaces := #[]
  cf := some (fileOf pool3 1 #[] #[] 1537 3 #[] #[])
  fields := #[]
  methods := #[]
  instanceTypes := #[]
  staticTypes := #[]
  resolved := Array.replicate 12 none
  statics := none }

def pool4 : Array CpInfo := pool [(2, .class_ 4), (1, u "java/lang/CharSequence"), (42, .class_ 48), (0, u "java/lang/CharSequence$1CodePointIterator"), (10, .class_ 60), (0, u "java/lang/CharSequence$1CharIterator"), (5, .class_ 67), (0, u "java/lang/Object")] 63

/-- java/lang/CharSequence -/
def k4 : Class := { plain "java/lang/CharSequence" (some 0) with
  accessFlags := 1537
  interfaces := #[]
  cf := some (fileOf pool4 2 #[.nestMembers #[47, 59]] #[] 1537 66 #[] #[])
  fields := #[]
  methods := #[]
  instanceTypes := #[]
  staticTypes := #[]
  resolved := Array.replicate 131 none
  statics := none }

def pool5 : Array CpInfo := pool [(1, .class_ 2), (0, u "java/lang/constant/Constable"), (0, .class_ 4), (0, u "java/lang/Object")] 6

/-- java/lang/constant/Constable -/
def k5 : Class := { plain "java/lang/constant/Constable" (some 0) with
  accessFlags := 1537
  interfaces := #[]
  cf := some (fileOf pool5 1 #[] #[] 1537 3 #[] #[])
  fields := #[]
  methods := #[]
  instanceTypes := #[]
  staticTypes := #[]
  resolved := Array.replicate 11 none
  statics := none }

def pool6 : Array CpInfo := pool [(1, .class_ 2), (0, u "java/lang/constant/ConstantDesc"), (0, .class_ 4), (0, u "java/lang/Object")] 32

/-- java/lang/constant/ConstantDesc -/
def k6 : Class := { plain "java/lang/constant/ConstantDesc" (some 0) with
  accessFlags := 1537
  interfaces := #[]
  cf := some (fileOf pool6 1 #[] #[] 1537 3 #[] #[])
  fields := #[]
  methods := #[]
  instanceTypes := #[]
  staticTypes := #[]
  resolved := Array.replicate 37 none
  statics := none }

def pool7 : Array CpInfo := pool [(1, .methodref 2 3), (0, .class_ 4), (0, .nameAndType 5 6), (0, u "java/lang/Object"), (0, u "<init>"), (0, u "()V"), (0, .string 8), (0, u ""), (0, .fieldref 10 11), (0, .class_ 12), (0, .nameAndType 13 14), (0, u "java/lang/String"), (0, u "value"), (0, u "[B"), (0, .fieldref 10 16), (0, .nameAndType 17 18), (0, u "coder"), (0, u "B"), (2, u "hash"), (0, u "I"), (2, u "hashIsZero"), (0, u "Z"), (0, .methodref 10 28), (0, .nameAndType 5 29), (0, u "([CIILjava/lang/Void;)V"), (8, .fieldref 10 39), (0, .nameAndType 40 26), (0, u "COMPACT_STRINGS"), (1, .class_ 44), (1, u "java/lang/StringUTF16"), (0, u "compress"), (1, .methodref 42 48), (0, .nameAndType 49 50), (0, u "coderFromArrayLen"), (0, u "([BI)B"), (2, u "toBytes"), (53, .class_ 109), (1, u "java/lang/StringLatin1"), (67, .methodref 42 178), (0, .nameAndType 45 179), (0, u "([CII)[B"), (29, .methodref 10 210), (0, .nameAndType 5 211), (0, u "([BB)V"), (157, u "(C)Z"), (171, .methodref 107 542), (0, .nameAndType 543 544), (0, u "equals"), (0, u "([B[B)Z"), (28, u "(Ljava/lang/Object;)Z"), (1, .class_ 576), (0, u "java/lang/CharSequence"), (22, u "CASE_INSENSITIVE_ORDER"), (0, u "Ljava/util/Comparator;"), (181, u "valueOf"), (0, u "(C)Ljava/lang/String;"), (226, u "([C)V"), (4, .methodref 107 1016), (0, .nameAndType 1017 369), (0, u "canEncode"), (0, .methodref 107 1019), (0, .nameAndType 53 1020), (0, u "(C)[B"), (80, u "serialPersistentFields"), (0, u "[Ljava/io/ObjectStreamField;"), (0, .class_ 1104), (0, u "java/lang/String$CaseInsensitiveComparator"), (1, .class_ 1107), (0, u "java/io/Serializable"), (0, .class_ 1109), (0, u "java/lang/Comparable"), (0, .class_ 1111), (0, u "java/lang/constant/Constable"), (0, .class_ 1113), (0, u "java/lang/constant/ConstantDesc"), (2, u "serialVersionUID"), (0, u "J"), (3, u "REPL"), (0, u "C"), (2, u "LATIN1"), (1, u "UTF16")] 323

def k7m0 : Method := { name := "<init>", desc := "()V", sig := { parameters := [], returnType := none }, accessFlags := 1, code := none }
def k7c1 : Code := { maxStack := 5, maxLocals := 2, code := jdk_42_method_3_code, exceptionTable := #[], attributes := #[] }
def k7m1 : Method := { name := "<init>", desc := "([C)V", sig := { parameters := [(.array .char)], returnType := none }, accessFlags := 1, code := some k7c1 }
def k7c2 : Code := { maxStack := 2, maxLocals := 3, code := jdk_42_method_66_code, exceptionTable := #[], attributes := #[] }
def k7m2 : Method := { name := "equals", desc := "(Ljava/lang/Object;)Z", sig := { parameters := [(.object "java/lang/Object")], returnType := some .boolean }, accessFlags := 1, code := some k7c2 }
def k7c3 : Code := { maxStack := 4, maxLocals := 1, code := jdk_42_method_139_code, exceptionTable := #[], attributes := #[] }
def k7m3 : Method := { name := "valueOf", desc := "(C)Ljava/lang/String;", sig := { parameters := [.char], returnType := some (.object "java/lang/String") }, accessFlags := 9, code := some k7c3 }
def k7c4 : Code := { maxStack := 4, maxLocals := 6, code := jdk_42_method_149_code, exceptionTable := #[], attributes := #[] }
def k7m4 : Method := { name := "<init>", desc := "([CIILjava/lang/Void;)V", sig := { parameters := [(.array .char), .int, .int, (.object "java/lang/Void")], returnType := none }, accessFlags := 2, code := some k7c4 }
def k7c5 : Code := { maxStack := 2, maxLocals := 3, code := jdk_42_method_151_code, exceptionTable := #[], attributes := #[] }
def k7m5 : Method := { name := "<init>", desc := "([BB)V", sig := { parameters := [(.array .byte), .byte], returnType := none }, accessFlags := 0, code := some k7c5 }
/-- java/lang/String -/
def k7 : Class := { plain "java/lang/String" (some 0) with
  accessFlags := 49
  interfaces := #[2, 3, 4, 5, 6]
  cf := some (fileOf pool7 10 #[.nestMembers #[1103]] #[{ accessFlags := 1, nameIndex := 5, descriptorIndex := 6, attributes := #[] }, { accessFlags := 1, nameIndex := 5, descriptorIndex := 1010, attributes := #[] }, { accessFlags := 1, nameIndex := 543, descriptorIndex := 573, attributes := #[] }, { accessFlags := 9, nameIndex := 782, descriptorIndex := 783, attributes := #[] }, { accessFlags := 2, nameIndex := 5, descriptorIndex := 29, attributes := #[] }, { accessFlags := 0, nameIndex := 5, descriptorIndex := 211, attributes := #[] }] 49 2 #[1106, 1108, 575, 1110, 1112] #[{ accessFlags := 18, nameIndex := 13, descriptorIndex := 14, attributes := #[] }, { accessFlags := 18, nameIndex := 17, descriptorIndex := 18, attributes := #[] }, { accessFlags := 2, nameIndex := 21, descriptorIndex := 22, attributes := #[] }, { accessFlags := 2, nameIndex := 25, descriptorIndex := 26, attributes := #[] }, { accessFlags := 26, nameIndex := 1116, descriptorIndex := 1117, attributes := #[] }, { accessFlags := 24, nameIndex := 40, descriptorIndex := 26, attributes := #[] }, { accessFlags := 26, nameIndex := 1101, descriptorIndex := 1102, attributes := #[] }, { accessFlags := 26, nameIndex := 1121, descriptorIndex := 1122, attributes := #[] }, { accessFlags := 25, nameIndex := 599, descriptorIndex := 600, attributes := #[] }, { accessFlags := 24, nameIndex := 1125, descriptorIndex := 18, attributes := #[] }, { accessFlags := 24, nameIndex := 1127, descriptorIndex := 18, attributes := #[] }])
  fields := #[{ name := "value", type := (.array .byte), accessFlags := 18, slot := 0, constantValue := 0 }, { name := "coder", type := .byte, accessFlags := 18, slot := 1, constantValue := 0 }, { name := "hash", type := .int, accessFlags := 2, slot := 2, constantValue := 0 }, { name := "hashIsZero", type := .boolean, accessFlags := 2, slot := 3, constantValue := 0 }, { name := "serialVersionUID", type := .long, accessFlags := 26, slot := 0, constantValue := 0 }, { name := "COMPACT_STRINGS", type := .boolean, accessFlags := 24, slot := 1, constantValue := 0 }, { name := "serialPersistentFields", type := (.array (.object "java/io/ObjectStreamField")), accessFlags := 26, slot := 2, constantValue := 0 }, { name := "REPL", type := .char, accessFlags := 26, slot := 3, constantValue := 0 }, { name := "CASE_INSENSITIVE_ORDER", type := (.object "java/util/Comparator"), accessFlags := 25, slot := 4, constantValue := 0 }, { name := "LATIN1", type := .byte, accessFlags := 24, slot := 5, constantValue := 0 }, { name := "UTF16", type := .byte, accessFlags := 24, slot := 6, constantValue := 0 }]
  methods := #[k7m0, k7m1, k7m2, k7m3, k7m4, k7m5]
  instanceTypes := #[(.array .byte), .byte, .int, .boolean]
  staticTypes := #[.long, .boolean, (.array (.object "java/io/ObjectStreamField")), .char, (.object "java/util/Comparator"), .byte, .byte]
  resolved := Array.replicate 1451 none
  statics := some 0 }

def pool8 : Array CpInfo := pool [(6, .class_ 8), (1, u "java/lang/Object"), (0, u "<init>"), (0, u "()V"), (1, .class_ 14), (1, u "java/lang/StringUTF16"), (31, u "$assertionsDisabled"), (0, u "Z"), (13, u "HI_BYTE_SHIFT"), (0, u "I"), (2, u "LO_BYTE_SHIFT"), (49, .methodref 12 116), (0, .nameAndType 117 118), (0, u "compress"), (0, u "([CI[BII)I"), (3, u "([CII)[B"), (138, u "coderFromArrayLen"), (0, u "([BI)B"), (106, .class_ 371), (1, u "java/lang/StringUTF16$LinesSpliterator"), (58, u "MAX_LENGTH"), (196, .class_ 628), (0, u "java/lang/StringUTF16$CodePointsSpliterator"), (0, .class_ 630), (0, u "java/lang/StringUTF16$CharsSpliterator")] 4

def k8m0 : Method := { name := "<init>", desc := "()V", sig := { parameters := [], returnType := none }, accessFlags := 0, code := none }
def k8c1 : Code := { maxStack := 2, maxLocals := 2, code := jdk_52_method_15_code, exceptionTable := #[], attributes := #[] }
def k8m1 : Method := { name := "coderFromArrayLen", desc := "([BI)B", sig := { parameters := [(.array .byte), .int], returnType := some .byte }, accessFlags := 8, code := some k8c1 }
def k8c2 : Code := { maxStack := 5, maxLocals := 6, code := jdk_52_method_16_code, exceptionTable := #[], attributes := #[] }
def k8m2 : Method := { name := "compress", desc := "([CII)[B", sig := { parameters := [(.array .char), .int, .int], returnType := some (.array .byte) }, accessFlags := 9, code := some k8c2 }
def k8c3 : Code := { maxStack := 3, maxLocals := 7, code := jdk_52_method_21_code, exceptionTable := #[], attributes := #[] }
def k8m3 : Method := { name := "compress", desc := "([CI[BII)I", sig := { parameters := [(.array .char), .int, (.array .byte), .int, .int], returnType := some .int }, accessFlags := 9, code := some k8c3 }
/-- java/lang/StringUTF16 -/
def k8 : Class := { plain "java/lang/StringUTF16" (some 0) with
  accessFlags := 48
  interfaces := #[]
  cf := some (fileOf pool8 12 #[.nestMembers #[627, 629, 369]] #[{ accessFlags := 0, nameIndex := 9, descriptorIndex := 10, attributes := #[] }, { accessFlags := 8, nameIndex := 261, descriptorIndex := 262, attributes := #[] }, { accessFlags := 9, nameIndex := 117, descriptorIndex := 122, attributes := #[] }, { accessFlags := 9, nameIndex := 117, descriptorIndex := 118, attributes := #[] }] 48 6 #[] #[{ accessFlags := 26, nameIndex := 61, descriptorIndex := 62, attributes := #[] }, { accessFlags := 26, nameIndex := 65, descriptorIndex := 62, attributes := #[] }, { accessFlags := 24, nameIndex := 430, descriptorIndex := 62, attributes := #[] }, { accessFlags := 4120, nameIndex := 46, descriptorIndex := 47, attributes := #[] }])
  fields := #[{ name := "HI_BYTE_SHIFT", type := .int, accessFlags := 26, slot := 0, constantValue := 0 }, { name := "LO_BYTE_SHIFT", type := .int, accessFlags := 26, slot := 1, constantValue := 0 }, { name := "MAX_LENGTH", type := .int, accessFlags := 24, slot := 2, constantValue := 0 }, { name := "$assertionsDisabled", type := .boolean, accessFlags := 4120, slot := 3, constantValue := 0 }]
  methods := #[k8m0, k8m1, k8m2, k8m3]
  instanceTypes := #[]
  staticTypes := #[.int, .int, .int, .boolean]
  resolved := Array.replicate 635 none
  statics := none }

def pool9 : Array CpInfo := pool [(4, .class_ 6), (1, u "java/lang/Object"), (0, u "<init>"), (0, u "()V"), (5, .class_ 16), (1, u "java/lang/StringLatin1"), (73, u "canEncode"), (14, u "(C)Z"), (15, u "$assertionsDisabled"), (0, u "Z"), (98, .class_ 223), (1, u "java/lang/StringLatin1$LinesSpliterator"), (57, u "equals"), (0, u "([B[B)Z"), (97, u "toBytes"), (1, u "(C)[B"), (7, .class_ 391), (0, u "java/lang/StringLatin1$CharsSpliterator")] 3

def k9m0 : Method := { name := "<init>", desc := "()V", sig := { parameters := [], returnType := none }, accessFlags := 0, code := none }
def k9c1 : Code := { maxStack := 2, maxLocals := 1, code := jdk_43_method_3_code, exceptionTable := #[], attributes := #[] }
def k9m1 : Method := { name := "canEncode", desc := "(C)Z", sig := { parameters := [.char], returnType := some .boolean }, accessFlags := 9, code := some k9c1 }
def k9c2 : Code := { maxStack := 3, maxLocals := 3, code := jdk_43_method_13_code, exceptionTable := #[], attributes := #[] }
def k9m2 : Method := { name := "equals", desc := "([B[B)Z", sig := { parameters := [(.array .byte), (.array .byte)], returnType := some .boolean }, accessFlags := 9, code := some k9c2 }
def k9c3 : Code := { maxStack := 4, maxLocals := 1, code := jdk_43_method_46_code, exceptionTable := #[], attributes := #[] }
def k9m3 : Method := { name := "toBytes", desc := "(C)[B", sig := { parameters := [.char], returnType := some (.array .byte) }, accessFlags := 9, code := some k9c3 }
/-- java/lang/StringLatin1 -/
def k9 : Class := { plain "java/lang/StringLatin1" (some 0) with
  accessFlags := 48
  interfaces := #[]
  cf := some (fileOf pool9 14 #[.nestMembers #[390, 221]] #[{ accessFlags := 0, nameIndex := 7, descriptorIndex := 8, attributes := #[] }, { accessFlags := 9, nameIndex := 90, descriptorIndex := 105, attributes := #[] }, { accessFlags := 9, nameIndex := 281, descriptorIndex := 282, attributes := #[] }, { accessFlags := 9, nameIndex := 380, descriptorIndex := 382, attributes := #[] }] 48 4 #[] #[{ accessFlags := 4120, nameIndex := 121, descriptorIndex := 122, attributes := #[] }])
  fields := #[{ name := "$assertionsDisabled", type := .boolean, accessFlags := 4120, slot := 0, constantValue := 0 }]
  methods := #[k9m0, k9m1, k9m2, k9m3]
  instanceTypes := #[]
  staticTypes := #[.boolean]
  resolved := Array.replicate 395 none
  statics := none }

def pool10 : Array CpInfo := pool [(1, .methodref 2 3), (0, .class_ 4), (0, .nameAndType 5 6), (0, u "java/lang/Object"), (0, u "<init>"), (0, u "()V"), (0, .class_ 8), (0, u "java/lang/Record")] 13

def k10c0 : Code := { maxStack := 1, maxLocals := 1, code := jdk_30_method_1_code, exceptionTable := #[], attributes := #[] }
def k10m0 : Method := { name := "<init>", desc := "()V", sig := { parameters := [], returnType := none }, accessFlags := 4, code := some k10c0 }
/-- java/lang/Record -/
def k10 : Class := { plain "java/lang/Record" (some 0) with
  accessFlags := 1057
  interfaces := #[]
  cf := some (fileOf pool10 7 #[] #[{ accessFlags := 4, nameIndex := 5, descriptorIndex := 6, attributes := #[] }] 1057 2 #[] #[])
  fields := #[]
  methods := #[k10m0]
  instanceTypes := #[]
  staticTypes := #[]
  resolved := Array.replicate 22 none
  statics := none }

def pool11 : Array CpInfo := pool [(1, .methodref 2 3), (0, .class_ 4), (0, .nameAndType 5 6), (0, u "java/lang/Record"), (0, u "<init>"), (0, u "()V"), (0, .fieldref 8 9), (0, .class_ 10), (0, .nameAndType 11 12), (0, u "com/example/cartulary/cartulary/store/Harvester$Settings"), (0, u "name"), (0, u "Ljava/lang/String;"), (0, .fieldref 8 14), (0, .nameAndType 15 12), (0, u "url"), (0, .fieldref 8 17), (0, .nameAndType 18 12), (0, u "prefix"), (0, .fieldref 8 20), (0, .nameAndType 21 22), (0, u "every"), (0, u "I"), (0, .fieldref 8 24), (0, .nameAndType 25 26), (0, u "oneRunOnly"), (0, u "Z"), (0, .fieldref 8 28), (0, .nameAndType 29 26), (0, u "active"), (2, u "(Ljava/lang/String;Ljava/lang/String;Ljava/lang/String;IZZ)V"), (1, .class_ 36), (1, u "java/lang/String"), (16, .methodref 34 54), (0, .nameAndType 55 56), (0, u "equals"), (0, u "(Ljava/lang/Object;)Z"), (11, u "DEFAULT_EVERY"), (2, u "MIN_EVERY"), (1, u "MAX_EVERY"), (9, u "readsSameListAs"), (0, u "(Lcom/example/cartulary/cartulary/store/Harvester$Settings;)Z"), (5, .class_ 91), (0, u "com/example/cartulary/cartulary/store/Harvester")] 39

def k11c0 : Code := { maxStack := 2, maxLocals := 7, code := prog_73_method_1_code, exceptionTable := #[], attributes := #[] }
def k11m0 : Method := { name := "<init>", desc := "(Ljava/lang/String;Ljava/lang/String;Ljava/lang/String;IZZ)V", sig := { parameters := [(.object "java/lang/String"), (.object "java/lang/String"), (.object "java/lang/String"), .int, .boolean, .boolean], returnType := none }, accessFlags := 1, code := some k11c0 }
def k11c1 : Code := { maxStack := 2, maxLocals := 2, code := prog_73_method_4_code, exceptionTable := #[], attributes := #[] }
def k11m1 : Method := { name := "readsSameListAs", desc := "(Lcom/example/cartulary/cartulary/store/Harvester$Settings;)Z", sig := { parameters := [(.object "com/example/cartulary/cartulary/store/Harvester$Settings")], returnType := some .boolean }, accessFlags := 0, code := some k11c1 }
/-- com/example/cartulary/cartulary/store/Harvester$Settings -/
def k11 : Class := { plain "com/example/cartulary/cartulary/store/Harvester$Settings" (some 10) with
  accessFlags := 49
  interfaces := #[]
  cf := some (fileOf pool11 8 #[.nestHost 90] #[{ accessFlags := 1, nameIndex := 5, descriptorIndex := 32, attributes := #[] }, { accessFlags := 0, nameIndex := 83, descriptorIndex := 84, attributes := #[] }] 49 2 #[] #[{ accessFlags := 18, nameIndex := 11, descriptorIndex := 12, attributes := #[] }, { accessFlags := 18, nameIndex := 15, descriptorIndex := 12, attributes := #[] }, { accessFlags := 18, nameIndex := 18, descriptorIndex := 12, attributes := #[] }, { accessFlags := 18, nameIndex := 21, descriptorIndex := 22, attributes := #[] }, { accessFlags := 18, nameIndex := 25, descriptorIndex := 26, attributes := #[] }, { accessFlags := 18, nameIndex := 29, descriptorIndex := 26, attributes := #[] }, { accessFlags := 25, nameIndex := 68, descriptorIndex := 22, attributes := #[] }, { accessFlags := 25, nameIndex := 71, descriptorIndex := 22, attributes := #[] }, { accessFlags := 25, nameIndex := 73, descriptorIndex := 22, attributes := #[] }])
  fields := #[{ name := "name", type := (.object "java/lang/String"), accessFlags := 18, slot := 0, constantValue := 0 }, { name := "url", type := (.object "java/lang/String"), accessFlags := 18, slot := 1, constantValue := 0 }, { name := "prefix", type := (.object "java/lang/String"), accessFlags := 18, slot := 2, constantValue := 0 }, { name := "every", type := .int, accessFlags := 18, slot := 3, constantValue := 0 }, { name := "oneRunOnly", type := .boolean, accessFlags := 18, slot := 4, constantValue := 0 }, { name := "active", type := .boolean, accessFlags := 18, slot := 5, constantValue := 0 }, { name := "DEFAULT_EVERY", type := .int, accessFlags := 25, slot := 0, constantValue := 0 }, { name := "MIN_EVERY", type := .int, accessFlags := 25, slot := 1, constantValue := 0 }, { name := "MAX_EVERY", type := .int, accessFlags := 25, slot := 2, constantValue := 0 }]
  methods := #[k11m0, k11m1]
  instanceTypes := #[(.object "java/lang/String"), (.object "java/lang/String"), (.object "java/lang/String"), .int, .boolean, .boolean]
  staticTypes := #[.int, .int, .int]
  resolved := Array.replicate 131 none
  statics := none }

def pool12 : Array CpInfo := pool [(2, .class_ 4), (1, u "java/lang/Object"), (0, u "<init>"), (0, u "()V"), (17, .class_ 26), (1, u "jdk/internal/util/Preconditions"), (28, .class_ 56), (0, u "jdk/internal/util/Preconditions$4"), (57, .class_ 115), (0, u "jdk/internal/util/Preconditions$1"), (7, u "SIOOBE_FORMATTER"), (0, u "Ljava/util/function/BiFunction;"), (0, .class_ 126), (0, u "jdk/internal/util/Preconditions$2"), (3, u "AIOOBE_FORMATTER"), (0, .class_ 132), (0, u "jdk/internal/util/Preconditions$3"), (3, u "IOOBE_FORMATTER")] 57

def k12m0 : Method := { name := "<init>", desc := "()V", sig := { parameters := [], returnType := none }, accessFlags := 1, code := none }
/-- jdk/internal/util/Preconditions -/
def k12 : Class := { plain "jdk/internal/util/Preconditions" (some 0) with
  accessFlags := 33
  interfaces := #[]
  cf := some (fileOf pool12 24 #[.nestMembers #[55, 131, 125, 114]] #[{ accessFlags := 1, nameIndex := 5, descriptorIndex := 6, attributes := #[] }] 33 2 #[] #[{ accessFlags := 25, nameIndex := 123, descriptorIndex := 124, attributes := #[] }, { accessFlags := 25, nameIndex := 130, descriptorIndex := 124, attributes := #[] }, { accessFlags := 25, nameIndex := 136, descriptorIndex := 124, attributes := #[] }])
  fields := #[{ name := "SIOOBE_FORMATTER", type := (.object "java/util/function/BiFunction"), accessFlags := 25, slot := 0, constantValue := 0 }, { name := "AIOOBE_FORMATTER", type := (.object "java/util/function/BiFunction"), accessFlags := 25, slot := 1, constantValue := 0 }, { name := "IOOBE_FORMATTER", type := (.object "java/util/function/BiFunction"), accessFlags := 25, slot := 2, constantValue := 0 }]
  methods := #[k12m0]
  instanceTypes := #[]
  staticTypes := #[(.object "java/util/function/BiFunction"), (.object "java/util/function/BiFunction"), (.object "java/util/function/BiFunction")]
  resolved := Array.replicate 194 none
  statics := some 1 }

def pool13 : Array CpInfo := pool [(9, u "<init>"), (6, .class_ 18), (1, u "java/lang/Object"), (0, u "()V"), (1, .class_ 23), (1, u "jdk/internal/util/ArraysSupport"), (0, u "LOG2_ARRAY_LONG_INDEX_SCALE"), (0, u "I"), (2, u "U"), (0, u "Ljdk/internal/misc/Unsafe;"), (8, u "BIG_ENDIAN"), (0, u "Z"), (8, u "LOG2_BYTE_BIT_SIZE"), (4, u "LOG2_ARRAY_INT_INDEX_SCALE"), (54, u "JLA"), (0, u "Ljdk/internal/access/JavaLangAccess;"), (11, u "LOG2_ARRAY_BOOLEAN_INDEX_SCALE"), (9, u "LOG2_ARRAY_BYTE_INDEX_SCALE"), (5, u "LOG2_ARRAY_CHAR_INDEX_SCALE"), (5, u "LOG2_ARRAY_SHORT_INDEX_SCALE"), (18, u "LOG2_ARRAY_FLOAT_INDEX_SCALE"), (24, u "LOG2_ARRAY_DOUBLE_INDEX_SCALE"), (89, u "T_BOOLEAN"), (2, u "T_CHAR"), (1, u "T_FLOAT"), (1, u "T_DOUBLE"), (1, u "T_BYTE"), (1, u "T_SHORT"), (1, u "T_INT"), (1, u "T_LONG"), (1, u "SOFT_MAX_ARRAY_LENGTH")] 83

def k13m0 : Method := { name := "<init>", desc := "()V", sig := { parameters := [], returnType := none }, accessFlags := 2, code := none }
/-- jdk/internal/util/ArraysSupport -/
def k13 : Class := { plain "jdk/internal/util/ArraysSupport" (some 0) with
  accessFlags := 33
  interfaces := #[]
  cf := some (fileOf pool13 21 #[] #[{ accessFlags := 2, nameIndex := 9, descriptorIndex := 19, attributes := #[] }] 33 16 #[] #[{ accessFlags := 24, nameIndex := 28, descriptorIndex := 29, attributes := #[] }, { accessFlags := 26, nameIndex := 38, descriptorIndex := 39, attributes := #[] }, { accessFlags := 25, nameIndex := 121, descriptorIndex := 25, attributes := #[] }, { accessFlags := 25, nameIndex := 131, descriptorIndex := 25, attributes := #[] }, { accessFlags := 25, nameIndex := 137, descriptorIndex := 25, attributes := #[] }, { accessFlags := 25, nameIndex := 143, descriptorIndex := 25, attributes := #[] }, { accessFlags := 25, nameIndex := 53, descriptorIndex := 25, attributes := #[] }, { accessFlags := 25, nameIndex := 24, descriptorIndex := 25, attributes := #[] }, { accessFlags := 25, nameIndex := 162, descriptorIndex := 25, attributes := #[] }, { accessFlags := 25, nameIndex := 187, descriptorIndex := 25, attributes := #[] }, { accessFlags := 26, nameIndex := 48, descriptorIndex := 25, attributes := #[] }, { accessFlags := 25, nameIndex := 277, descriptorIndex := 25, attributes := #[] }, { accessFlags := 25, nameIndex := 280, descriptorIndex := 25, attributes := #[] }, { accessFlags := 25, nameIndex := 282, descriptorIndex := 25, attributes := #[] }, { accessFlags := 25, nameIndex := 284, descriptorIndex := 25, attributes := #[] }, { accessFlags := 25, nameIndex := 286, descriptorIndex := 25, attributes := #[] }, { accessFlags := 25, nameIndex := 288, descriptorIndex := 25, attributes := #[] }, { accessFlags := 25, nameIndex := 290, descriptorIndex := 25, attributes := #[] }, { accessFlags := 25, nameIndex := 292, descriptorIndex := 25, attributes := #[] }, { accessFlags := 26, nameIndex := 108, descriptorIndex := 109, attributes := #[] }, { accessFlags := 25, nameIndex := 294, descriptorIndex := 25, attributes := #[] }])
  fields := #[{ name := "U", type := (.object "jdk/internal/misc/Unsafe"), accessFlags := 24, slot := 0, constantValue := 0 }, { name := "BIG_ENDIAN", type := .boolean, accessFlags := 26, slot := 1, constantValue := 0 }, { name := "LOG2_ARRAY_BOOLEAN_INDEX_SCALE", type := .int, accessFlags := 25, slot := 2, constantValue := 0 }, { name := "LOG2_ARRAY_BYTE_INDEX_SCALE", type := .int, accessFlags := 25, slot := 3, constantValue := 0 }, { name := "LOG2_ARRAY_CHAR_INDEX_SCALE", type := .int, accessFlags := 25, slot := 4, constantValue := 0 }, { name := "LOG2_ARRAY_SHORT_INDEX_SCALE", type := .int, accessFlags := 25, slot := 5, constantValue := 0 }, { name := "LOG2_ARRAY_INT_INDEX_SCALE", type := .int, accessFlags := 25, slot := 6, constantValue := 0 }, { name := "LOG2_ARRAY_LONG_INDEX_SCALE", type := .int, accessFlags := 25, slot := 7, constantValue := 0 }, { name := "LOG2_ARRAY_FLOAT_INDEX_SCALE", type := .int, accessFlags := 25, slot := 8, constantValue := 0 }, { name := "LOG2_ARRAY_DOUBLE_INDEX_SCALE", type := .int, accessFlags := 25, slot := 9, constantValue := 0 }, { name := "LOG2_BYTE_BIT_SIZE", type := .int, accessFlags := 26, slot := 10, constantValue := 0 }, { name := "T_BOOLEAN", type := .int, accessFlags := 25, slot := 11, constantValue := 0 }, { name := "T_CHAR", type := .int, accessFlags := 25, slot := 12, constantValue := 0 }, { name := "T_FLOAT", type := .int, accessFlags := 25, slot := 13, constantValue := 0 }, { name := "T_DOUBLE", type := .int, accessFlags := 25, slot := 14, constantValue := 0 }, { name := "T_BYTE", type := .int, accessFlags := 25, slot := 15, constantValue := 0 }, { name := "T_SHORT", type := .int, accessFlags := 25, slot := 16, constantValue := 0 }, { name := "T_INT", type := .int, accessFlags := 25, slot := 17, constantValue := 0 }, { name := "T_LONG", type := .int, accessFlags := 25, slot := 18, constantValue := 0 }, { name := "JLA", type := (.object "jdk/internal/access/JavaLangAccess"), accessFlags := 26, slot := 19, constantValue := 0 }, { name := "SOFT_MAX_ARRAY_LENGTH", type := .int, accessFlags := 25, slot := 20, constantValue := 0 }]
  methods := #[k13m0]
  instanceTypes := #[]
  staticTypes := #[(.object "jdk/internal/misc/Unsafe"), .boolean, .int, .int, .int, .int, .int, .int, .int, .int, .int, .int, .int, .int, .int, .int, .int, .int, .int, (.object "jdk/internal/access/JavaLangAccess"), .int]
  resolved := Array.replicate 378 none
  statics := none }

def pool14 : Array CpInfo := pool [(1, u "java/lang/Cloneable"), (0, .class_ 1), (0, u "java/lang/Object"), (0, .class_ 3)] 3

/-- java/lang/Cloneable -/
def k14 : Class := { plain "java/lang/Cloneable" (some 0) with
  accessFlags := 1537
  interfaces := #[]
  cf := some (fileOf pool14 2 #[] #[] 1537 4 #[] #[])
  fields := #[]
  methods := #[]
  instanceTypes := #[]
  staticTypes := #[]
  resolved := Array.replicate 8 none
  statics := none }

/-- the primitive byte -/
def k15 : Class := { plain "byte" none with kind := .primitive 'B', accessFlags := 0x411 }
/-- [B -/
def k16 : Class := { plain "[B" (some 0) with kind := .array 15 .byte, interfaces := #[14, 2], accessFlags := 1041 }

/-- the primitive char -/
def k17 : Class := { plain "char" none with kind := .primitive 'C', accessFlags := 0x411 }
/-- [C -/
def k18 : Class := { plain "[C" (some 0) with kind := .array 17 .char, interfaces := #[14, 2], accessFlags := 1041 }

/-- the primitive int -/
def k19 : Class := { plain "int" none with kind := .primitive 'I', accessFlags := 0x411 }
/-- [I -/
def k20 : Class := { plain "[I" (some 0) with kind := .array 19 .int, interfaces := #[14, 2], accessFlags := 1041 }

def heap : Heap := #[{ cls := 7, slots := #[.long 0, .int 1, .null, .int 0, .null, .int 0, .int 0], vm := .statics 7 },
  { cls := 12, slots := #[.null, .null, .null], vm := .statics 12 }]
def classes : Array Class := #[k0, k1, k2, k3, k4, k5, k6, k7, k8, k9, k10, k11, k12, k13, k14, k15, k16, k17, k18, k19, k20]
def interned : List (Array UInt16 × Addr) := []
def slotsUsed : Nat := 10
def theMethod : MethodId := ⟨1, 6⟩
def args0 : Array Value := #[.int 5, .int 6, .int 7, .int 8, .int 9, .int 10]
def aboutOver (below : List Frame) : State where
  vm := { classes := classes, interned := interned.toArray }
  heap := heap
  slotsUsed := slotsUsed
  threads := #[{ frames := .invoking theMethod args0 :: below }]
def below0 : List Frame := [.native { method := ⟨0, 0⟩, args := #[] }]
def about1 : State := aboutOver below0
def p0 : Program := .bare "" "" ""
def e0 : Env := launch0.env 0 0 0
theorem w_frames : about1.frames = Frame.invoking theMethod args0 :: below0 := rfl
set_option maxRecDepth 65536 in
theorem w_args : argsFit about1.vm theMethod args0 = true := by decide +kernel
set_option maxRecDepth 65536 in
theorem w_heap : heapFits about1 = true := by decide +kernel
set_option maxRecDepth 65536 in
theorem w_runnable : about1.curStatus? = some .runnable := by decide +kernel
set_option maxRecDepth 65536 in
theorem w_alone : about1.alone = true := by decide +kernel
set_option maxRecDepth 65536 in
theorem w_named : about1.methodNamed? x = some theMethod := by decide +kernel
set_option maxRecDepth 65536 in
theorem w_hears : about1.hears theMethod below0 = true := by decide +kernel
set_option maxRecDepth 65536 in
theorem w_ripe : about1.ripe theMethod args0 below0 = true := by decide +kernel
theorem w_running : about1.status = .running := rfl
set_option maxRecDepth 65536 in
theorem w_room : about1.hasRoom e0.platform room_1 = true :=
  launch0.hasRoom_least _ room_1 (by decide +kernel) (by decide +kernel) (by decide +kernel) (by decide +kernel) (by decide +kernel) (by decide +kernel)
theorem allAtoms_all (ts : List Jvm.Cond) (a : Array Jvm.Value) (st : Jvm.State) : (allAtoms ts).before a st = ts.all (fun c => c.before a st) := by
  induction ts with
  | nil => rfl
  | cons c t ih =>
    show (Jvm.Cond.and c (allAtoms t)).before a st = _
    rw [Jvm.Cond.before_and, ih, List.all_cons]
def words1 : List Jvm.Cond := Jvm.Cond.code x code maxLocals ret :: tables_1
/-- a 'code' word, met by the world's own term for the bytes: nothing is compared byte by byte -/
theorem code_word {y : MethodName} {bytes : ByteArray} {mx : Nat} {rt : Option FieldType} {a : Array Value} {s : State} {m : MethodId} {meth : Method} {c : Code} (h1 : s.methodNamed? y = some m) (h2 : s.vm.method? m = some meth) (h3 : meth.code = some c) (h4 : c.code = bytes)
    (h5 : (c.maxLocals == mx && c.exceptionTable.isEmpty && decide (c.maxStack ≤ mostOperands) && decide (meth.sig.returnType = rt) && !meth.locks && decide (parseMethodDescriptor y.desc = some meth.sig)) = true) : (Jvm.Cond.code y bytes mx rt).before a s = true := by
  simp only [Bool.and_eq_true, beq_iff_eq, Bool.not_eq_true', decide_eq_true_eq] at h5
  obtain ⟨⟨⟨⟨⟨g1, g2⟩, g3⟩, g4⟩, g5⟩, g6⟩ := h5
  simp [Cond.before, Cond.holds, Cond.value, h1, h2, h3, h4, g1, g2, g3, g4, g5, g6]
def isCode : Jvm.Cond → Bool
  | .code _ _ _ _ => true
  | _ => false
theorem all_split {L : List Jvm.Cond} {P : Jvm.Cond → Bool} (h1 : L.all (fun c => isCode c || P c) = true) (h2 : ∀ c ∈ L.filter isCode, P c = true) : L.all P = true := by
  refine List.all_eq_true.mpr fun c hc => ?_
  have h := List.all_eq_true.mp h1 c hc
  rcases Bool.eq_false_or_eq_true (isCode c) with hi | hi
  · exact h2 c (List.mem_filter.mpr ⟨hc, hi⟩)
  · simpa [hi] using h
set_option maxRecDepth 65536 in
theorem w_c0 : (Jvm.Cond.code x code maxLocals ret).before args0 about1 = true := code_word (m := ⟨1, 6⟩) (meth := k1m6) (c := k1c6) (by decide +kernel) rfl rfl rfl (by decide +kernel)
set_option maxRecDepth 65536 in
theorem w_c1 : (Jvm.Cond.code ({ cls := "com/example/cartulary/cartulary/store/SettingsReadsSameListAsPinLaw", name := "str", desc := "(I)Ljava/lang/String;" } : Jvm.MethodName) method_5_code (3 : Nat) (Option.some (Jvm.ClassFile.FieldType.object "java/lang/String"))).before args0 about1 = true := code_word (m := ⟨1, 4⟩) (meth := k1m4) (c := k1c4) (by decide +kernel) rfl rfl rfl (by decide +kernel)
set_option maxRecDepth 65536 in
theorem w_c2 : (Jvm.Cond.code ({ cls := "com/example/cartulary/cartulary/store/SettingsReadsSameListAsPinLaw", name := "len", desc := "(I)I" } : Jvm.MethodName) method_2_code (1 : Nat) (Option.some Jvm.ClassFile.FieldType.int)).before args0 about1 = true := code_word (m := ⟨1, 1⟩) (meth := k1m1) (c := k1c1) (by decide +kernel) rfl rfl rfl (by decide +kernel)
set_option maxRecDepth 65536 in
theorem w_c3 : (Jvm.Cond.code ({ cls := "java/lang/String", name := "<init>", desc := "([C)V" } : Jvm.MethodName) jdk_42_method_3_code (2 : Nat) (Option.none : Option Jvm.ClassFile.FieldType)).before args0 about1 = true := code_word (m := ⟨7, 1⟩) (meth := k7m1) (c := k7c1) (by decide +kernel) rfl rfl rfl (by decide +kernel)
set_option maxRecDepth 65536 in
theorem w_c4 : (Jvm.Cond.code ({ cls := "java/lang/String", name := "<init>", desc := "([CIILjava/lang/Void;)V" } : Jvm.MethodName) jdk_42_method_149_code (6 : Nat) (Option.none : Option Jvm.ClassFile.FieldType)).before args0 about1 = true := code_word (m := ⟨7, 4⟩) (meth := k7m4) (c := k7c4) (by decide +kernel) rfl rfl rfl (by decide +kernel)
set_option maxRecDepth 65536 in
theorem w_c5 : (Jvm.Cond.code ({ cls := "java/lang/Object", name := "<init>", desc := "()V" } : Jvm.MethodName) object_method_1_code (1 : Nat) (Option.none : Option Jvm.ClassFile.FieldType)).before args0 about1 = true := code_word (m := ⟨0, 0⟩) (meth := k0m0) (c := k0c0) (by decide +kernel) rfl rfl rfl (by decide +kernel)
set_option maxRecDepth 65536 in
theorem w_c6 : (Jvm.Cond.code ({ cls := "com/example/cartulary/cartulary/store/SettingsReadsSameListAsPinLaw", name := "c0", desc := "(I)I" } : Jvm.MethodName) method_3_code (1 : Nat) (Option.some Jvm.ClassFile.FieldType.int)).before args0 about1 = true := code_word (m := ⟨1, 2⟩) (meth := k1m2) (c := k1c2) (by decide +kernel) rfl rfl rfl (by decide +kernel)
set_option maxRecDepth 65536 in
theorem w_c7 : (Jvm.Cond.code ({ cls := "com/example/cartulary/cartulary/store/SettingsReadsSameListAsPinLaw", name := "c1", desc := "(I)I" } : Jvm.MethodName) method_4_code (1 : Nat) (Option.some Jvm.ClassFile.FieldType.int)).before args0 about1 = true := code_word (m := ⟨1, 3⟩) (meth := k1m3) (c := k1c3) (by decide +kernel) rfl rfl rfl (by decide +kernel)
set_option maxRecDepth 65536 in
theorem w_c8 : (Jvm.Cond.code ({ cls := "java/lang/StringUTF16", name := "compress", desc := "([CII)[B" } : Jvm.MethodName) jdk_52_method_16_code (6 : Nat) (Option.some (Jvm.ClassFile.FieldType.array Jvm.ClassFile.FieldType.byte))).before args0 about1 = true := code_word (m := ⟨8, 2⟩) (meth := k8m2) (c := k8c2) (by decide +kernel) rfl rfl rfl (by decide +kernel)
set_option maxRecDepth 65536 in
theorem w_c9 : (Jvm.Cond.code ({ cls := "java/lang/StringUTF16", name := "compress", desc := "([CI[BII)I" } : Jvm.MethodName) jdk_52_method_21_code (7 : Nat) (Option.some Jvm.ClassFile.FieldType.int)).before args0 about1 = true := code_word (m := ⟨8, 3⟩) (meth := k8m3) (c := k8c3) (by decide +kernel) rfl rfl rfl (by decide +kernel)
set_option maxRecDepth 65536 in
theorem w_c10 : (Jvm.Cond.code ({ cls := "java/lang/StringUTF16", name := "coderFromArrayLen", desc := "([BI)B" } : Jvm.MethodName) jdk_52_method_15_code (2 : Nat) (Option.some Jvm.ClassFile.FieldType.byte)).before args0 about1 = true := code_word (m := ⟨8, 1⟩) (meth := k8m1) (c := k8c1) (by decide +kernel) rfl rfl rfl (by decide +kernel)
set_option maxRecDepth 65536 in
theorem w_c11 : (Jvm.Cond.code ({ cls := "java/lang/String", name := "valueOf", desc := "(C)Ljava/lang/String;" } : Jvm.MethodName) jdk_42_method_139_code (1 : Nat) (Option.some (Jvm.ClassFile.FieldType.object "java/lang/String"))).before args0 about1 = true := code_word (m := ⟨7, 3⟩) (meth := k7m3) (c := k7c3) (by decide +kernel) rfl rfl rfl (by decide +kernel)
set_option maxRecDepth 65536 in
theorem w_c12 : (Jvm.Cond.code ({ cls := "java/lang/StringLatin1", name := "canEncode", desc := "(C)Z" } : Jvm.MethodName) jdk_43_method_3_code (1 : Nat) (Option.some Jvm.ClassFile.FieldType.boolean)).before args0 about1 = true := code_word (m := ⟨9, 1⟩) (meth := k9m1) (c := k9c1) (by decide +kernel) rfl rfl rfl (by decide +kernel)
set_option maxRecDepth 65536 in
theorem w_c13 : (Jvm.Cond.code ({ cls := "java/lang/StringLatin1", name := "toBytes", desc := "(C)[B" } : Jvm.MethodName) jdk_43_method_46_code (1 : Nat) (Option.some (Jvm.ClassFile.FieldType.array Jvm.ClassFile.FieldType.byte))).before args0 about1 = true := code_word (m := ⟨9, 3⟩) (meth := k9m3) (c := k9c3) (by decide +kernel) rfl rfl rfl (by decide +kernel)
set_option maxRecDepth 65536 in
theorem w_c14 : (Jvm.Cond.code ({ cls := "java/lang/String", name := "<init>", desc := "([BB)V" } : Jvm.MethodName) jdk_42_method_151_code (3 : Nat) (Option.none : Option Jvm.ClassFile.FieldType)).before args0 about1 = true := code_word (m := ⟨7, 5⟩) (meth := k7m5) (c := k7c5) (by decide +kernel) rfl rfl rfl (by decide +kernel)
set_option maxRecDepth 65536 in
theorem w_c15 : (Jvm.Cond.code ({ cls := "com/example/cartulary/cartulary/store/SettingsReadsSameListAsPinLaw", name := "same", desc := "(II)Z" } : Jvm.MethodName) method_6_code (3 : Nat) (Option.some Jvm.ClassFile.FieldType.boolean)).before args0 about1 = true := code_word (m := ⟨1, 5⟩) (meth := k1m5) (c := k1c5) (by decide +kernel) rfl rfl rfl (by decide +kernel)
set_option maxRecDepth 65536 in
theorem w_c16 : (Jvm.Cond.code ({ cls := "com/example/cartulary/cartulary/store/Harvester$Settings", name := "<init>", desc := "(Ljava/lang/String;Ljava/lang/String;Ljava/lang/String;IZZ)V" } : Jvm.MethodName) prog_73_method_1_code (7 : Nat) (Option.none : Option Jvm.ClassFile.FieldType)).before args0 about1 = true := code_word (m := ⟨11, 0⟩) (meth := k11m0) (c := k11c0) (by decide +kernel) rfl rfl rfl (by decide +kernel)
set_option maxRecDepth 65536 in
theorem w_c17 : (Jvm.Cond.code ({ cls := "java/lang/Record", name := "<init>", desc := "()V" } : Jvm.MethodName) jdk_30_method_1_code (1 : Nat) (Option.none : Option Jvm.ClassFile.FieldType)).before args0 about1 = true := code_word (m := ⟨10, 0⟩) (meth := k10m0) (c := k10c0) (by decide +kernel) rfl rfl rfl (by decide +kernel)
set_option maxRecDepth 65536 in
theorem w_c18 : (Jvm.Cond.code ({ cls := "com/example/cartulary/cartulary/store/Harvester$Settings", name := "readsSameListAs", desc := "(Lcom/example/cartulary/cartulary/store/Harvester$Settings;)Z" } : Jvm.MethodName) prog_73_method_4_code (2 : Nat) (Option.some Jvm.ClassFile.FieldType.boolean)).before args0 about1 = true := code_word (m := ⟨11, 1⟩) (meth := k11m1) (c := k11c1) (by decide +kernel) rfl rfl rfl (by decide +kernel)
set_option maxRecDepth 65536 in
theorem w_c19 : (Jvm.Cond.code ({ cls := "java/lang/String", name := "equals", desc := "(Ljava/lang/Object;)Z" } : Jvm.MethodName) jdk_42_method_66_code (3 : Nat) (Option.some Jvm.ClassFile.FieldType.boolean)).before args0 about1 = true := code_word (m := ⟨7, 2⟩) (meth := k7m2) (c := k7c2) (by decide +kernel) rfl rfl rfl (by decide +kernel)
set_option maxRecDepth 65536 in
theorem w_c20 : (Jvm.Cond.code ({ cls := "java/lang/StringLatin1", name := "equals", desc := "([B[B)Z" } : Jvm.MethodName) jdk_43_method_13_code (3 : Nat) (Option.some Jvm.ClassFile.FieldType.boolean)).before args0 about1 = true := code_word (m := ⟨9, 2⟩) (meth := k9m2) (c := k9c2) (by decide +kernel) rfl rfl rfl (by decide +kernel)
def codes1 : List Jvm.Cond := [Jvm.Cond.code x code maxLocals ret, Jvm.Cond.code ({ cls := "com/example/cartulary/cartulary/store/SettingsReadsSameListAsPinLaw", name := "str", desc := "(I)Ljava/lang/String;" } : Jvm.MethodName) method_5_code (3 : Nat) (Option.some (Jvm.ClassFile.FieldType.object "java/lang/String")), Jvm.Cond.code ({ cls := "com/example/cartulary/cartulary/store/SettingsReadsSameListAsPinLaw", name := "len", desc := "(I)I" } : Jvm.MethodName) method_2_code (1 : Nat) (Option.some Jvm.ClassFile.FieldType.int), Jvm.Cond.code ({ cls := "java/lang/String", name := "<init>", desc := "([C)V" } : Jvm.MethodName) jdk_42_method_3_code (2 : Nat) (Option.none : Option Jvm.ClassFile.FieldType), Jvm.Cond.code ({ cls := "java/lang/String", name := "<init>", desc := "([CIILjava/lang/Void;)V" } : Jvm.MethodName) jdk_42_method_149_code (6 : Nat) (Option.none : Option Jvm.ClassFile.FieldType), Jvm.Cond.code ({ cls := "java/lang/Object", name := "<init>", desc := "()V" } : Jvm.MethodName) object_method_1_code (1 : Nat) (Option.none : Option Jvm.ClassFile.FieldType), Jvm.Cond.code ({ cls := "com/example/cartulary/cartulary/store/SettingsReadsSameListAsPinLaw", name := "c0", desc := "(I)I" } : Jvm.MethodName) method_3_code (1 : Nat) (Option.some Jvm.ClassFile.FieldType.int), Jvm.Cond.code ({ cls := "com/example/cartulary/cartulary/store/SettingsReadsSameListAsPinLaw", name := "c1", desc := "(I)I" } : Jvm.MethodName) method_4_code (1 : Nat) (Option.some Jvm.ClassFile.FieldType.int), Jvm.Cond.code ({ cls := "java/lang/StringUTF16", name := "compress", desc := "([CII)[B" } : Jvm.MethodName) jdk_52_method_16_code (6 : Nat) (Option.some (Jvm.ClassFile.FieldType.array Jvm.ClassFile.FieldType.byte)), Jvm.Cond.code ({ cls := "java/lang/StringUTF16", name := "compress", desc := "([CI[BII)I" } : Jvm.MethodName) jdk_52_method_21_code (7 : Nat) (Option.some Jvm.ClassFile.FieldType.int), Jvm.Cond.code ({ cls := "java/lang/StringUTF16", name := "coderFromArrayLen", desc := "([BI)B" } : Jvm.MethodName) jdk_52_method_15_code (2 : Nat) (Option.some Jvm.ClassFile.FieldType.byte), Jvm.Cond.code ({ cls := "java/lang/String", name := "valueOf", desc := "(C)Ljava/lang/String;" } : Jvm.MethodName) jdk_42_method_139_code (1 : Nat) (Option.some (Jvm.ClassFile.FieldType.object "java/lang/String")), Jvm.Cond.code ({ cls := "java/lang/StringLatin1", name := "canEncode", desc := "(C)Z" } : Jvm.MethodName) jdk_43_method_3_code (1 : Nat) (Option.some Jvm.ClassFile.FieldType.boolean), Jvm.Cond.code ({ cls := "java/lang/StringLatin1", name := "toBytes", desc := "(C)[B" } : Jvm.MethodName) jdk_43_method_46_code (1 : Nat) (Option.some (Jvm.ClassFile.FieldType.array Jvm.ClassFile.FieldType.byte)), Jvm.Cond.code ({ cls := "java/lang/String", name := "<init>", desc := "([BB)V" } : Jvm.MethodName) jdk_42_method_151_code (3 : Nat) (Option.none : Option Jvm.ClassFile.FieldType), Jvm.Cond.code ({ cls := "com/example/cartulary/cartulary/store/SettingsReadsSameListAsPinLaw", name := "same", desc := "(II)Z" } : Jvm.MethodName) method_6_code (3 : Nat) (Option.some Jvm.ClassFile.FieldType.boolean), Jvm.Cond.code ({ cls := "com/example/cartulary/cartulary/store/Harvester$Settings", name := "<init>", desc := "(Ljava/lang/String;Ljava/lang/String;Ljava/lang/String;IZZ)V" } : Jvm.MethodName) prog_73_method_1_code (7 : Nat) (Option.none : Option Jvm.ClassFile.FieldType), Jvm.Cond.code ({ cls := "java/lang/Record", name := "<init>", desc := "()V" } : Jvm.MethodName) jdk_30_method_1_code (1 : Nat) (Option.none : Option Jvm.ClassFile.FieldType), Jvm.Cond.code ({ cls := "com/example/cartulary/cartulary/store/Harvester$Settings", name := "readsSameListAs", desc := "(Lcom/example/cartulary/cartulary/store/Harvester$Settings;)Z" } : Jvm.MethodName) prog_73_method_4_code (2 : Nat) (Option.some Jvm.ClassFile.FieldType.boolean), Jvm.Cond.code ({ cls := "java/lang/String", name := "equals", desc := "(Ljava/lang/Object;)Z" } : Jvm.MethodName) jdk_42_method_66_code (3 : Nat) (Option.some Jvm.ClassFile.FieldType.boolean), Jvm.Cond.code ({ cls := "java/lang/StringLatin1", name := "equals", desc := "([B[B)Z" } : Jvm.MethodName) jdk_43_method_13_code (3 : Nat) (Option.some Jvm.ClassFile.FieldType.boolean)]
set_option maxRecDepth 65536 in
theorem codes_eq : words1.filter isCode = codes1 := rfl
theorem w_codes : ∀ c ∈ words1.filter isCode, c.before args0 about1 = true := by
  rw [codes_eq]
  intro c hc
  simp only [codes1, List.mem_cons, List.not_mem_nil, or_false] at hc
  rcases hc with rfl | rfl | rfl | rfl | rfl | rfl | rfl | rfl | rfl | rfl | rfl | rfl | rfl | rfl | rfl | rfl | rfl | rfl | rfl | rfl | rfl
  · exact w_c0
  · exact w_c1
  · exact w_c2
  · exact w_c3
  · exact w_c4
  · exact w_c5
  · exact w_c6
  · exact w_c7
  · exact w_c8
  · exact w_c9
  · exact w_c10
  · exact w_c11
  · exact w_c12
  · exact w_c13
  · exact w_c14
  · exact w_c15
  · exact w_c16
  · exact w_c17
  · exact w_c18
  · exact w_c19
  · exact w_c20
set_option maxRecDepth 65536 in
theorem w_t1 : (words1.take 24).all (fun c => isCode c || c.before args0 about1) = true := by decide +kernel
set_option maxRecDepth 65536 in
theorem w_t2 : ((words1.drop 24).take 24).all (fun c => isCode c || c.before args0 about1) = true := by decide +kernel
set_option maxRecDepth 65536 in
theorem w_t3 : (((words1.drop 24).drop 24).take 24).all (fun c => isCode c || c.before args0 about1) = true := by decide +kernel
set_option maxRecDepth 65536 in
theorem w_t4 : ((((words1.drop 24).drop 24).drop 24).take 24).all (fun c => isCode c || c.before args0 about1) = true := by decide +kernel
set_option maxRecDepth 65536 in
theorem w_t5 : ((((words1.drop 24).drop 24).drop 24).drop 24).all (fun c => isCode c || c.before args0 about1) = true := by decide +kernel
theorem w_tables : (allAtoms (Jvm.Cond.code x code maxLocals ret :: tables_1)).before args0 about1 = true := by
  rw [allAtoms_all]
  show words1.all (fun c => c.before args0 about1) = true
  refine all_split ?_ w_codes
  rw [← List.take_append_drop 24 words1, List.all_append, w_t1, ← List.take_append_drop 24 (words1.drop 24), List.all_append, w_t2, ← List.take_append_drop 24 ((words1.drop 24).drop 24), List.all_append, w_t3, ← List.take_append_drop 24 (((words1.drop 24).drop 24).drop 24), List.all_append, w_t4, w_t5]
  rfl
set_option maxRecDepth 65536 in
theorem w_rest : rest_1_c.before args0 about1 = true := by decide +kernel
set_option maxRecDepth 65536 in
theorem w_case : (Jvm.Cond.and given_1 narrow_1).before args0 about1 = true := by decide +kernel
set_option maxRecDepth 65536 in
theorem w_consts : constsHeld consts_1 about1 := Jvm.Lit.constsHeldB_iff.mp (by decide +kernel)
theorem w_applies : (headSpec (Jvm.Cond.code x code maxLocals ret :: tables_1) room_1).applies x e0.platform about1 = true :=
  (Spec.applies_iff w_frames).mpr ⟨w_running, w_runnable, w_alone, w_named, w_hears, w_ripe, w_room, w_tables⟩
theorem atStart : AtStart classFile x code maxLocals ret World_1 tables_1 room_1 Calls_1 rest_1 Pre_1 launch0 p0 e0 about1 theMethod args0 below0 :=
  ⟨lists_1, trivial, launch0.admits_env _ _ _, launch0.least_env, fairChoices_fair.cas, fairChoices_fair.clock, w_frames, w_args, w_heap, w_applies, ⟨w_consts, trivial⟩, w_rest, w_case⟩
end start1
theorem witness_1 : WitnessClaimed_1 := ⟨start1.p0, start1.e0, start1.about1, start1.theMethod, start1.args0, start1.below0, start1.atStart⟩
end Jvm.Pilot.@@N@@
