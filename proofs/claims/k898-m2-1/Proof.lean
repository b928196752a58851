import JvmDerived
import JvmDerived.Pilot.@@N@@Statement
import JvmDerived.Pilot.@@N@@Code
set_option linter.unusedVariables false
set_option linter.unusedSimpArgs false
namespace Jvm.RoadKit
open Sem ClassFile Op Lib Jvm.Stand Jvm.Free Jvm.LawKit
section New
variable {p : Program} {l : Launch} {e : Env} {R : Room} {s : State} {m : MethodId} {args : Array Value} {below : List Frame} {meth : Method} {c : Code} {T : State} {locs : List Loc} {cells slots : Nat}
theorem retI (X : Stand p l e R s m args below meth c T locs cells slots) (hx : p.tables.exec = Jvm.exec) {pc : Nat} {Ls : Array Slot} {z : Int32} {rest : List Value} (hret : meth.sig.returnType = some .int) (hd : decode c.code pc = .ok (.ireturn, 1)) {fs : List Frame}
    (hl : ∀ (f : JFrame) (acts : List Action), f.method = m → f.locked = none → f.entered = [] → (doReturn e (T.setTop f) acts (some (.int z))).1 = T.setFrames fs) : Steps p.tables e below (T.setTop (mkF m pc Ls (.int z :: rest))) (T.setFrames fs) := by
  have hm' : T.vm.method? m = some meth := X.method'
  have hn : narrow .int (.int z) = .int z := rfl
  show Steps p.tables e below (T.setTop { method := m, pc := pc, locals := Ls, stack := _ :: rest, locked := none }) _
  jvm_step X.here [X.here.top, hx, hd, hm', hret, hn]
  first | (intro acts; rw [hl _ acts rfl rfl rfl]) | rw [hl _ _ rfl rfl rfl]
  exact Steps.refl _
end New
end Jvm.RoadKit
/- laws to paste: Road.backV, Road.eqW, Road.empW, Road.codOf (cut by pick.py; bodies as the Statement names them) -/
namespace Jvm.Pilot.@@N@@
namespace StrChars
open Jvm Sem ClassFile Op Lib Jvm.Stand Jvm.Free.XT Jvm.Free.ALB Jvm.Free.JM Jvm.Free
open Jvm.Lib.Cold (StaticIs)
/-- a char array whose places are chars -/
def Ch (a : Addr) (A : Cell) (U : State) : Prop := Arr .char a A U ∧ Typed .char A
theorem Ch.mv {a : Addr} {A : Cell} {U U' : State} (h : Ch a A U) (hal : U.vm.Alike U'.vm) (hh : U'.heap = U.heap) : Ch a A U' := ⟨h.1.mv hal hh, h.2⟩
theorem Ch.keep {a : Addr} {A : Cell} {U U' : State} (h : Ch a A U) (hal : U.vm.Alike U'.vm) (hk : U'.heap[a]? = some A) : Ch a A U' := ⟨h.1.keep hal hk, h.2⟩
/-- what place i of a char[]'s cell holds -/
def cv (A : Cell) (i : Nat) : Int32 := match A.slots[i]? with | some (.int x) => x | _ => 0
theorem Ch.get {a : Addr} {A : Cell} {U : State} (h : Ch a A U) {i : Nat} (hi : i < A.slots.size) : A.slots[i]? = some (.int (cv A i)) := by
  have e := Array.getElem?_eq_getElem hi
  have f := h.2 i _ e
  unfold cv; rw [e]
  generalize A.slots[i] = v at f
  cases v <;> simp [fits] at f ⊢
/-- the byte that i2b leaves of a char -/
def lo8 (x : Int32) : Int32 := x.toInt8.toInt32
theorem fits_lo8 (y : Int32) : fits .byte (.int (lo8 y)) = true := by
  have h1 := y.toInt8.le_toInt
  have h2 := y.toInt8.toInt_lt
  simp only [lo8, fits, Bool.and_eq_true, decide_eq_true_eq, Int32.le_iff_toInt_le, Int8.toInt_toInt32, show (-128 : Int32).toInt = -128 from by decide, show (127 : Int32).toInt = 127 from by decide]
  omega
/-- A' is A but that each place j of lo .. hi - 1 holds f j -/
def Laid (A A' : Cell) (lo hi : Nat) (f : Nat → Value) : Prop := A'.cls = A.cls ∧ A'.vm = A.vm ∧ A'.slots.size = A.slots.size ∧ ∀ i, A'.slots[i]? = if lo ≤ i ∧ i < hi then some (f i) else A.slots[i]?
theorem Laid.zero (A : Cell) (lo : Nat) (f : Nat → Value) : Laid A A lo (lo + 0) f := ⟨rfl, rfl, rfl, fun i => by rw [if_neg (by omega)]⟩
theorem Laid.step {A Ak : Cell} {lo k : Nat} {f : Nat → Value} {v : Value} (h : Laid A Ak lo k f) (hlo : lo ≤ k) (hk : k < Ak.slots.size) (hv : v = f k) : Laid A (Ak.setSlot k v) lo (k + 1) f := by
  refine ⟨h.1, h.2.1, by simpa [Cell.setSlot] using h.2.2.1, fun i => ?_⟩
  by_cases e : k = i
  · subst e; rw [Cell.slots_setSlot_self v hk, if_pos (by omega), hv]
  · rw [Cell.slots_setSlot_ne v e, h.2.2.2 i]
    by_cases q : lo ≤ i ∧ i < k
    · rw [if_pos q, if_pos (by omega)]
    · rw [if_neg q, if_neg (by omega)]
def U16 : String := "java/lang/StringUTF16"
namespace Cmp5
def yN : MethodName := ⟨"java/lang/StringUTF16", "compress", "([CI[BII)I"⟩
abbrev yB : ByteArray := jdk_52_method_21_code
theorem d0 : decode yB 0 = .ok (.iconst 0, 1) := by decide +kernel
theorem d1 : decode yB 1 = .ok (.istore 5, 2) := by decide +kernel
theorem d3 : decode yB 3 = .ok (.iload 5, 2) := by decide +kernel
theorem d5 : decode yB 5 = .ok (.iload 4, 2) := by decide +kernel
theorem d7 : decode yB 7 = .ok (.if_icmp (.ge) 37, 3) := by decide +kernel
theorem d10 : decode yB 10 = .ok (.aload_n 0, 1) := by decide +kernel
theorem d11 : decode yB 11 = .ok (.iload_n 1, 1) := by decide +kernel
theorem d12 : decode yB 12 = .ok (.caload, 1) := by decide +kernel
theorem d13 : decode yB 13 = .ok (.istore 6, 2) := by decide +kernel
theorem d15 : decode yB 15 = .ok (.iload 6, 2) := by decide +kernel
theorem d17 : decode yB 17 = .ok (.sipush 255, 3) := by decide +kernel
theorem d20 : decode yB 20 = .ok (.if_icmp (.le) 6, 3) := by decide +kernel
theorem d26 : decode yB 26 = .ok (.aload_n 2, 1) := by decide +kernel
theorem d27 : decode yB 27 = .ok (.iload_n 3, 1) := by decide +kernel
theorem d28 : decode yB 28 = .ok (.iload 6, 2) := by decide +kernel
theorem d30 : decode yB 30 = .ok (.i2b, 1) := by decide +kernel
theorem d31 : decode yB 31 = .ok (.bastore, 1) := by decide +kernel
theorem d32 : decode yB 32 = .ok (.iinc 1 1, 3) := by decide +kernel
theorem d35 : decode yB 35 = .ok (.iinc 3 1, 3) := by decide +kernel
theorem d38 : decode yB 38 = .ok (.iinc 5 1, 3) := by decide +kernel
theorem d41 : decode yB 41 = .ok (.goto (-38), 3) := by decide +kernel
theorem d44 : decode yB 44 = .ok (.iload 4, 2) := by decide +kernel
theorem d46 : decode yB 46 = .ok (.ireturn, 1) := by decide +kernel
def site : List Cond := []
def tab : Cond := tabOf yN yB 7 (some .int) site
def P (b : Addr) (A : Cell) (d : Addr) (B : Cell) (o q len : Nat) (args : Array Value) (s : State) : Prop := args = #[.ref b, .int (Int32.ofNat o), .ref d, .int (Int32.ofNat q), .int (Int32.ofNat len)] ∧ Ch b A s ∧ Arr .byte d B s ∧ b ≠ d ∧ o + len ≤ A.slots.size ∧ q + len ≤ B.slots.size ∧ ∀ i, i < len → ¬ 255 < cv A (o + i)
def E (b : Addr) (A : Cell) (d : Addr) (B : Cell) (o q len : Nat) (r : Option Value) (s u : State) : Prop := r = some (.int (Int32.ofNat len)) ∧ ∃ B', Put d B' s u ∧ Laid B B' q (q + len) (fun j => Value.int (lo8 (cv A (o + (j - q)))))
/-- no char of the range above 255: len; the places written hold each char's low byte -/
theorem law (l : Launch) (b : Addr) (A : Cell) (d : Addr) (B : Cell) (o q len : Nat) : Law l yN 5 5 0 0 yB 7 (some .int) site (P b A d B o q len) (E b A d B o q len) (copyLocs d q len) 0 0 := by
  refine Law.of_walk (plainFor_of_name (by decide +kernel)) (by decide +kernel) (by decide +kernel) (by decide) (fun _ _ h => by rw [h.1]; rfl) (fun _ U U' hal hh h => ⟨h.1, h.2.1.mv hal hh, h.2.2.1.mv hal hh, h.2.2.2⟩) (fun r U U' V V' h1 hal h2 h => ⟨h.1, h.2.elim fun B' q => ⟨B', q.1.mv h1 h2, q.2⟩⟩) ?_
  intro p e s m args below meth c s₁ X0 hexec hbytes hml hret hlk hnm hown hh0 W hP
  obtain ⟨rfl, hA, hB, hne, l1, l2, hp⟩ := hP
  have c1 : Steps p.tables e below (s₁.setTop (entryFrame m #[.ref b, .int (Int32.ofNat o), .ref d, .int (Int32.ofNat q), .int (Int32.ofNat len)] 7)) (s₁.setTop (mkF m 0 #[.val (.ref b), .val (.int (Int32.ofNat o)), .val (.ref d), .val (.int (Int32.ofNat q)), .val (.int (Int32.ofNat len)), .unset, .unset] [])) := entry rfl
  have hA0 := hA.1.mv X0.warmed.alike hh0
  have hB0 := hB.mv X0.warmed.alike hh0
  have a31 := hA.1.2.2.2
  have c2 : Steps p.tables e below (s₁.setTop (entryFrame m #[.ref b, .int (Int32.ofNat o), .ref d, .int (Int32.ofNat q), .int (Int32.ofNat len)] 7)) (s₁.setTop (mkF m 3 #[.val (.ref b), .val (.int (Int32.ofNat o)), .val (.ref d), .val (.int (Int32.ofNat q)), .val (.int (Int32.ofNat len)), .val (.int 0), .unset] [])) := c1.trans (by
    refine iconstV X0.here hexec rfl 0 (hb hbytes d0) (by decide) ?_
    refine XS.istore X0.here hexec rfl (hb hbytes d1) rfl rfl ?_
    exact Steps.refl _)
  have loop : ∀ (r i : Nat), i + r = len → ∀ (z : Slot), (z = .unset ∨ ∃ w, z = .val w ∧ w.category = 1) → ∀ (Tl : State) (Bk : Cell), Stand p l e { frames := 0, locals := 0, cells := 0, slots := 0 } s m #[.ref b, .int (Int32.ofNat o), .ref d, .int (Int32.ofNat q), .int (Int32.ofNat len)] below meth c Tl ([] ++ copyLocs d q i) 0 0 → Put d Bk s₁ Tl → Laid B Bk q (q + i) (fun j => Value.int (lo8 (cv A (o + (j - q))))) →
      Steps p.tables e below (s₁.setTop (entryFrame m #[.ref b, .int (Int32.ofNat o), .ref d, .int (Int32.ofNat q), .int (Int32.ofNat len)] 7)) (Tl.setTop (mkF m 3 #[.val (.ref b), .val (.int (Int32.ofNat (o + i))), .val (.ref d), .val (.int (Int32.ofNat (q + i))), .val (.int (Int32.ofNat len)), .val (.int (Int32.ofNat i)), z] [])) → ∃ (T' : State) (B' : Cell) (z' : Slot), Stand p l e { frames := 0, locals := 0, cells := 0, slots := 0 } s m #[.ref b, .int (Int32.ofNat o), .ref d, .int (Int32.ofNat q), .int (Int32.ofNat len)] below meth c T' ([] ++ copyLocs d q len) 0 0 ∧ Put d B' s₁ T' ∧ Laid B B' q (q + len) (fun j => Value.int (lo8 (cv A (o + (j - q))))) ∧
      Steps p.tables e below (s₁.setTop (entryFrame m #[.ref b, .int (Int32.ofNat o), .ref d, .int (Int32.ofNat q), .int (Int32.ofNat len)] 7)) (T'.setTop (mkF m 3 #[.val (.ref b), .val (.int (Int32.ofNat (o + len))), .val (.ref d), .val (.int (Int32.ofNat (q + len))), .val (.int (Int32.ofNat len)), .val (.int (Int32.ofNat len)), z'] [])) := by
    intro r
    induction r with
    | zero =>
      intro i hi z hz Tl Bk Xl pl fl cl
      have hil : i = len := by omega
      rw [hil] at Xl fl cl
      exact ⟨Tl, Bk, z, Xl, pl, fl, cl⟩
    | succ r ih =>
      intro i hi z hz Tl Bk Xl pl fl cl
      have all := X0.warmed.alike.symm.trans Xl.warmed.alike
      have hAl := hA0.keep all (pl.other hne hA0.1)
      have hBk := hB0.like all pl.1 fl.1 fl.2.1 fl.2.2.1
      have hlt : q + i < Bk.slots.size := by rw [fl.2.2.1]; omega
      have c3 : Steps p.tables e below (s₁.setTop (entryFrame m #[.ref b, .int (Int32.ofNat o), .ref d, .int (Int32.ofNat q), .int (Int32.ofNat len)] 7)) (Tl.setTop (mkF m 12 #[.val (.ref b), .val (.int (Int32.ofNat (o + i))), .val (.ref d), .val (.int (Int32.ofNat (q + i))), .val (.int (Int32.ofNat len)), .val (.int (Int32.ofNat i)), z] [.int (Int32.ofNat (o + i)), .ref b])) := cl.trans (by
        refine XS.iload Xl.here hexec rfl (hb hbytes d3) rfl ?_
        refine XS.iload Xl.here hexec rfl (hb hbytes d5) rfl ?_
        refine XS.icmpNo Xl.here hexec rfl (hb hbytes d7) rfl (ii_ge_f (lt32 (by omega) (by omega))) ?_
        refine XS.aloadN Xl.here hexec rfl (hb hbytes d10) rfl rfl ?_
        refine XS.iloadN Xl.here hexec rfl (hb hbytes d11) rfl ?_
        exact Steps.refl _)
      have c4 : Steps p.tables e below (s₁.setTop (entryFrame m #[.ref b, .int (Int32.ofNat o), .ref d, .int (Int32.ofNat q), .int (Int32.ofNat len)] 7)) (Tl.setTop (mkF m 13 #[.val (.ref b), .val (.int (Int32.ofNat (o + i))), .val (.ref d), .val (.int (Int32.ofNat (q + i))), .val (.int (Int32.ofNat len)), .val (.int (Int32.ofNat i)), z] [.int (cv A (o + i))])) := c3.trans (by
        refine Xl.aget hexec hAl rfl (hA.get (i := o + i) (by omega)) rfl rfl (hb hbytes d12) ?_
        exact Steps.refl _)
      have c5 : Steps p.tables e below (s₁.setTop (entryFrame m #[.ref b, .int (Int32.ofNat o), .ref d, .int (Int32.ofNat q), .int (Int32.ofNat len)] 7)) (Tl.setTop (mkF m 15 #[.val (.ref b), .val (.int (Int32.ofNat (o + i))), .val (.ref d), .val (.int (Int32.ofNat (q + i))), .val (.int (Int32.ofNat len)), .val (.int (Int32.ofNat i)), .val (.int (cv A (o + i)))] [])) := c4.trans (by
        refine XS.istoreS Xl.here hexec rfl (hb hbytes d13) rfl rfl hz ?_
        exact Steps.refl _)
      have c6 : Steps p.tables e below (s₁.setTop (entryFrame m #[.ref b, .int (Int32.ofNat o), .ref d, .int (Int32.ofNat q), .int (Int32.ofNat len)] 7)) (Tl.setTop (mkF m 31 #[.val (.ref b), .val (.int (Int32.ofNat (o + i))), .val (.ref d), .val (.int (Int32.ofNat (q + i))), .val (.int (Int32.ofNat len)), .val (.int (Int32.ofNat i)), .val (.int (cv A (o + i)))] [.int (lo8 (cv A (o + i))), .int (Int32.ofNat (q + i)), .ref d])) := c5.trans (by
        refine XS.iload Xl.here hexec rfl (hb hbytes d15) rfl ?_
        refine sipushV Xl.here hexec rfl 255 (hb hbytes d17) (by decide) ?_
        refine XS.icmpYes Xl.here hexec rfl (pc0 := 20) rfl (hb hbytes d20) rfl (ii_le_t (hp i (by omega))) (by decide) rfl ?_
        refine XS.aloadN Xl.here hexec rfl (hb hbytes d26) rfl rfl ?_
        refine XS.iloadN Xl.here hexec rfl (hb hbytes d27) rfl ?_
        refine XS.iload Xl.here hexec rfl (hb hbytes d28) rfl ?_
        refine i2b Xl.here hexec rfl (hb hbytes d30) rfl ?_
        exact Steps.refl _)
      obtain ⟨T7, X7, p7, st7⟩ := Xl.aput hexec hBk rfl hlt rfl (fits_lo8 (cv A (o + i))) (g := (mkF m 31 #[.val (.ref b), .val (.int (Int32.ofNat (o + i))), .val (.ref d), .val (.int (Int32.ofNat (q + i))), .val (.int (Int32.ofNat len)), .val (.int (Int32.ofNat i)), .val (.int (cv A (o + i)))] [.int (lo8 (cv A (o + i))), .int (Int32.ofNat (q + i)), .ref d])) rfl (rest := []) rfl (hb hbytes d31)
      have c8 : Steps p.tables e below (s₁.setTop (entryFrame m #[.ref b, .int (Int32.ofNat o), .ref d, .int (Int32.ofNat q), .int (Int32.ofNat len)] 7)) (T7.setTop (mkF m 32 #[.val (.ref b), .val (.int (Int32.ofNat (o + i))), .val (.ref d), .val (.int (Int32.ofNat (q + i))), .val (.int (Int32.ofNat len)), .val (.int (Int32.ofNat i)), .val (.int (cv A (o + i)))] [])) := c6.trans (st7 _ (Steps.refl _))
      have c9 : Steps p.tables e below (s₁.setTop (entryFrame m #[.ref b, .int (Int32.ofNat o), .ref d, .int (Int32.ofNat q), .int (Int32.ofNat len)] 7)) (T7.setTop (mkF m 3 #[.val (.ref b), .val (.int (Int32.ofNat (o + i) + 1)), .val (.ref d), .val (.int (Int32.ofNat (q + i) + 1)), .val (.int (Int32.ofNat len)), .val (.int (Int32.ofNat i + 1)), .val (.int (cv A (o + i)))] [])) := c8.trans (by
        refine iincV X7.here hexec rfl 1 (hb hbytes d32) (by decide) rfl rfl ?_
        refine iincV X7.here hexec rfl 1 (hb hbytes d35) (by decide) rfl rfl ?_
        refine iincV X7.here hexec rfl 1 (hb hbytes d38) (by decide) rfl rfl ?_
        refine XS.goto X7.here hexec rfl (pc0 := 41) rfl (hb hbytes d41) (by decide) rfl ?_
        exact Steps.refl _)
      have c10 : Steps p.tables e below (s₁.setTop (entryFrame m #[.ref b, .int (Int32.ofNat o), .ref d, .int (Int32.ofNat q), .int (Int32.ofNat len)] 7)) (T7.setTop (mkF m 3 #[.val (.ref b), .val (.int (Int32.ofNat (o + (i + 1)))), .val (.ref d), .val (.int (Int32.ofNat (q + (i + 1)))), .val (.int (Int32.ofNat len)), .val (.int (Int32.ofNat (i + 1))), .val (.int (cv A (o + i)))] [])) := by
        have := c9
        rw [succ32, succ32, succ32] at this
        exact this
      exact ih (i + 1) (by omega) _ (Or.inr ⟨_, rfl, rfl⟩) T7 _ (by rw [copyLocs_step, ← List.append_assoc]; exact X7) (pl.trans p7) (fl.step (by omega) hlt (by simp)) c10
  obtain ⟨T9, B9, z9, X9, p9, f9, g9⟩ := loop len 0 (by omega) .unset (Or.inl rfl) s₁ B (by simpa [copyLocs] using X0) ⟨hB0.1, fun _ _ => rfl, rfl⟩ (Laid.zero _ _ _) c2
  have c11 : Steps p.tables e below (s₁.setTop (entryFrame m #[.ref b, .int (Int32.ofNat o), .ref d, .int (Int32.ofNat q), .int (Int32.ofNat len)] 7)) (T9.setTop (mkF m 46 #[.val (.ref b), .val (.int (Int32.ofNat (o + len))), .val (.ref d), .val (.int (Int32.ofNat (q + len))), .val (.int (Int32.ofNat len)), .val (.int (Int32.ofNat len)), z9] [.int (Int32.ofNat len)])) := g9.trans (by
    refine XS.iload X9.here hexec rfl (hb hbytes d3) rfl ?_
    refine XS.iload X9.here hexec rfl (hb hbytes d5) rfl ?_
    refine XS.icmpYes X9.here hexec rfl (pc0 := 7) rfl (hb hbytes d7) rfl (ii_ge_t (nlt32 (by omega) (Nat.le_refl _))) (by decide) rfl ?_
    refine XS.iload X9.here hexec rfl (hb hbytes d44) rfl ?_
    exact Steps.refl _)
  exact ⟨T9, some (.int (Int32.ofNat len)), _, _, _, X9, by simp, rfl, rfl, (fun h => by cases h), ⟨rfl, B9, p9.from hh0, f9⟩, fun fs hl => c11.trans (X9.ireturnOut hexec hret rfl (Or.inl rfl) (hb hbytes d46) hl)⟩
end Cmp5
namespace Cmp3
def yN : MethodName := ⟨"java/lang/StringUTF16", "compress", "([CII)[B"⟩
abbrev yB : ByteArray := jdk_52_method_16_code
theorem d0 : decode yB 0 = .ok (.iload_n 2, 1) := by decide +kernel
theorem d1 : decode yB 1 = .ok (.newarray .byte, 2) := by decide +kernel
theorem d3 : decode yB 3 = .ok (.astore_n 3, 1) := by decide +kernel
theorem d4 : decode yB 4 = .ok (.aload_n 0, 1) := by decide +kernel
theorem d5 : decode yB 5 = .ok (.iload_n 1, 1) := by decide +kernel
theorem d6 : decode yB 6 = .ok (.aload_n 3, 1) := by decide +kernel
theorem d7 : decode yB 7 = .ok (.iconst 0, 1) := by decide +kernel
theorem d8 : decode yB 8 = .ok (.iload_n 2, 1) := by decide +kernel
theorem d9 : decode yB 9 = .ok (.invokestatic 115, 3) := by decide +kernel
theorem d12 : decode yB 12 = .ok (.istore 4, 2) := by decide +kernel
theorem d14 : decode yB 14 = .ok (.iload 4, 2) := by decide +kernel
theorem d16 : decode yB 16 = .ok (.iload_n 2, 1) := by decide +kernel
theorem d17 : decode yB 17 = .ok (.if_icmp (.eq) 40, 3) := by decide +kernel
theorem d57 : decode yB 57 = .ok (.aload_n 3, 1) := by decide +kernel
theorem d58 : decode yB 58 = .ok (.areturn, 1) := by decide +kernel
def site : List Cond := [.arrayClass .byte, Cmp5.tab] ++ staticW U16 115 Cmp5.yN
def tab : Cond := tabOf yN yB 6 (some (.array .byte)) site
def P (b : Addr) (A : Cell) (o len : Nat) (args : Array Value) (s : State) : Prop := args = #[.ref b, .int (Int32.ofNat o), .int (Int32.ofNat len)] ∧ Ch b A s ∧ o + len ≤ A.slots.size ∧ len ≤ 536870912 ∧ ∀ i, i < len → ¬ 255 < cv A (o + i)
def E (b : Addr) (A : Cell) (o len : Nat) (r : Option Value) (s u : State) : Prop := NewArr .byte "[B" len (fun j => .int (lo8 (cv A (o + j)))) r s u ∧ u.heap.size = s.heap.size + 1
/-- no char of the range above 255: a new byte[] of their low bytes -/
theorem law (l : Launch) (b : Addr) (A : Cell) (o len : Nat) : Law l yN 3 3 1 18 yB 6 (some (.array .byte)) site (P b A o len) (E b A o len) [] 1 len := by
  refine Law.of_walk (plainFor_of_name (by decide +kernel)) (by decide +kernel) (by decide +kernel) (by decide) (fun _ _ h => by rw [h.1]; rfl) (fun _ U U' hal hh h => ⟨h.1, h.2.1.mv hal hh, h.2.2⟩) (fun r U U' V V' h1 hal h2 h => ⟨NewArr.mv r U U' V V' h1 hal h2 h.1, by rw [h1, h2]; exact h.2⟩) ?_
  intro p e s m args below meth c s₁ X0 hexec hbytes hml hret hlk hnm hown hh0 W hP
  obtain ⟨rfl, hA, l1, l2, hp⟩ := hP
  have a31 := hA.1.2.2.2
  have c1 : Steps p.tables e below (s₁.setTop (entryFrame m #[.ref b, .int (Int32.ofNat o), .int (Int32.ofNat len)] 6)) (s₁.setTop (mkF m 0 #[.val (.ref b), .val (.int (Int32.ofNat o)), .val (.int (Int32.ofNat len)), .unset, .unset, .unset] [])) := entry rfl
  have c2 : Steps p.tables e below (s₁.setTop (entryFrame m #[.ref b, .int (Int32.ofNat o), .int (Int32.ofNat len)] 6)) (s₁.setTop (mkF m 1 #[.val (.ref b), .val (.int (Int32.ofNat o)), .val (.int (Int32.ofNat len)), .unset, .unset, .unset] [.int (Int32.ofNat len)])) := c1.trans (by
    refine XS.iloadN X0.here hexec rfl (hb hbytes d0) rfl ?_
    exact Steps.refl _)
  obtain ⟨T3, B3, X3, ba3, bs3, bv3, bh3, bf3, st3⟩ := X0.anew hexec (atype := .byte) (wk W (.arrayClass .byte)) rfl (by show len * 1 ≤ _; omega) (by omega) (g := (mkF m 1 #[.val (.ref b), .val (.int (Int32.ofNat o)), .val (.int (Int32.ofNat len)), .unset, .unset, .unset] [.int (Int32.ofNat len)])) rfl (hb hbytes d1) (rest := []) rfl (Nat.le_refl _) (by show 0 + len ≤ len; omega)
  rw [hh0] at ba3 st3
  have kp3 : XT.Kept s T3 := (XT.Kept.of_eq hh0).push bh3
  have hA3 := hA.keep X3.warmed.alike (kp3 _ _ hA.1.1)
  have hne : b ≠ s.heap.size := hA.1.ne
  have c4 : Steps p.tables e below (s₁.setTop (entryFrame m #[.ref b, .int (Int32.ofNat o), .int (Int32.ofNat len)] 6)) (T3.setTop (mkF m 3 #[.val (.ref b), .val (.int (Int32.ofNat o)), .val (.int (Int32.ofNat len)), .unset, .unset, .unset] [.ref s.heap.size])) := c2.trans (st3 _ (Steps.refl _))
  have c5 : Steps p.tables e below (s₁.setTop (entryFrame m #[.ref b, .int (Int32.ofNat o), .int (Int32.ofNat len)] 6)) (T3.setTop (mkF m 9 #[.val (.ref b), .val (.int (Int32.ofNat o)), .val (.int (Int32.ofNat len)), .val (.ref s.heap.size), .unset, .unset] [.int (Int32.ofNat len), .int 0, .ref s.heap.size, .int (Int32.ofNat o), .ref b])) := c4.trans (by
    refine XS.astoreN X3.here hexec rfl (hb hbytes d3) rfl rfl rfl ?_
    refine XS.aloadN X3.here hexec rfl (hb hbytes d4) rfl rfl ?_
    refine XS.iloadN X3.here hexec rfl (hb hbytes d5) rfl ?_
    refine XS.aloadN X3.here hexec rfl (hb hbytes d6) rfl rfl ?_
    refine iconstV X3.here hexec rfl 0 (hb hbytes d7) (by decide) ?_
    refine XS.iloadN X3.here hexec rfl (hb hbytes d8) rfl ?_
    exact Steps.refl _)
  obtain ⟨v6, T6, X6, E6, g6⟩ := X3.callS hexec (Cmp5.law l b A s.heap.size B3 o 0 len) hown (wks W (staticW U16 115 Cmp5.yN)) (wk W Cmp5.tab) (W := 0) (Nat.le_of_ble_eq_true rfl) (Nat.le_of_ble_eq_true rfl) (Nat.le_refl _) (by show 0 + len + 0 ≤ len; omega) (g := (mkF m 9 #[.val (.ref b), .val (.int (Int32.ofNat o)), .val (.int (Int32.ofNat len)), .val (.ref s.heap.size), .unset, .unset] [.int (Int32.ofNat len), .int (Int32.ofNat 0), .ref s.heap.size, .int (Int32.ofNat o), .ref b])) rfl (by rw [hml]; rfl) c5 (argsL := [.ref b, .int (Int32.ofNat o), .ref s.heap.size, .int (Int32.ofNat 0), .int (Int32.ofNat len)]) (rest := []) rfl rfl (by show 2 * 0 + 0 ≤ _; decide) (hb hbytes d9) (⟨rfl, hA3, ba3, hne, l1, by rw [bs3]; simp, hp⟩)
  obtain ⟨rfl, B6, p6, f6⟩ := E6
  have c7 : Steps p.tables e below (s₁.setTop (entryFrame m #[.ref b, .int (Int32.ofNat o), .int (Int32.ofNat len)] 6)) (T6.setTop (mkF m 12 #[.val (.ref b), .val (.int (Int32.ofNat o)), .val (.int (Int32.ofNat len)), .val (.ref s.heap.size), .unset, .unset] [.int (Int32.ofNat len)])) := g6
  have c8 : Steps p.tables e below (s₁.setTop (entryFrame m #[.ref b, .int (Int32.ofNat o), .int (Int32.ofNat len)] 6)) (T6.setTop (mkF m 58 #[.val (.ref b), .val (.int (Int32.ofNat o)), .val (.int (Int32.ofNat len)), .val (.ref s.heap.size), .val (.int (Int32.ofNat len)), .unset] [.ref s.heap.size])) := c7.trans (by
    refine XS.istore X6.here hexec rfl (hb hbytes d12) rfl rfl ?_
    refine XS.iload X6.here hexec rfl (hb hbytes d14) rfl ?_
    refine XS.iloadN X6.here hexec rfl (hb hbytes d16) rfl ?_
    refine XS.icmpYes X6.here hexec rfl (pc0 := 17) rfl (hb hbytes d17) rfl (ii_eq_t rfl) (by decide) rfl ?_
    refine XS.aloadN X6.here hexec rfl (hb hbytes d57) rfl rfl ?_
    exact Steps.refl _)
  have X8 := X6.wide (L' := []) (cells' := 1) (slots' := len) (fun x hx hlt => by
    simp only [List.nil_append, copyLocs, List.mem_map, List.mem_range] at hx
    obtain ⟨i, -, rfl⟩ := hx
    exact absurd hlt (Nat.lt_irrefl _)) (Nat.le_refl _) (by omega)
  exact ⟨T6, some (.ref s.heap.size), _, _, _, X8, rfl, rfl, rfl, (fun h => by cases h), ⟨⟨rfl, B6, ba3.like (X3.warmed.alike.symm.trans X6.warmed.alike) p6.1 f6.1 f6.2.1 f6.2.2.1, f6.2.1.trans bv3, by rw [X6.warmed.alike.findClass, f6.1]; exact bf3, by rw [f6.2.2.1, bs3]; simp, fun j hj => by rw [f6.2.2.2 j, if_pos (by omega)]; rfl, kp3.put p6 (Nat.le_refl _)⟩, by rw [p6.2.2, bh3, hh0]; simp⟩, fun fs hl => c8.trans (X8.areturnOut hexec rfl hret rfl (hb hbytes d58) hl)⟩
end Cmp3
namespace CodL
def yN : MethodName := ⟨"java/lang/StringUTF16", "coderFromArrayLen", "([BI)B"⟩
abbrev yB : ByteArray := jdk_52_method_15_code
theorem d0 : decode yB 0 = .ok (.iload_n 1, 1) := by decide +kernel
theorem d1 : decode yB 1 = .ok (.aload_n 0, 1) := by decide +kernel
theorem d2 : decode yB 2 = .ok (.arraylength, 1) := by decide +kernel
theorem d3 : decode yB 3 = .ok (.isub, 1) := by decide +kernel
theorem d4 : decode yB 4 = .ok (.bipush 31, 2) := by decide +kernel
theorem d6 : decode yB 6 = .ok (.iushr, 1) := by decide +kernel
theorem d7 : decode yB 7 = .ok (.i2b, 1) := by decide +kernel
theorem d8 : decode yB 8 = .ok (.ireturn, 1) := by decide +kernel
def site : List Cond := []
def tab : Cond := tabOf yN yB 2 (some .byte) site
def P (d : Addr) (B : Cell) (args : Array Value) (s : State) : Prop := args = #[.ref d, .int (Int32.ofNat B.slots.size)] ∧ Arr .byte d B s
def E (r : Option Value) (s u : State) : Prop := XT.PureE (some (.int 0)) r s u
/-- an array as long as the number of chars: LATIN1 -/
theorem law (l : Launch) (d : Addr) (B : Cell) : Law l yN 2 2 0 0 yB 2 (some .byte) site (P d B) E [] 0 0 := by
  refine Law.of_walk (plainFor_of_name (by decide +kernel)) (by decide +kernel) (by decide +kernel) (by decide) (fun _ _ h => by rw [h.1]; rfl) (fun _ U U' hal hh h => ⟨h.1, h.2.mv hal hh⟩) (fun r U U' V V' h1 hal h2 h => XT.PureE.mv r U U' V V' h1 hal h2 h) ?_
  intro p e s m args below meth c s₁ X0 hexec hbytes hml hret hlk hnm hown hh0 W hP
  obtain ⟨rfl, hB⟩ := hP
  have hB0 := hB.mv X0.warmed.alike hh0
  have c1 : Steps p.tables e below (s₁.setTop (entryFrame m #[.ref d, .int (Int32.ofNat B.slots.size)] 2)) (s₁.setTop (mkF m 0 #[.val (.ref d), .val (.int (Int32.ofNat B.slots.size))] [])) := entry rfl
  have c2 : Steps p.tables e below (s₁.setTop (entryFrame m #[.ref d, .int (Int32.ofNat B.slots.size)] 2)) (s₁.setTop (mkF m 2 #[.val (.ref d), .val (.int (Int32.ofNat B.slots.size))] [.ref d, .int (Int32.ofNat B.slots.size)])) := c1.trans (by
    refine XS.iloadN X0.here hexec rfl (hb hbytes d0) rfl ?_
    refine XS.aloadN X0.here hexec rfl (hb hbytes d1) rfl rfl ?_
    exact Steps.refl _)
  have c3 : Steps p.tables e below (s₁.setTop (entryFrame m #[.ref d, .int (Int32.ofNat B.slots.size)] 2)) (s₁.setTop (mkF m 8 #[.val (.ref d), .val (.int (Int32.ofNat B.slots.size))] [.int (lo8 (ushr (Int32.ofNat B.slots.size - Int32.ofNat B.slots.size) 31))])) := c2.trans (by
    refine X0.alen hexec hB0 rfl rfl (hb hbytes d2) ?_
    refine XS.isub X0.here hexec rfl (hb hbytes d3) rfl ?_
    refine bipushV X0.here hexec rfl 31 (hb hbytes d4) (by decide) ?_
    refine iushr X0.here hexec rfl (hb hbytes d6) rfl ?_
    refine i2b X0.here hexec rfl (hb hbytes d7) rfl ?_
    exact Steps.refl _)
  have e0 : lo8 (ushr (Int32.ofNat B.slots.size - Int32.ofNat B.slots.size) 31) = 0 := by rw [Int32.sub_self]; decide
  rw [e0] at c3
  exact ⟨s₁, some (.int 0), _, _, _, X0, rfl, rfl, rfl, (fun h => by cases h), ⟨rfl, hh0⟩, fun fs hl => c3.trans (X0.ireturnOut hexec hret rfl (Or.inr (Or.inr (Or.inl rfl))) (hb hbytes d8) hl)⟩
end CodL
/-- the String at a is Latin-1 over a new byte[] (the heap's one new cell): the low bytes of the len chars of A from o on; every cell but a is kept -/
def Got (a : Addr) (D : Cell) (fV fC : Field) (A : Cell) (o len : Nat) (r : Option Value) (s u : State) : Prop := r = none ∧ ∃ D' V : Cell, Blank "java/lang/String" a D' u ∧ Same D D' [fV.slot, fC.slot] ∧ D'.slots[fV.slot]? = some (.ref s.heap.size) ∧ D'.slots[fC.slot]? = some (.int 0) ∧ Arr .byte s.heap.size V u ∧ V.vm = .none ∧ u.vm.findClass "[B" = some V.cls ∧ V.slots.size = len ∧ (∀ j, j < len → V.slots[j]? = some (.int (lo8 (cv A (o + j))))) ∧ (∀ (y : Addr) (c : Cell), y ≠ a → s.heap[y]? = some c → u.heap[y]? = some c) ∧ u.heap.size = s.heap.size + 1
theorem Got.mv {a : Addr} {D A : Cell} {fV fC : Field} {o len : Nat} : ∀ r (U U' V V' : State), U'.heap = U.heap → V.vm.Alike V'.vm → V'.heap = V.heap → Got a D fV fC A o len r U V → Got a D fV fC A o len r U' V' :=
  fun r U U' V V' h1 hal h2 ⟨e0, D', X, a1, a2, a3, a4, a5, a6, a7, a8, a9, a10, a11⟩ => ⟨e0, D', X, a1.mv hal h2, a2, by rw [h1]; exact a3, a4, by rw [h1]; exact a5.mv hal h2, a6, by rw [hal.findClass]; exact a7, a8, a9, by rw [h1, h2]; exact a10, by rw [h1, h2]; exact a11⟩
namespace New4
def yN : MethodName := ⟨"java/lang/String", "<init>", "([CIILjava/lang/Void;)V"⟩
abbrev yB : ByteArray := jdk_42_method_149_code
theorem d0 : decode yB 0 = .ok (.aload_n 0, 1) := by decide +kernel
theorem d1 : decode yB 1 = .ok (.invokespecial 1, 3) := by decide +kernel
theorem d4 : decode yB 4 = .ok (.iload_n 3, 1) := by decide +kernel
theorem d5 : decode yB 5 = .ok (.ifCond (.ne) 22, 3) := by decide +kernel
theorem d27 : decode yB 27 = .ok (.getstatic 38, 3) := by decide +kernel
theorem d30 : decode yB 30 = .ok (.ifCond (.eq) 28, 3) := by decide +kernel
theorem d33 : decode yB 33 = .ok (.aload_n 1, 1) := by decide +kernel
theorem d34 : decode yB 34 = .ok (.iload_n 2, 1) := by decide +kernel
theorem d35 : decode yB 35 = .ok (.iload_n 3, 1) := by decide +kernel
theorem d36 : decode yB 36 = .ok (.invokestatic 177, 3) := by decide +kernel
theorem d39 : decode yB 39 = .ok (.astore 5, 2) := by decide +kernel
theorem d41 : decode yB 41 = .ok (.aload_n 0, 1) := by decide +kernel
theorem d42 : decode yB 42 = .ok (.aload 5, 2) := by decide +kernel
theorem d44 : decode yB 44 = .ok (.iload_n 3, 1) := by decide +kernel
theorem d45 : decode yB 45 = .ok (.invokestatic 47, 3) := by decide +kernel
theorem d48 : decode yB 48 = .ok (.putfield 15, 3) := by decide +kernel
theorem d51 : decode yB 51 = .ok (.aload_n 0, 1) := by decide +kernel
theorem d52 : decode yB 52 = .ok (.aload 5, 2) := by decide +kernel
theorem d54 : decode yB 54 = .ok (.putfield 9, 3) := by decide +kernel
theorem d57 : decode yB 57 = .ok (.return_, 1) := by decide +kernel
def site : List Cond := [.fieldLink "java/lang/String" 38 "java/lang/String" "COMPACT_STRINGS" "Z", Cmp3.tab, CodL.tab, .laysFinal "java/lang/String" "java/lang/String" "value" "[B", .fieldLink "java/lang/String" 9 "java/lang/String" "value" "[B", .laysFinal "java/lang/String" "java/lang/String" "coder" "B", .fieldLink "java/lang/String" 15 "java/lang/String" "coder" "B"] ++ objW "java/lang/String" 1 ++ staticW "java/lang/String" 177 Cmp3.yN ++ staticW "java/lang/String" 47 CodL.yN
def tab : Cond := tabOf yN yB 6 none site
def P (a : Addr) (D : Cell) (fV fC : Field) (b : Addr) (A : Cell) (z : Int32) (o len : Nat) (args : Array Value) (s : State) : Prop := args = #[.ref a, .ref b, .int (Int32.ofNat o), .int (Int32.ofNat len), .null] ∧ Blank "java/lang/String" a D s ∧ Found "java/lang/String" "value" "[B" fV s ∧ Found "java/lang/String" "coder" "B" fC s ∧ Ch b A s ∧ StaticIs s "java/lang/String" "COMPACT_STRINGS" "Z" (.int z) ∧ ¬ z = 0 ∧ 0 < len ∧ o + len ≤ A.slots.size ∧ len ≤ 536870912 ∧ ∀ i, i < len → ¬ 255 < cv A (o + i)
def E (a : Addr) (D : Cell) (fV fC : Field) (A : Cell) (o len : Nat) (r : Option Value) (s u : State) : Prop := Got a D fV fC A o len r s u
/-- len > 0, no char of the range above 255: a Latin-1 String of their low bytes -/
theorem law (l : Launch) (a : Addr) (D : Cell) (fV fC : Field) (b : Addr) (A : Cell) (z : Int32) (o len : Nat) : Law l yN 5 4 2 35 yB 6 none site (P a D fV fC b A z o len) (E a D fV fC A o len) [⟨a, fC.slot⟩, ⟨a, fV.slot⟩] 1 len := by
  refine Law.of_walk (plainFor_of_name (by decide +kernel)) (by decide +kernel) (by decide +kernel) (by decide) (fun _ _ h => by rw [h.1]; rfl) (fun _ U U' hal hh h => ⟨h.1, h.2.1.mv hal hh, h.2.2.1.al hal, h.2.2.2.1.al hal, h.2.2.2.2.1.mv hal hh, h.2.2.2.2.2.1.there hal hh, h.2.2.2.2.2.2⟩) (fun r U U' V V' h1 hal h2 h => Got.mv r U U' V V' h1 hal h2 h) ?_
  intro p e s m args below meth c s₁ X0 hexec hbytes hml hret hlk hnm hown hh0 W hP
  obtain ⟨rfl, hB, f1, f2, hA, s1, hz, l0, l1, l2, hp⟩ := hP
  have a31 := hA.1.2.2.2
  have c1 : Steps p.tables e below (s₁.setTop (entryFrame m #[.ref a, .ref b, .int (Int32.ofNat o), .int (Int32.ofNat len), .null] 6)) (s₁.setTop (mkF m 0 #[.val (.ref a), .val (.ref b), .val (.int (Int32.ofNat o)), .val (.int (Int32.ofNat len)), .val .null, .unset] [])) := entry rfl
  have c2 : Steps p.tables e below (s₁.setTop (entryFrame m #[.ref a, .ref b, .int (Int32.ofNat o), .int (Int32.ofNat len), .null] 6)) (s₁.setTop (mkF m 1 #[.val (.ref a), .val (.ref b), .val (.int (Int32.ofNat o)), .val (.int (Int32.ofNat len)), .val .null, .unset] [.ref a])) := c1.trans (by
    refine XS.aloadN X0.here hexec rfl (hb hbytes d0) rfl rfl ?_
    exact Steps.refl _)
  obtain ⟨T3, X3, q3, st3⟩ := X0.oinit hexec hown (wks W (objW "java/lang/String" 1)) (g := (mkF m 1 #[.val (.ref a), .val (.ref b), .val (.int (Int32.ofNat o)), .val (.int (Int32.ofNat len)), .val .null, .unset] [.ref a])) rfl (by rw [hml]; rfl) (rest := []) rfl (hb hbytes d1) (W := 0) (by show 2 * 0 + 0 ≤ _; decide) (Nat.le_of_ble_eq_true rfl) (Nat.le_of_ble_eq_true rfl)
  have hh3 := q3.trans hh0
  have c4 : Steps p.tables e below (s₁.setTop (entryFrame m #[.ref a, .ref b, .int (Int32.ofNat o), .int (Int32.ofNat len), .null] 6)) (T3.setTop (mkF m 27 #[.val (.ref a), .val (.ref b), .val (.int (Int32.ofNat o)), .val (.int (Int32.ofNat len)), .val .null, .unset] [])) := (c2.trans (st3 _ (Steps.refl _))).trans (by
    refine XS.iloadN X3.here hexec rfl (hb hbytes d4) rfl ?_
    refine XS.ifYes X3.here hexec rfl (pc0 := 5) rfl (hb hbytes d5) rfl (i0_ne_t (nz32 (by omega) l0)) (by decide) rfl ?_
    exact Steps.refl _)
  obtain ⟨T5, X5, q5, st5⟩ := X3.sget hexec hown (wk W (.fieldLink "java/lang/String" 38 "java/lang/String" "COMPACT_STRINGS" "Z")) s1 (fun _ _ h => by rw [hh3]; exact h) (g := (mkF m 27 #[.val (.ref a), .val (.ref b), .val (.int (Int32.ofNat o)), .val (.int (Int32.ofNat len)), .val .null, .unset] [])) rfl (hb hbytes d27)
  have hh5 := q5.trans hh3
  have c6 : Steps p.tables e below (s₁.setTop (entryFrame m #[.ref a, .ref b, .int (Int32.ofNat o), .int (Int32.ofNat len), .null] 6)) (T5.setTop (mkF m 30 #[.val (.ref a), .val (.ref b), .val (.int (Int32.ofNat o)), .val (.int (Int32.ofNat len)), .val .null, .unset] [.int z])) := c4.trans (st5 _ (Steps.refl _))
  have c7 : Steps p.tables e below (s₁.setTop (entryFrame m #[.ref a, .ref b, .int (Int32.ofNat o), .int (Int32.ofNat len), .null] 6)) (T5.setTop (mkF m 36 #[.val (.ref a), .val (.ref b), .val (.int (Int32.ofNat o)), .val (.int (Int32.ofNat len)), .val .null, .unset] [.int (Int32.ofNat len), .int (Int32.ofNat o), .ref b])) := c6.trans (by
    refine XS.ifNo X5.here hexec rfl (hb hbytes d30) rfl (i0_eq_f hz) ?_
    refine XS.aloadN X5.here hexec rfl (hb hbytes d33) rfl rfl ?_
    refine XS.iloadN X5.here hexec rfl (hb hbytes d34) rfl ?_
    refine XS.iloadN X5.here hexec rfl (hb hbytes d35) rfl ?_
    exact Steps.refl _)
  obtain ⟨v8, T8, X8, E8, g8⟩ := X5.callS hexec (Cmp3.law l b A o len) hown (wks W (staticW "java/lang/String" 177 Cmp3.yN)) (wk W Cmp3.tab) (W := 0) (Nat.le_of_ble_eq_true rfl) (Nat.le_of_ble_eq_true rfl) (Nat.le_refl _) (by show 0 + len ≤ len; omega) (g := (mkF m 36 #[.val (.ref a), .val (.ref b), .val (.int (Int32.ofNat o)), .val (.int (Int32.ofNat len)), .val .null, .unset] [.int (Int32.ofNat len), .int (Int32.ofNat o), .ref b])) rfl (by rw [hml]; rfl) c7 (argsL := [.ref b, .int (Int32.ofNat o), .int (Int32.ofNat len)]) (rest := []) rfl rfl (by show 2 * 0 + 0 ≤ _; decide) (hb hbytes d36) (⟨rfl, hA.mv X5.warmed.alike hh5, l1, l2, hp⟩)
  obtain ⟨e8, z8⟩ := E8
  obtain ⟨rfl, N, n1, n2, n3, n4, n5, n6⟩ := NewArr.mv _ T5 s _ _ hh5.symm (Vm.Alike.refl _) rfl e8
  rw [hh5] at z8
  have hB1 := hB.keep X8.warmed.alike (n6 _ _ hB.1)
  have hne : s.heap.size ≠ a := (Nat.ne_of_lt (Array.getElem?_eq_some_iff.mp hB.1).1).symm
  have c9 : Steps p.tables e below (s₁.setTop (entryFrame m #[.ref a, .ref b, .int (Int32.ofNat o), .int (Int32.ofNat len), .null] 6)) (T8.setTop (mkF m 39 #[.val (.ref a), .val (.ref b), .val (.int (Int32.ofNat o)), .val (.int (Int32.ofNat len)), .val .null, .unset] [.ref s.heap.size])) := g8
  have c10 : Steps p.tables e below (s₁.setTop (entryFrame m #[.ref a, .ref b, .int (Int32.ofNat o), .int (Int32.ofNat len), .null] 6)) (T8.setTop (mkF m 45 #[.val (.ref a), .val (.ref b), .val (.int (Int32.ofNat o)), .val (.int (Int32.ofNat len)), .val .null, .val (.ref s.heap.size)] [.int (Int32.ofNat N.slots.size), .ref s.heap.size, .ref a])) := by
    have hc : Steps p.tables e below (s₁.setTop (entryFrame m #[.ref a, .ref b, .int (Int32.ofNat o), .int (Int32.ofNat len), .null] 6)) (T8.setTop (mkF m 45 #[.val (.ref a), .val (.ref b), .val (.int (Int32.ofNat o)), .val (.int (Int32.ofNat len)), .val .null, .val (.ref s.heap.size)] [.int (Int32.ofNat len), .ref s.heap.size, .ref a])) := c9.trans (by
      refine XS.astore X8.here hexec rfl (hb hbytes d39) rfl rfl rfl ?_
      refine XS.aloadN X8.here hexec rfl (hb hbytes d41) rfl rfl ?_
      refine XS.aload X8.here hexec rfl (hb hbytes d42) rfl rfl ?_
      refine XS.iloadN X8.here hexec rfl (hb hbytes d44) rfl ?_
      exact Steps.refl _)
    rw [n4]; exact hc
  obtain ⟨v11, T11, X11, E11, g11⟩ := X8.callS hexec (CodL.law l s.heap.size N) hown (wks W (staticW "java/lang/String" 47 CodL.yN)) (wk W CodL.tab) (W := 1) (Nat.le_of_ble_eq_true rfl) (Nat.le_of_ble_eq_true rfl) (Nat.le_refl _) (by show 0 + len + 0 ≤ len; omega) (g := (mkF m 45 #[.val (.ref a), .val (.ref b), .val (.int (Int32.ofNat o)), .val (.int (Int32.ofNat len)), .val .null, .val (.ref s.heap.size)] [.int (Int32.ofNat N.slots.size), .ref s.heap.size, .ref a])) rfl (by rw [hml]; rfl) c10 (argsL := [.ref s.heap.size, .int (Int32.ofNat N.slots.size)]) (rest := [.ref a]) rfl rfl (by show 2 * 0 + (1 + 0) ≤ _; decide) (hb hbytes d45) (⟨rfl, n1⟩)
  obtain ⟨rfl, q11⟩ := E11
  have hB11 := hB1.mv (X8.warmed.alike.symm.trans X11.warmed.alike) q11
  have c12 : Steps p.tables e below (s₁.setTop (entryFrame m #[.ref a, .ref b, .int (Int32.ofNat o), .int (Int32.ofNat len), .null] 6)) (T11.setTop (mkF m 48 #[.val (.ref a), .val (.ref b), .val (.int (Int32.ofNat o)), .val (.int (Int32.ofNat len)), .val .null, .val (.ref s.heap.size)] [.int 0, .ref a])) := g11
  obtain ⟨T13, X13, p13, bl13, sl13, st13⟩ := X11.finit hexec hown (wk W (.fieldLink "java/lang/String" 15 "java/lang/String" "coder" "B")) (Or.inr ⟨_, (wk W (.laysFinal "java/lang/String" "java/lang/String" "coder" "B"))⟩) (Or.inl ⟨rfl, hnm⟩) f2 (Or.inl rfl) hB11 (t := .byte) (by decide +kernel) rfl (g := (mkF m 48 #[.val (.ref a), .val (.ref b), .val (.int (Int32.ofNat o)), .val (.int (Int32.ofNat len)), .val .null, .val (.ref s.heap.size)] [.int 0, .ref a])) rfl (rest := []) rfl (hb hbytes d48)
  have c14 : Steps p.tables e below (s₁.setTop (entryFrame m #[.ref a, .ref b, .int (Int32.ofNat o), .int (Int32.ofNat len), .null] 6)) (T13.setTop (mkF m 54 #[.val (.ref a), .val (.ref b), .val (.int (Int32.ofNat o)), .val (.int (Int32.ofNat len)), .val .null, .val (.ref s.heap.size)] [.ref s.heap.size, .ref a])) := (c12.trans (st13 _ (Steps.refl _))).trans (by
    refine XS.aloadN X13.here hexec rfl (hb hbytes d51) rfl rfl ?_
    refine XS.aload X13.here hexec rfl (hb hbytes d52) rfl rfl ?_
    exact Steps.refl _)
  obtain ⟨T15, X15, p15, bl15, sl15, st15⟩ := X13.finit hexec hown (wk W (.fieldLink "java/lang/String" 9 "java/lang/String" "value" "[B")) (Or.inr ⟨_, (wk W (.laysFinal "java/lang/String" "java/lang/String" "value" "[B"))⟩) (Or.inl ⟨rfl, hnm⟩) f1 (Or.inl rfl) bl13 (t := (.array .byte)) (by decide +kernel) rfl (g := (mkF m 54 #[.val (.ref a), .val (.ref b), .val (.int (Int32.ofNat o)), .val (.int (Int32.ofNat len)), .val .null, .val (.ref s.heap.size)] [.ref s.heap.size, .ref a])) rfl (rest := []) rfl (hb hbytes d54)
  have c16 : Steps p.tables e below (s₁.setTop (entryFrame m #[.ref a, .ref b, .int (Int32.ofNat o), .int (Int32.ofNat len), .null] 6)) (T15.setTop (mkF m 57 #[.val (.ref a), .val (.ref b), .val (.int (Int32.ofNat o)), .val (.int (Int32.ofNat len)), .val .null, .val (.ref s.heap.size)] [])) := c14.trans (st15 _ (Steps.refl _))
  have ap := apart (Or.inr ⟨_, (wk W (.laysFinal "java/lang/String" "java/lang/String" "value" "[B"))⟩) (Or.inr ⟨_, (wk W (.laysFinal "java/lang/String" "java/lang/String" "coder" "B"))⟩) f1 f2 (t₁ := .array .byte) (t₂ := .byte) (by decide +kernel) (by decide +kernel) (by decide)
  have al := X8.warmed.alike.symm.trans X15.warmed.alike
  have n7 : T11.heap[s.heap.size]? = some N := by rw [q11]; exact n1.1
  exact ⟨T15, none, _, _, _, X15, by simp, rfl, by omega, (fun _ => rfl), ⟨rfl, _, N, bl15, ((Same.refl D _).set _ (by simp)).set _ (by simp), sl15, (Cell.slots_setSlot_ne _ ap).trans sl13, n1.keep al (p15.other hne (p13.other hne n7)), n2, by rw [al.findClass]; exact n3, n4, n5, fun y c h1 h2 => p15.other h1 (p13.other h1 (by rw [q11]; exact n6 y c h2)), by rw [p15.2.2, p13.2.2, q11]; exact z8⟩, fun fs hl => c16.trans (X15.returnOut hexec hret (hb hbytes d57) hl)⟩
end New4
namespace New1
def yN : MethodName := ⟨"java/lang/String", "<init>", "([C)V"⟩
abbrev yB : ByteArray := jdk_42_method_3_code
theorem d0 : decode yB 0 = .ok (.aload_n 0, 1) := by decide +kernel
theorem d1 : decode yB 1 = .ok (.aload_n 1, 1) := by decide +kernel
theorem d2 : decode yB 2 = .ok (.iconst 0, 1) := by decide +kernel
theorem d3 : decode yB 3 = .ok (.aload_n 1, 1) := by decide +kernel
theorem d4 : decode yB 4 = .ok (.arraylength, 1) := by decide +kernel
theorem d5 : decode yB 5 = .ok (.aconst_null, 1) := by decide +kernel
theorem d6 : decode yB 6 = .ok (.invokespecial 27, 3) := by decide +kernel
theorem d9 : decode yB 9 = .ok (.return_, 1) := by decide +kernel
def site : List Cond := [New4.tab] ++ initW "java/lang/String" 27 New4.yN
def tab : Cond := tabOf yN yB 2 none site
def P (a : Addr) (D : Cell) (fV fC : Field) (b : Addr) (A : Cell) (z : Int32) (args : Array Value) (s : State) : Prop := args = #[.ref a, .ref b] ∧ Blank "java/lang/String" a D s ∧ Found "java/lang/String" "value" "[B" fV s ∧ Found "java/lang/String" "coder" "B" fC s ∧ Ch b A s ∧ StaticIs s "java/lang/String" "COMPACT_STRINGS" "Z" (.int z) ∧ ¬ z = 0 ∧ 0 < A.slots.size ∧ A.slots.size ≤ 536870912 ∧ ∀ i, i < A.slots.size → ¬ 255 < cv A i
def E (a : Addr) (D : Cell) (fV fC : Field) (A : Cell) (r : Option Value) (s u : State) : Prop := Got a D fV fC A 0 A.slots.size r s u
/-- new String(chars), not empty, no char above 255: a Latin-1 String of their low bytes -/
theorem law (l : Launch) (a : Addr) (D : Cell) (fV fC : Field) (b : Addr) (A : Cell) (z : Int32) : Law l yN 2 1 3 52 yB 2 none site (P a D fV fC b A z) (E a D fV fC A) [⟨a, fC.slot⟩, ⟨a, fV.slot⟩] 1 A.slots.size := by
  refine Law.of_walk (plainFor_of_name (by decide +kernel)) (by decide +kernel) (by decide +kernel) (by decide) (fun _ _ h => by rw [h.1]; rfl) (fun _ U U' hal hh h => ⟨h.1, h.2.1.mv hal hh, h.2.2.1.al hal, h.2.2.2.1.al hal, h.2.2.2.2.1.mv hal hh, h.2.2.2.2.2.1.there hal hh, h.2.2.2.2.2.2⟩) (fun r U U' V V' h1 hal h2 h => Got.mv r U U' V V' h1 hal h2 h) ?_
  intro p e s m args below meth c s₁ X0 hexec hbytes hml hret hlk hnm hown hh0 W hP
  obtain ⟨rfl, hB, f1, f2, hA, s1, hz, l0, l2, hp⟩ := hP
  have c1 : Steps p.tables e below (s₁.setTop (entryFrame m #[.ref a, .ref b] 2)) (s₁.setTop (mkF m 0 #[.val (.ref a), .val (.ref b)] [])) := entry rfl
  have c2 : Steps p.tables e below (s₁.setTop (entryFrame m #[.ref a, .ref b] 2)) (s₁.setTop (mkF m 6 #[.val (.ref a), .val (.ref b)] [.null, .int (Int32.ofNat A.slots.size), .int 0, .ref b, .ref a])) := c1.trans (by
    refine XS.aloadN X0.here hexec rfl (hb hbytes d0) rfl rfl ?_
    refine XS.aloadN X0.here hexec rfl (hb hbytes d1) rfl rfl ?_
    refine iconstV X0.here hexec rfl 0 (hb hbytes d2) (by decide) ?_
    refine XS.aloadN X0.here hexec rfl (hb hbytes d3) rfl rfl ?_
    refine X0.alen hexec (hA.1.mv X0.warmed.alike hh0) rfl rfl (hb hbytes d4) ?_
    refine XS.aconstNull X0.here hexec rfl (hb hbytes d5) ?_
    exact Steps.refl _)
  obtain ⟨v3, T3, X3, E3, g3⟩ := X0.callN hexec (New4.law l a D fV fC b A z 0 A.slots.size) rfl hown (wks W (initW "java/lang/String" 27 New4.yN)) (W New4.tab (by simp only [site, List.mem_cons, List.mem_append, true_or, or_true])) (W := 0) (Nat.le_of_ble_eq_true rfl) (Nat.le_of_ble_eq_true rfl) (Nat.le_refl _) (by show 0 + A.slots.size ≤ A.slots.size; omega) (g := (mkF m 6 #[.val (.ref a), .val (.ref b)] [.null, .int (Int32.ofNat A.slots.size), .int (Int32.ofNat 0), .ref b, .ref a])) rfl (by rw [hml]; rfl) c2 (argsL := [.ref b, .int (Int32.ofNat 0), .int (Int32.ofNat A.slots.size), .null]) (rest := []) rfl rfl (by show 2 * 0 + 0 ≤ _; decide) (hb hbytes d6) (⟨rfl, hB.mv X0.warmed.alike hh0, f1.al X0.warmed.alike, f2.al X0.warmed.alike, hA.mv X0.warmed.alike hh0, s1.there X0.warmed.alike hh0, hz, l0, by omega, l2, fun i hi => by rw [Nat.zero_add]; exact hp i hi⟩)
  have e0 := Got.mv _ s₁ s _ _ hh0.symm (Vm.Alike.refl _) rfl E3
  obtain rfl := e0.1
  have c4 : Steps p.tables e below (s₁.setTop (entryFrame m #[.ref a, .ref b] 2)) (T3.setTop (mkF m 9 #[.val (.ref a), .val (.ref b)] [])) := g3
  exact ⟨T3, none, _, _, _, X3, by simp, rfl, by omega, (fun _ => rfl), e0, fun fs hl => c4.trans (X3.returnOut hexec hret (hb hbytes d9) hl)⟩
theorem pays {l : Launch} {R : Room} {p : Program} {e : Env} {below : List Frame} {s : State} {sargs : Array Value} {len W : Nat} (a : Addr) (D : Cell) (fV fC : Field) (b : Addr) (A : Cell) (z : Int32) (htab : tab.before sargs s = true) (hfr : 4 ≤ R.frames) (hlo : W + 65 ≤ R.locals) :
    Back l R p e below s sargs yN len W (fun A₁ a₁ => A₁.cells + 1 ≤ R.cells ∧ A₁.slots + A.slots.size ≤ R.slots ∧ P a D fV fC b A z a₁ A₁.U) (fun A₁ _ v₁ B₁ => E a D fV fC A v₁ A₁.U B₁.U ∧ B₁.locs = A₁.locs ++ [⟨a, fC.slot⟩, ⟨a, fV.slot⟩] ∧ B₁.cells = A₁.cells + 1 ∧ B₁.slots = A₁.slots + A.slots.size) :=
  (law l a D fV fC b A z).pays htab hfr (by omega)
end New1
/-- the byte, read back as charAt reads it, is the char -/
theorem lo8_mask {x : Int32} (h0 : ¬ x < 0) (h1 : ¬ 255 < x) : lo8 x &&& 255 = x := by
  have t : ∀ k : Fin 256, lo8 (Int32.ofNat k.val) &&& 255 = Int32.ofNat k.val := by decide +kernel
  rw [Int32.lt_iff_toInt_lt] at h0 h1
  have e0 : (0 : Int32).toInt = 0 := rfl
  have e1 : (255 : Int32).toInt = 255 := rfl
  obtain ⟨k, hk⟩ : ∃ k : Nat, x.toInt = k := ⟨x.toInt.toNat, by omega⟩
  have hx : x = Int32.ofNat k := Int32.toInt_inj.mp (by rw [hk, Int32.toInt_ofNat_small (by omega)])
  rw [hx]
  exact t ⟨k, by omega⟩
end StrChars
namespace StrChars.Road
open Jvm Sem ClassFile Op Lib Jvm.Stand Jvm.Free Jvm.Free.XT
open Jvm.Lib.Cold (StaticIs)
abbrev ST : String := "java/lang/String"
/-- every table word that New1's law asks, flat -/
abbrev words : List Jvm.Cond := [.code New1.yN New1.yB 2 none, .initialized ST, .methodLink ST 27 New4.yN, .instanceMethod New4.yN,
  .code New4.yN New4.yB 6 none, .fieldLink ST 38 ST "COMPACT_STRINGS" "Z", .laysFinal ST ST "value" "[B", .fieldLink ST 9 ST "value" "[B", .laysFinal ST ST "coder" "B", .fieldLink ST 15 ST "coder" "B",
  .methodLink ST 1 Lib.objectInit, .instanceMethod Lib.objectInit, .code Lib.objectInit object_method_1_code 1 none, .methodLink ST 177 Cmp3.yN, .static Cmp3.yN, .methodLink ST 47 CodL.yN, .static CodL.yN,
  .code Cmp3.yN Cmp3.yB 6 (some (.array .byte)), .initialized U16, .arrayClass .byte, .methodLink U16 115 Cmp5.yN, .static Cmp5.yN, .code Cmp5.yN Cmp5.yB 7 (some .int), .code CodL.yN CodL.yB 2 (some .byte)]
theorem tab_of {a : Array Value} {s : State} (h : ∀ w ∈ words, w.before a s = true) : New1.tab.before a s = true := by
  have h5 : Cmp5.tab.before a s = true := unparts (wk h (.code Cmp5.yN Cmp5.yB 7 (some .int))) (wks h (.initialized Cmp5.yN.cls :: Cmp5.site))
  have hc : CodL.tab.before a s = true := unparts (wk h (.code CodL.yN CodL.yB 2 (some .byte))) (wks h (.initialized CodL.yN.cls :: CodL.site))
  have q5 : ∀ w ∈ Cmp5.tab :: words, w.before a s = true := fun w hw => (List.mem_cons.mp hw).elim (fun e => e ▸ h5) (h w)
  have h3 : Cmp3.tab.before a s = true := unparts (wk q5 (.code Cmp3.yN Cmp3.yB 6 (some (.array .byte)))) (wks q5 (.initialized Cmp3.yN.cls :: Cmp3.site))
  have q3 : ∀ w ∈ Cmp3.tab :: CodL.tab :: words, w.before a s = true := fun w hw => (List.mem_cons.mp hw).elim (fun e => e ▸ h3) fun hw => (List.mem_cons.mp hw).elim (fun e => e ▸ hc) (h w)
  have h4 : New4.tab.before a s = true := unparts (wk q3 (.code New4.yN New4.yB 6 none)) (wks q3 (.initialized New4.yN.cls :: New4.site))
  have q4 : ∀ w ∈ New4.tab :: words, w.before a s = true := fun w hw => (List.mem_cons.mp hw).elim (fun e => e ▸ h4) (h w)
  exact unparts (wk q4 (.code New1.yN New1.yB 2 none)) (wks q4 (.initialized New1.yN.cls :: New1.site))
/-- the words ride from the start Z to the walk's own state -/
theorem moved {Z s : State} {a0 args : Array Value} (hZ : Z.Warmed39 s.vm) (hw : ∀ d ∈ words, d.before a0 Z = true) : ∀ d ∈ words, d.before args s = true := fun d hd => by
  have q := hw d hd
  have t : ∀ d ∈ words, d = .arrayClass .byte ∨ (d.onTables && d.keepsFace) = true := by decide +kernel
  rcases t d hd with rfl | t
  · exact RoadKit.mvA hZ q
  · exact RoadKit.mv hZ q t
/-- WHAT COMES BACK, over the tables of the start Z: h the heap at the call, h' behind it -/
def Q (Z : State) (x : Addr) (A : Cell) (h : Heap) (v : Option Value) (h' : Heap) (L : List Loc) : Prop := v = none ∧ (∀ y ∈ L, y.base = x) ∧ RoadKit.Keep h h' [x] ∧ h'.size = h.size + 1 ∧ RoadKit.Exa Z h' x ST ∧ RoadKit.Fld Z h' x ST "value" "[B" (.ref h.size) ∧ RoadKit.Fld Z h' x ST "coder" "B" (.int 0) ∧
  (∃ V : Cell, RoadKit.Arr Z h' h.size V .byte ∧ V.vm = .none ∧ Z.vm.findClass "[B" = some V.cls ∧ V.slots.size = A.slots.size ∧ ∀ j, j < A.slots.size → V.slots[j]? = some (.int (lo8 (cv A j)))) ∧
  ∀ (O n d : String) (w : Value), RoadKit.Fld Z h x O n d w → RoadKit.slotOf Z O n d ≠ RoadKit.slotOf Z ST "value" "[B" → RoadKit.slotOf Z O n d ≠ RoadKit.slotOf Z ST "coder" "B" → RoadKit.Fld Z h' x O n d w
/-- **new String(chars) AT A CALL, IN THE ROAD'S FORM**: for specialBack behind newO: x the fresh String, b the char[] with the cell A -/
theorem back {p : Program} {l : Launch} {e : Env} {R : Room} {s : State} {args : Array Value} {below : List Frame} {len W : Nat} {Z : State} {a0 : Array Value} {h : Heap} (hZ : Z.Warmed39 s.vm) (hw : ∀ d ∈ words, d.before a0 Z = true) {kI : Nat} (wi : (Jvm.Cond.instantiable ST kI).before a0 Z = true)
    {x b : Addr} {A : Cell} {z : Int32} {v0 c0 : Value} (E : RoadKit.Exa Z h x ST) (V : RoadKit.Fld Z h x ST "value" "[B" v0) (C : RoadKit.Fld Z h x ST "coder" "B" c0) (K : RoadKit.Arr Z h b A .char) (hty : Typed .char A) (S : RoadKit.Sta Z h ST "COMPACT_STRINGS" "Z" (.int z)) (hz : ¬ z = 0)
    (l0 : 0 < A.slots.size) (l2 : A.slots.size ≤ 536870912) (hp : ∀ i, i < A.slots.size → ¬ 255 < cv A i) (hfr : 4 ≤ R.frames) (hlo : W + 65 ≤ R.locals) :
    Back l R p e below s args New1.yN len W (fun P a => a = #[.ref x, .ref b] ∧ P.U.heap = h ∧ P.cells + 1 ≤ R.cells ∧ P.slots + A.slots.size ≤ R.slots)
      (fun P _ v B => ∃ L, Q Z x A h v B.U.heap L ∧ B.locs = P.locs ++ L ∧ B.cells = P.cells + 1 ∧ B.slots = P.slots + A.slots.size) := by
  intro m meth c P g ig mk a X hg hsize hdg hW hn hp'
  obtain ⟨rfl, rfl, r1, r2⟩ := hp'
  have al : Z.vm.Alike P.U.vm := hZ.alike.trans X.warmed.alike
  obtain ⟨D, cfV, kV, iV, fV, hD, gV, stV, knV, obV, asV, slV⟩ := id V
  obtain ⟨D', cfC, kC, iC, fC, hD', gC, stC, -, -, asC, slC⟩ := id C
  cases hD.symm.trans hD'
  obtain ⟨D2, kD, e1, e2, e3, e4, e5⟩ := id E
  cases hD.symm.trans e1
  obtain ⟨c2, k2, i1, i2, i3, -⟩ := Cond.instantiable_spec wi
  cases e2.symm.trans i1
  cases e3.symm.trans i2
  obtain ⟨kU, u1, u2⟩ := al.2.2 _ _ e3
  have hB : Blank ST x D P.U := ⟨hD, ⟨knV, fun q hq => by rw [hq] at obV; cases obV⟩, by rw [al.findClass]; exact e2, kU, u1, by rw [u2]; exact i3, by rw [u2]; exact e5 i3⟩
  have F1 : Found ST "value" "[B" fV P.U := ⟨SBG.found_only al ⟨cfV, kV, iV, gV⟩, stV⟩
  have F2 : Found ST "coder" "B" fC P.U := ⟨SBG.found_only al ⟨cfC, kC, iC, gC⟩, stC⟩
  have hA : Ch b A P.U := ⟨⟨K.1, State.isArrayOf_alike al K.2.1, K.2.2, by omega⟩, hty⟩
  have hS : StaticIs P.U ST "COMPACT_STRINGS" "Z" (.int z) := by
    obtain ⟨cfS, iS, kS, fS, st, cS, t1, t2, t3, t4, t5, t6, t7⟩ := S
    exact StaticIs.there (s := { Z with heap := P.U.heap }) ⟨cfS, iS, kS, fS, st, cS, t1, t2, t3, t4, t5, (fun q => by rw [q] at t6; cases t6), t7⟩ al rfl
  obtain ⟨v, B, X', ⟨⟨hv, E', V', q1, q2, q3, q4, q5, q6, q7, q8, q9, q10, q11⟩, hl, hc, hs⟩, st⟩ := New1.pays x D fV fC b A z (tab_of (moved hZ hw)) hfr hlo m meth c P g ig mk _ X hg hsize hdg hW hn ⟨r1, r2, rfl, hB, F1, F2, hA, hS, hz, l0, l2, hp⟩
  have al' : Z.vm.Alike B.U.vm := hZ.alike.trans X'.warmed.alike
  have hsz : E'.slots.size = D.slots.size := by
    obtain ⟨-, -, -, kB, w1, w2, w3⟩ := q1
    obtain ⟨kB', y1, y2⟩ := al'.2.2 _ _ e3
    rw [q2.2.1] at w1
    cases w1.symm.trans y1
    rw [w3, e5 i3, y2]
  refine ⟨v, B, X', ⟨_, ⟨hv, ?_, ⟨by omega, fun y cy hy hn' => q10 y cy (by simpa using hn') hy, fun y cy hy => ?_⟩, q11, ⟨E', _, q1.1, by rw [q2.2.1]; exact e2, by rw [q2.2.1]; exact e3, by rw [q2.1]; exact obV, fun _ => by rw [hsz]; exact e5 i3⟩,
    ⟨E', cfV, kV, iV, fV, q1.1, gV, stV, by rw [q2.1]; exact knV, by rw [q2.1]; exact obV, by rw [q2.2.1]; exact asV, q3⟩, ⟨E', cfC, kC, iC, fC, q1.1, gC, stC, by rw [q2.1]; exact knV, by rw [q2.1]; exact obV, by rw [q2.2.1]; exact asC, q4⟩,
    ⟨V', ⟨q5.1, State.isArrayOf_alike al'.symm q5.2.1, q5.2.2.1⟩, q6, by rw [← al'.findClass]; exact q7, q8, fun j hj => by have := q9 j hj; rwa [Nat.zero_add] at this⟩, fun O n d w F n1 n2 => ?_⟩, hl, hc, hs⟩, st⟩
  · intro y hy
    simp only [List.mem_cons, List.not_mem_nil, or_false] at hy
    rcases hy with rfl | rfl <;> rfl
  · by_cases q : y = x
    · subst q
      cases hD.symm.trans hy
      exact ⟨E', q1.1, q2.2.1, q2.1, hsz⟩
    · exact ⟨cy, q10 y cy q hy, rfl, rfl, rfl⟩
  · obtain ⟨D3, cf, k, i, f, g1, g2, g3, g4, g5, g6, g7⟩ := F
    cases hD.symm.trans g1
    simp only [RoadKit.slotOf, g2, gV, gC, Option.map_some, Option.getD_some] at n1 n2
    exact ⟨E', cf, k, i, f, q1.1, g2, g3, by rw [q2.1]; exact g4, by rw [q2.1]; exact g5, by rw [q2.2.1]; exact g6, by rw [q2.2.2 f.slot (by simp [n1, n2])]; exact g7⟩
end StrChars.Road
namespace StrChars.Road
open Jvm Sem ClassFile Op Lib Jvm.Stand Jvm.Free Jvm.Free.XT
/-- WHAT COMES BACK, the byte[] as a list of values -/
def QA (Z : State) (x : Addr) (zn : Int32) (cs : List Int32) (h : Heap) (v : Option Value) (h' : Heap) (L : List Loc) : Prop := v = none ∧ (∀ y ∈ L, y.base = x) ∧ RoadKit.Keep h h' [x] ∧ h'.size = h.size + 1 ∧ RoadKit.Exa Z h' x ST ∧ RoadKit.Fld Z h' x ST "value" "[B" (.ref h.size) ∧ RoadKit.Fld Z h' x ST "coder" "B" (.int 0) ∧
  (∃ kb, Z.vm.findClass "[B" = some kb ∧ RoadKit.Arv Z h' h.size kb .byte zn (cs.map fun c => .int (lo8 c)) (.int 0)) ∧
  ∀ (O n d : String) (w : Value), RoadKit.Fld Z h x O n d w → RoadKit.slotOf Z O n d ≠ RoadKit.slotOf Z ST "value" "[B" → RoadKit.slotOf Z O n d ≠ RoadKit.slotOf Z ST "coder" "B" → RoadKit.Fld Z h' x O n d w
/-- **new String(chars) AT A CALL, THE ARRAYS AS LISTS**: the char[] at b holds cs, not empty, no char above 255 -/
theorem backArv {p : Program} {l : Launch} {e : Env} {R : Room} {s : State} {args : Array Value} {below : List Frame} {len W : Nat} {Z : State} {a0 : Array Value} {h : Heap} (hZ : Z.Warmed39 s.vm) (hw : ∀ d ∈ words, d.before a0 Z = true) {kI : Nat} (wi : (Jvm.Cond.instantiable ST kI).before a0 Z = true)
    {x b : Addr} {k : ClassId} {zn z : Int32} {cs : List Int32} {dv v0 c0 : Value} (E : RoadKit.Exa Z h x ST) (V : RoadKit.Fld Z h x ST "value" "[B" v0) (C : RoadKit.Fld Z h x ST "coder" "B" c0) (K : RoadKit.Arv Z h b k .char zn (cs.map Value.int) dv) (S : RoadKit.Sta Z h ST "COMPACT_STRINGS" "Z" (.int z)) (hz : ¬ z = 0)
    (hlen : zn.toNatClampNeg = cs.length) (h0 : 0 < cs.length) (hbig : cs.length ≤ 536870912) (hall : ∀ c ∈ cs, ¬ 255 < c) (hfr : 4 ≤ R.frames) (hlo : W + 65 ≤ R.locals) :
    Back l R p e below s args New1.yN len W (fun P a => a = #[.ref x, .ref b] ∧ P.U.heap = h ∧ P.cells + 1 ≤ R.cells ∧ P.slots + cs.length ≤ R.slots)
      (fun P _ v B => ∃ L, QA Z x zn cs h v B.U.heap L ∧ B.locs = P.locs ++ L ∧ B.cells = P.cells + 1 ∧ B.slots = P.slots + cs.length) := by
  obtain ⟨A, K1, K2, K3, K4, K5, K6⟩ := K
  have e : A.slots.size = cs.length := K3.trans hlen
  have hat : ∀ (i : Nat) (hi : i < cs.length), A.slots[i]? = some (.int cs[i]) := fun i hi => by rw [K5 i (by omega)]; simp [List.getD_eq_getElem?_getD, hi]
  have hcv : ∀ (i : Nat) (hi : i < cs.length), cv A i = cs[i] := fun i hi => by unfold cv; rw [hat i hi]
  have hty : Typed .char A := fun i v hv => by
    have hi : i < A.slots.size := (Array.getElem?_eq_some_iff.mp hv).1
    have q := K5 i hi
    rw [hv] at q
    rw [Option.some.inj q]
    exact K6 i hi
  refine Back.mono (back hZ hw wi E V C K1 hty S hz (by omega) (by omega) (fun i hi => by rw [hcv i (by omega)]; exact hall _ (List.getElem_mem _)) hfr hlo) (fun P a hp => ⟨hp.1, hp.2.1, hp.2.2.1, by rw [e]; exact hp.2.2.2⟩) (fun P a v B hp hq => ?_)
  obtain ⟨L, ⟨q1, q2, q3, q4, q5, q6, q7, ⟨V', v1, v2, v3, v4, v5⟩, q9⟩, hl, hc, hs⟩ := hq
  refine ⟨L, ⟨q1, q2, q3, q4, q5, q6, q7, ⟨V'.cls, v3, V', v1, rfl, by rw [v4, e, hlen], K4, fun i hi => ?_, fun i hi => ?_⟩, q9⟩, hl, hc, by rw [hs, e]⟩
  · have hi' : i < cs.length := by omega
    rw [v5 i (by omega), hcv i hi']; simp [List.getD_eq_getElem?_getD, hi']
  · have hi' : i < cs.length := by omega
    simp only [List.getD_eq_getElem?_getD, List.getElem?_map, List.getElem?_eq_getElem hi', Option.map_some, Option.getD_some]
    exact fits_lo8 _
end StrChars.Road
namespace StrChars.Road
open Jvm Sem ClassFile Op Lib Jvm.Stand Jvm.Free Jvm.Free.XT
/-- WHAT COMES BACK, in the writer's own shape -/
def QV (Z : State) (x : Addr) (N : Int32) (bs : List Int32) (h : Heap) (n0 : Nat) (v : Option Value) (h' : Heap) (L : List Loc) : Prop := v = none ∧ RoadKit.Fr n0 L ∧ RoadKit.Keep h h' [x] ∧ RoadKit.Exa Z h' x ST ∧ RoadKit.Fld Z h' x ST "coder" "B" (.int 0) ∧
  ∃ (t : Addr) (kb : ClassId), n0 ≤ t ∧ h.size ≤ t ∧ ¬ t = x ∧ RoadKit.Fld Z h' x ST "value" "[B" (.ref t) ∧ RoadKit.Arv Z h' t kb .byte N (bs.map Value.int) (.int 0)
/-- **new String(chars) AT A CALL, FOR THE WRITER**: a char[] of n known ints, each 0 to 255 -/
theorem backV {p : Program} {l : Launch} {e : Env} {R : Room} {s : State} {args : Array Value} {below : List Frame} {len W : Nat} {Z : State} {a0 : Array Value} {h : Heap} (hZ : Z.Warmed39 s.vm) (hw : ∀ d ∈ words, d.before a0 Z = true) {kI : Nat} (wi : (Jvm.Cond.instantiable ST kI).before a0 Z = true)
    {x b : Addr} {kC : ClassId} {cs bs : List Int32} {d v0 c0 : Value} {z N : Int32} {n n0 : Nat} (hx0 : n0 ≤ x) (hh0 : n0 ≤ h.size) (E : RoadKit.Exa Z h x ST) (V : RoadKit.Fld Z h x ST "value" "[B" v0) (C : RoadKit.Fld Z h x ST "coder" "B" c0) (K : RoadKit.Arv Z h b kC .char N (cs.map Value.int) d) (S : RoadKit.Sta Z h ST "COMPACT_STRINGS" "Z" (.int z)) (hz : ¬ z = 0)
    (hn : cs.length = n) (hN : N = Int32.ofNat n) (l0 : 0 < n) (l2 : n ≤ 4000) (hp : ∀ c ∈ cs, ¬ c < 0 ∧ ¬ (255 : Int32) < c) (hb : bs = cs.map (fun c => c.toInt8.toInt32)) (hfr : 4 ≤ R.frames) (hlo : W + 65 ≤ R.locals) :
    Back l R p e below s args (⟨"java/lang/String", "<init>", "([C)V"⟩ : MethodName) len W (fun P a => a = #[.ref x, .ref b] ∧ P.U.heap = h ∧ P.cells + 1 ≤ R.cells ∧ P.slots + n ≤ R.slots)
      (fun P _ v B => ∃ L, QV Z x N bs h n0 v B.U.heap L ∧ B.locs = P.locs ++ L ∧ B.cells = P.cells + 1 ∧ B.slots = P.slots + n) := by
  subst hn hN hb
  refine Back.mono (backArv hZ hw wi E V C K S hz (n32 (by omega)) l0 (by omega) (fun c hc => (hp c hc).2) hfr hlo) (fun P a hp => hp) (fun P a v B hp hq => ?_)
  obtain ⟨L, ⟨q1, q2, q3, q4, q5, q6, q7, ⟨kb, v1, v2⟩, q9⟩, hl, hc, hs⟩ := hq
  exact ⟨L, ⟨q1, fun y hy => by rw [q2 y hy]; exact hx0, q3, q5, q7, h.size, kb, hh0, Nat.le_refl _, Nat.ne_of_gt E.lt, q6, by rw [List.map_map]; exact v2⟩, hl, hc, hs⟩
end StrChars.Road
namespace StrChars
open Jvm Sem ClassFile Op Lib Jvm.Stand Jvm.Free.XT Jvm.Free.ALB Jvm.Free.JM Jvm.Free
open Jvm.Lib.Cold (StaticIs)
def hi8 (x : Int32) : Int32 := lo8 (x >>> ((8 : Int32) &&& 31))
/-- what StringUTF16.getChar makes of two bytes -/
def pairCh (u v : Int32) : Int32 := (((u &&& 255) <<< ((0 : Int32) &&& 31)) ||| ((v &&& 255) <<< ((8 : Int32) &&& 31))).toUInt32.toUInt16.toUInt32.toInt32
theorem lo8_and (x : Int32) : (lo8 x &&& 255).toBitVec.toNat = x.toBitVec.toNat % 256 := by
  have h : (lo8 x).toBitVec = (x.toBitVec.signExtend 8).signExtend 32 := by rw [lo8, Int8.toBitVec_toInt32, Int32.toBitVec_toInt8]
  rw [Int32.toBitVec_and, BitVec.toNat_and, h]
  have e : ((x.toBitVec.signExtend 8).signExtend 32).toNat % 256 = x.toBitVec.toNat % 256 := by
    rw [BitVec.toNat_signExtend]
    have hlt := x.toBitVec.isLt
    simp only [BitVec.toNat_setWidth, BitVec.toNat_signExtend]
    split <;> split <;> omega
  rw [← e]
  exact Nat.and_two_pow_sub_one_eq_mod _ 8
theorem pair_says {c : Int32} (h0 : ¬ c < 0) (h1 : ¬ 65535 < c) : pairCh (lo8 c) (hi8 c) = c := by
  rw [Int32.lt_iff_toInt_lt] at h0 h1
  have e0 : (0 : Int32).toInt = 0 := rfl
  have e1 : (65535 : Int32).toInt = 65535 := rfl
  have hc : c.toInt = c.toBitVec.toNat := by
    have := c.toBitVec.isLt
    have e : c.toInt = c.toBitVec.toInt := rfl
    rw [e] at h0 h1
    rw [e]
    rw [BitVec.toInt_eq_toNat_cond] at h0 h1 ⊢
    split at h0 <;> split <;> omega
  have hn : c.toBitVec.toNat < 65536 := by omega
  have a1 := lo8_and c
  have a2 : (hi8 c &&& 255).toBitVec.toNat = c.toBitVec.toNat / 256 := by
    rw [hi8, lo8_and]
    have e : ((8 : Int32) &&& 31) = 8 := by decide
    rw [e, Int32.toBitVec_shiftRight]
    have e2 : ((8 : Int32).toBitVec.smod 32) = 8#32 := by decide
    rw [e2, BitVec.sshiftRight_eq', BitVec.toNat_sshiftRight_of_msb_false (by rw [BitVec.msb_eq_false_iff_two_mul_lt]; omega)]
    show c.toBitVec.toNat >>> 8 % 256 = _
    rw [Nat.shiftRight_eq_div_pow]
    omega
  unfold pairCh
  apply Int32.toBitVec_inj.mp
  apply BitVec.eq_of_toNat_eq
  have f0 : ((0 : Int32) &&& 31) = 0 := by decide
  have f8 : ((8 : Int32) &&& 31) = 8 := by decide
  rw [f0, f8]
  have g : (((lo8 c &&& 255) <<< (0 : Int32)) ||| ((hi8 c &&& 255) <<< (8 : Int32))).toBitVec.toNat = c.toBitVec.toNat := by
    rw [Int32.toBitVec_or, Int32.toBitVec_shiftLeft, Int32.toBitVec_shiftLeft]
    have s0 : ((0 : Int32).toBitVec.smod 32) = 0#32 := by decide
    have s8 : ((8 : Int32).toBitVec.smod 32) = 8#32 := by decide
    rw [s0, s8, BitVec.toNat_or]
    simp only [BitVec.shiftLeft_eq', BitVec.toNat_shiftLeft, a1, a2]
    show (c.toBitVec.toNat % 256) <<< 0 % 2 ^ 32 ||| (c.toBitVec.toNat / 256) <<< 8 % 2 ^ 32 = _
    rw [Nat.shiftLeft_zero, Nat.mod_eq_of_lt (show c.toBitVec.toNat % 256 < 2 ^ 32 by omega), Nat.mod_eq_of_lt (show (c.toBitVec.toNat / 256) <<< 8 < 2 ^ 32 by rw [Nat.shiftLeft_eq]; omega), Nat.or_comm, ← Nat.shiftLeft_add_eq_or_of_lt (by omega), Nat.shiftLeft_eq]
    omega
  show BitVec.toNat (((((lo8 c &&& 255) <<< (0 : Int32)) ||| ((hi8 c &&& 255) <<< (8 : Int32))).toBitVec.setWidth 16).setWidth 32) = _
  rw [BitVec.toNat_setWidth, BitVec.toNat_setWidth, g]
  omega
end StrChars
namespace StrChars
open Jvm Sem ClassFile Op Lib Jvm.Stand Jvm.Free.XT Jvm.Free.ALB Jvm.Free.JM Jvm.Free
open Jvm.Lib.Cold (StaticIs)
/-- the array's cell V codes the n chars f 0 .. f (n - 1) by the coder cd, as the JDK does: coder 1 just where some char is above 255 -/
def Cod (cd : Int32) (n : Nat) (f : Nat → Int32) (V : Cell) : Prop := (cd = 0 ∧ V.slots.size = n ∧ ∀ j, j < n → V.slots[j]? = some (.int (lo8 (f j))) ∧ ¬ 255 < f j) ∨ (cd = 1 ∧ V.slots.size = 2 * n ∧ (∀ j, j < n → V.slots[2 * j]? = some (.int (lo8 (f j))) ∧ V.slots[2 * j + 1]? = some (.int (hi8 (f j)))) ∧ ∃ j, j < n ∧ 255 < f j)
/-- **x is a String of the n chars f 0 .. f (n - 1)**, Latin-1 or UTF-16; its array at t has the cell V -/
def Txt (x t : Addr) (V : Cell) (cd : Int32) (n : Nat) (f : Nat → Int32) (U : State) : Prop := Exact "java/lang/String" x U ∧ Has x "java/lang/String" "value" "[B" (.ref t) U ∧ Has x "java/lang/String" "coder" "B" (.int cd) U ∧ XT.Arr .byte t V U ∧ Cod cd n f V ∧ ∀ j, j < n → ¬ f j < 0 ∧ ¬ 65535 < f j
theorem Txt.mv {x t : Addr} {V : Cell} {cd : Int32} {n : Nat} {f : Nat → Int32} {U U' : State} (h : Txt x t V cd n f U) (hal : U.vm.Alike U'.vm) (hh : U'.heap = U.heap) : Txt x t V cd n f U' := ⟨h.1.mv hal hh, h.2.1.mv hal hh, h.2.2.1.mv hal hh, h.2.2.2.1.mv hal hh, h.2.2.2.2⟩
end StrChars
namespace StrChars.Road
open Jvm Sem ClassFile Op Lib Jvm.Stand Jvm.Free Jvm.Free.XT
open Jvm.Lib.Cold (StaticIs)
theorem consq {a : Array Value} {s : State} {c : Jvm.Cond} {L : List Jvm.Cond} (h0 : c.before a s = true) (h : ∀ w ∈ L, w.before a s = true) : ∀ w ∈ c :: L, w.before a s = true := fun w hw => (List.mem_cons.mp hw).elim (fun e => e ▸ h0) (h w)
/-- the bytes of the chars cs, low before high -/
def wideBytes : List Int32 → List Value
  | [] => []
  | c :: cs => .int (lo8 c) :: .int (hi8 c) :: wideBytes cs
theorem wide_lo (d : Value) : ∀ (cs : List Int32) (j : Nat), j < cs.length → (wideBytes cs).getD (2 * j) d = .int (lo8 (cs.getD j 0))
  | [], j, h => absurd h (Nat.not_lt_zero j)
  | c :: cs, 0, _ => rfl
  | c :: cs, j + 1, h => by
    have q := wide_lo d cs j (by simpa using h)
    rw [show 2 * (j + 1) = 2 * j + 1 + 1 from by omega]
    simpa [wideBytes] using q
theorem wide_hi (d : Value) : ∀ (cs : List Int32) (j : Nat), j < cs.length → (wideBytes cs).getD (2 * j + 1) d = .int (hi8 (cs.getD j 0))
  | [], j, h => absurd h (Nat.not_lt_zero j)
  | c :: cs, 0, _ => rfl
  | c :: cs, j + 1, h => by
    have q := wide_hi d cs j (by simpa using h)
    rw [show 2 * (j + 1) + 1 = 2 * j + 1 + 1 + 1 from by omega]
    simpa [wideBytes] using q
theorem low_at (d : Value) (cs : List Int32) (j : Nat) (h : j < cs.length) : (cs.map fun c => Value.int (lo8 c)).getD j d = .int (lo8 (cs.getD j 0)) := by
  simp [List.getD_eq_getElem?_getD, h]
/-- an array of N2 bytes vs codes the chars cs by the coder cd -/
def CodA (cs : List Int32) (cd N2 : Int32) (vs : List Value) : Prop := (cd = 0 ∧ N2 = Int32.ofNat cs.length ∧ vs = (cs.map fun c => Value.int (lo8 c)) ∧ ∀ c ∈ cs, ¬ 255 < c) ∨ (cd = 1 ∧ N2 = Int32.ofNat (2 * cs.length) ∧ vs = wideBytes cs ∧ ∃ c ∈ cs, 255 < c)
theorem CodA.cod {cs : List Int32} {cd N2 : Int32} {vs : List Value} {V : Cell} (h : CodA cs cd N2 vs) (hn : 2 * cs.length < 2 ^ 31) (hs : V.slots.size = N2.toNatClampNeg) (hv : RoadKit.Has V vs (.int 0)) : Cod cd cs.length (fun j => cs.getD j 0) V := by
  rcases h with ⟨rfl, rfl, rfl, h⟩ | ⟨rfl, rfl, rfl, c, hc, hw⟩
  · rw [n32 (by omega)] at hs
    exact Or.inl ⟨rfl, hs, fun j hj => ⟨by rw [hv j (by omega), low_at _ _ _ hj], by
      have e : cs.getD j 0 = cs[j] := by simp [List.getD_eq_getElem?_getD, hj]
      show ¬ 255 < cs.getD j 0
      rw [e]; exact h _ (List.getElem_mem _)⟩⟩
  · rw [n32 (by omega)] at hs
    obtain ⟨j, hj, rfl⟩ := List.getElem_of_mem hc
    exact Or.inr ⟨rfl, hs, fun j hj => ⟨by rw [hv _ (by omega), wide_lo _ _ _ hj], by rw [hv _ (by omega), wide_hi _ _ _ hj]⟩, j, hj, by
      have e : cs.getD j 0 = cs[j] := by simp [List.getD_eq_getElem?_getD, hj]
      show 255 < cs.getD j 0
      rw [e]; exact hw⟩
/-- an object of exactly java/lang/String, its two fields found: as the laws ask it -/
theorem strObj {Z U : State} {a0 : Array Value} {kI : Nat} (wi : (Jvm.Cond.instantiable ST kI).before a0 Z = true) (al : Z.vm.Alike U.vm) {x : Addr} {v0 c0 : Value} (E : RoadKit.Exa Z U.heap x ST) (V : RoadKit.Fld Z U.heap x ST "value" "[B" v0) (C : RoadKit.Fld Z U.heap x ST "coder" "B" c0) :
    ∃ (D : Cell) (fV fC : Field), Blank ST x D U ∧ Found ST "value" "[B" fV U ∧ Found ST "coder" "B" fC U ∧ D.slots[fV.slot]? = some v0 ∧ D.slots[fC.slot]? = some c0 ∧ RoadKit.slotOf Z ST "value" "[B" = fV.slot ∧ RoadKit.slotOf Z ST "coder" "B" = fC.slot := by
  obtain ⟨D, cfV, kV, iV, fV, hD, gV, stV, knV, obV, asV, slV⟩ := V
  obtain ⟨D', cfC, kC, iC, fC, hD', gC, stC, -, -, asC, slC⟩ := C
  cases hD.symm.trans hD'
  obtain ⟨D2, kD, e1, e2, e3, e4, e5⟩ := E
  cases hD.symm.trans e1
  obtain ⟨c2, k2, i1, i2, i3, -⟩ := Cond.instantiable_spec wi
  cases e2.symm.trans i1
  cases e3.symm.trans i2
  obtain ⟨kU, u1, u2⟩ := al.2.2 _ _ e3
  exact ⟨D, fV, fC, ⟨hD, ⟨knV, fun q hq => by rw [hq] at obV; cases obV⟩, by rw [al.findClass]; exact e2, kU, u1, by rw [u2]; exact i3, by rw [u2]; exact e5 i3⟩, ⟨SBG.found_only al ⟨cfV, kV, iV, gV⟩, stV⟩, ⟨SBG.found_only al ⟨cfC, kC, iC, gC⟩, stC⟩, slV, slC, by simp [RoadKit.slotOf, gV], by simp [RoadKit.slotOf, gC]⟩
theorem sta_is {Z U : State} (al : Z.vm.Alike U.vm) {C n d : String} {v : Value} (S : RoadKit.Sta Z U.heap C n d v) : StaticIs U C n d v := by
  obtain ⟨cfS, iS, kS, fS, st, cS, t1, t2, t3, t4, t5, t6, t7⟩ := S
  exact StaticIs.there (s := { Z with heap := U.heap }) ⟨cfS, iS, kS, fS, st, cS, t1, t2, t3, t4, t5, (fun q => by rw [q] at t6; cases t6), t7⟩ al rfl
end StrChars.Road
namespace StrChars
open Jvm Sem ClassFile Op Lib Jvm.Stand Jvm.Free.XT Jvm.Free.ALB Jvm.Free.JM Jvm.Free
open Jvm.Lib.Cold (StaticIs)
namespace Emp
def yN : MethodName := ⟨"java/lang/String", "isEmpty", "()Z"⟩
abbrev yB : ByteArray := jdk_42_method_55_code
theorem d0 : decode yB 0 = .ok (.aload_n 0, 1) := by decide +kernel
theorem d1 : decode yB 1 = .ok (.getfield 9, 3) := by decide +kernel
theorem d4 : decode yB 4 = .ok (.arraylength, 1) := by decide +kernel
theorem d5 : decode yB 5 = .ok (.ifCond (.ne) 7, 3) := by decide +kernel
theorem d8 : decode yB 8 = .ok (.iconst 1, 1) := by decide +kernel
theorem d9 : decode yB 9 = .ok (.goto 4, 3) := by decide +kernel
theorem d12 : decode yB 12 = .ok (.iconst 0, 1) := by decide +kernel
theorem d13 : decode yB 13 = .ok (.ireturn, 1) := by decide +kernel
def site : List Cond := [.fieldLink "java/lang/String" 9 "java/lang/String" "value" "[B"]
def tab : Cond := tabOf yN yB 1 (some .boolean) site
def P (x t : Addr) (V : Cell) (cd : Int32) (n : Nat) (f : Nat → Int32) (args : Array Value) (s : State) : Prop := args = #[.ref x] ∧ Txt x t V cd n f s
def E (n : Nat) (r : Option Value) (s u : State) : Prop := XT.PureE (some (.int (if n = 0 then 1 else 0))) r s u
/-- isEmpty() of a String of n chars -/
theorem law (l : Launch) (x t : Addr) (V : Cell) (cd : Int32) (n : Nat) (f : Nat → Int32) : Law l yN 1 0 0 0 yB 1 (some .boolean) site (P x t V cd n f) (E n) [] 0 0 := by
  refine Law.of_walk (plainFor_of_name (by decide +kernel)) (by decide +kernel) (by decide +kernel) (by decide) (fun _ _ h => by rw [h.1]; rfl) (fun _ U U' hal hh h => ⟨h.1, h.2.mv hal hh⟩) (fun r U U' V V' h1 hal h2 h => XT.PureE.mv r U U' V V' h1 hal h2 h) ?_
  intro p e s m args below meth c s₁ X0 hexec hbytes hml hret hlk hnm hown hh0 W hP
  obtain ⟨rfl, hx⟩ := hP
  have v31 := hx.2.2.2.1.2.2.2
  have c1 : Steps p.tables e below (s₁.setTop (entryFrame m #[.ref x] 1)) (s₁.setTop (mkF m 1 #[.val (.ref x)] [.ref x])) := Steps.trans (entry rfl) (by
    show Steps p.tables e below (s₁.setTop (mkF m 0 #[.val (.ref x)] [])) _
    refine XS.aloadN X0.here hexec rfl (hb hbytes d0) rfl rfl ?_
    exact Steps.refl _)
  obtain ⟨T2, X2, q2, st2⟩ := X0.hget hexec hown (wk W (.fieldLink "java/lang/String" 9 "java/lang/String" "value" "[B")) (hx.mv X0.warmed.alike hh0).2.1 (g := (mkF m 1 #[.val (.ref x)] [.ref x])) rfl (rest := []) rfl (hb hbytes d1)
  have hh2 := q2.trans hh0
  have hx2 := hx.mv X2.warmed.alike hh2
  have c3 : Steps p.tables e below (s₁.setTop (entryFrame m #[.ref x] 1)) (T2.setTop (mkF m 5 #[.val (.ref x)] [.int (Int32.ofNat V.slots.size)])) := (c1.trans (st2 _ (Steps.refl _))).trans (by
    refine X2.alen hexec hx2.2.2.2.1 rfl rfl (hb hbytes d4) ?_
    exact Steps.refl _)
  have hz : V.slots.size = 0 ↔ n = 0 := by
    rcases hx.2.2.2.2.1 with ⟨-, q, -⟩ | ⟨-, q, -⟩ <;> omega
  by_cases h0 : n = 0
  · have c4 : Steps p.tables e below (s₁.setTop (entryFrame m #[.ref x] 1)) (T2.setTop (mkF m 13 #[.val (.ref x)] [.int 1])) := c3.trans (by
      refine XS.ifNo X2.here hexec rfl (hb hbytes d5) rfl (i0_ne_f (by rw [hz.mpr h0]; rfl)) ?_
      refine iconstV X2.here hexec rfl 1 (hb hbytes d8) (by decide) ?_
      refine XS.goto X2.here hexec rfl (pc0 := 9) rfl (hb hbytes d9) (by decide) rfl ?_
      exact Steps.refl _)
    exact ⟨T2, some (.int 1), _, _, _, X2, rfl, rfl, rfl, (fun h => by cases h), ⟨by rw [if_pos h0], hh2⟩, fun fs hl => c4.trans (X2.ireturnOut hexec hret rfl (Or.inr (Or.inl rfl)) (hb hbytes d13) hl)⟩
  · have c4 : Steps p.tables e below (s₁.setTop (entryFrame m #[.ref x] 1)) (T2.setTop (mkF m 13 #[.val (.ref x)] [.int 0])) := c3.trans (by
      refine XS.ifYes X2.here hexec rfl (pc0 := 5) rfl (hb hbytes d5) rfl (i0_ne_t (nz32 v31 (by omega))) (by decide) rfl ?_
      refine iconstV X2.here hexec rfl 0 (hb hbytes d12) (by decide) ?_
      exact Steps.refl _)
    exact ⟨T2, some (.int 0), _, _, _, X2, rfl, rfl, rfl, (fun h => by cases h), ⟨by rw [if_neg h0], hh2⟩, fun fs hl => c4.trans (X2.ireturnOut hexec hret rfl (Or.inr (Or.inl rfl)) (hb hbytes d13) hl)⟩
theorem pays {l : Launch} {R : Room} {p : Program} {e : Env} {below : List Frame} {s : State} {sargs : Array Value} {len W : Nat} (x t : Addr) (V : Cell) (cd : Int32) (n : Nat) (f : Nat → Int32) (htab : tab.before sargs s = true) (hfr : 1 ≤ R.frames) (hlo : W + 12 ≤ R.locals) :
    Back l R p e below s sargs yN len W (fun A₁ a₁ => A₁.cells + 0 ≤ R.cells ∧ A₁.slots + 0 ≤ R.slots ∧ P x t V cd n f a₁ A₁.U) (fun A₁ _ v₁ B₁ => E n v₁ A₁.U B₁.U ∧ B₁.locs = A₁.locs ++ [] ∧ B₁.cells = A₁.cells + 0 ∧ B₁.slots = A₁.slots + 0) :=
  (law l x t V cd n f).pays htab hfr (by omega)
end Emp
/-- what place i of a byte[]'s cell holds -/
def yv (A : Cell) (i : Nat) : Int32 := match A.slots[i]? with | some (.int x) => x | _ => 0
theorem yv_get {a : Addr} {A : Cell} {U : State} (h : XT.Arr .byte a A U) (ht : Typed .byte A) {i : Nat} (hi : i < A.slots.size) : A.slots[i]? = some (.int (yv A i)) := by
  have e := Array.getElem?_eq_getElem hi
  have f := ht i _ e
  unfold yv; rw [e]
  generalize A.slots[i] = v at f
  cases v <;> simp [fits] at f ⊢
/-- the two arrays are equal, place for place -/
def EqC (A B : Cell) : Prop := A.slots.size = B.slots.size ∧ ∀ i, i < A.slots.size → yv A i = yv B i
/-- a boolean that says whether p -/
def Says01 (q : Prop) (r : Option Value) (s u : State) : Prop := ∃ v : Int32, r = some (.int v) ∧ u.heap = s.heap ∧ ((v = 1 ∧ q) ∨ (v = 0 ∧ ¬ q))
theorem Says01.mv {q : Prop} : ∀ r (U U' V V' : State), U'.heap = U.heap → V.vm.Alike V'.vm → V'.heap = V.heap → Says01 q r U V → Says01 q r U' V' :=
  fun r U U' V V' h1 _ h2 ⟨v, a, b, c⟩ => ⟨v, a, by rw [h1, h2]; exact b, c⟩
namespace LEq
def yN : MethodName := ⟨"java/lang/StringLatin1", "equals", "([B[B)Z"⟩
abbrev yB : ByteArray := jdk_43_method_13_code
theorem d0 : decode yB 0 = .ok (.aload_n 0, 1) := by decide +kernel
theorem d1 : decode yB 1 = .ok (.arraylength, 1) := by decide +kernel
theorem d2 : decode yB 2 = .ok (.aload_n 1, 1) := by decide +kernel
theorem d3 : decode yB 3 = .ok (.arraylength, 1) := by decide +kernel
theorem d4 : decode yB 4 = .ok (.if_icmp (.ne) 30, 3) := by decide +kernel
theorem d7 : decode yB 7 = .ok (.iconst 0, 1) := by decide +kernel
theorem d8 : decode yB 8 = .ok (.istore_n 2, 1) := by decide +kernel
theorem d9 : decode yB 9 = .ok (.iload_n 2, 1) := by decide +kernel
theorem d10 : decode yB 10 = .ok (.aload_n 0, 1) := by decide +kernel
theorem d11 : decode yB 11 = .ok (.arraylength, 1) := by decide +kernel
theorem d12 : decode yB 12 = .ok (.if_icmp (.ge) 20, 3) := by decide +kernel
theorem d15 : decode yB 15 = .ok (.aload_n 0, 1) := by decide +kernel
theorem d16 : decode yB 16 = .ok (.iload_n 2, 1) := by decide +kernel
theorem d17 : decode yB 17 = .ok (.baload, 1) := by decide +kernel
theorem d18 : decode yB 18 = .ok (.aload_n 1, 1) := by decide +kernel
theorem d19 : decode yB 19 = .ok (.iload_n 2, 1) := by decide +kernel
theorem d20 : decode yB 20 = .ok (.baload, 1) := by decide +kernel
theorem d21 : decode yB 21 = .ok (.if_icmp (.eq) 5, 3) := by decide +kernel
theorem d24 : decode yB 24 = .ok (.iconst 0, 1) := by decide +kernel
theorem d25 : decode yB 25 = .ok (.ireturn, 1) := by decide +kernel
theorem d26 : decode yB 26 = .ok (.iinc 2 1, 3) := by decide +kernel
theorem d29 : decode yB 29 = .ok (.goto (-20), 3) := by decide +kernel
theorem d32 : decode yB 32 = .ok (.iconst 1, 1) := by decide +kernel
theorem d33 : decode yB 33 = .ok (.ireturn, 1) := by decide +kernel
theorem d34 : decode yB 34 = .ok (.iconst 0, 1) := by decide +kernel
theorem d35 : decode yB 35 = .ok (.ireturn, 1) := by decide +kernel
def site : List Cond := []
def tab : Cond := tabOf yN yB 3 (some .boolean) site
def P (a : Addr) (A : Cell) (b : Addr) (B : Cell) (args : Array Value) (s : State) : Prop := args = #[.ref a, .ref b] ∧ XT.Arr .byte a A s ∧ Typed .byte A ∧ XT.Arr .byte b B s ∧ Typed .byte B
/-- whether two byte[] are equal, place for place -/
theorem law (l : Launch) (a : Addr) (A : Cell) (b : Addr) (B : Cell) : Law l yN 2 2 0 0 yB 3 (some .boolean) site (P a A b B) (Says01 (EqC A B)) [] 0 0 := by
  refine Law.of_walk (plainFor_of_name (by decide +kernel)) (by decide +kernel) (by decide +kernel) (by decide) (fun _ _ h => by rw [h.1]; rfl) (fun _ U U' hal hh h => ⟨h.1, h.2.1.mv hal hh, h.2.2.1, h.2.2.2.1.mv hal hh, h.2.2.2.2⟩) (fun r U U' V V' h1 hal h2 h => Says01.mv r U U' V V' h1 hal h2 h) ?_
  intro p e s m args below meth c s₁ X0 hexec hbytes hml hret hlk hnm hown hh0 W hP
  obtain ⟨rfl, hA, tA, hB, tB⟩ := hP
  have a31 := hA.2.2.2
  have b31 := hB.2.2.2
  have hA0 := hA.mv X0.warmed.alike hh0
  have hB0 := hB.mv X0.warmed.alike hh0
  have c1 : Steps p.tables e below (s₁.setTop (entryFrame m #[.ref a, .ref b] 3)) (s₁.setTop (mkF m 0 #[.val (.ref a), .val (.ref b), .unset] [])) := entry rfl
  have c2 : Steps p.tables e below (s₁.setTop (entryFrame m #[.ref a, .ref b] 3)) (s₁.setTop (mkF m 4 #[.val (.ref a), .val (.ref b), .unset] [.int (Int32.ofNat B.slots.size), .int (Int32.ofNat A.slots.size)])) := c1.trans (by
    refine XS.aloadN X0.here hexec rfl (hb hbytes d0) rfl rfl ?_
    refine X0.alen hexec hA0 rfl rfl (hb hbytes d1) ?_
    refine XS.aloadN X0.here hexec rfl (hb hbytes d2) rfl rfl ?_
    refine X0.alen hexec hB0 rfl rfl (hb hbytes d3) ?_
    exact Steps.refl _)
  by_cases hs : A.slots.size = B.slots.size
  · have c3 : Steps p.tables e below (s₁.setTop (entryFrame m #[.ref a, .ref b] 3)) (s₁.setTop (mkF m 9 #[.val (.ref a), .val (.ref b), .val (.int 0)] [])) := c2.trans (by
      refine XS.icmpNo X0.here hexec rfl (hb hbytes d4) rfl (ii_ne_f (by rw [hs])) ?_
      refine iconstV X0.here hexec rfl 0 (hb hbytes d7) (by decide) ?_
      refine XS.istoreN X0.here hexec rfl (hb hbytes d8) rfl rfl ?_
      exact Steps.refl _)
    have loop : ∀ (r i : Nat), i + r = A.slots.size → (∀ j, j < i → yv A j = yv B j) → Steps p.tables e below (s₁.setTop (entryFrame m #[.ref a, .ref b] 3)) (s₁.setTop (mkF m 9 #[.val (.ref a), .val (.ref b), .val (.int (Int32.ofNat i))] [])) → ∃ (pc : Nat) (Ls : Array Slot) (v : Int32), (pc = 25 ∨ pc = 33) ∧ ((v = 1 ∧ EqC A B) ∨ (v = 0 ∧ ¬ EqC A B)) ∧ Steps p.tables e below (s₁.setTop (entryFrame m #[.ref a, .ref b] 3)) (s₁.setTop (mkF m pc Ls [.int v])) := by
      intro r
      induction r with
      | zero =>
        intro i hi he cl
        exact ⟨33, _, 1, Or.inr rfl, Or.inl ⟨rfl, hs, fun j hj => he j (by omega)⟩, cl.trans (by
          refine XS.iloadN X0.here hexec rfl (hb hbytes d9) rfl ?_
          refine XS.aloadN X0.here hexec rfl (hb hbytes d10) rfl rfl ?_
          refine X0.alen hexec hA0 rfl rfl (hb hbytes d11) ?_
          refine XS.icmpYes X0.here hexec rfl (pc0 := 12) rfl (hb hbytes d12) rfl (ii_ge_t (nlt32 (by omega) (by omega))) (by decide) rfl ?_
          refine iconstV X0.here hexec rfl 1 (hb hbytes d32) (by decide) ?_
          exact Steps.refl _)⟩
      | succ r ih =>
        intro i hi he cl
        have c4 : Steps p.tables e below (s₁.setTop (entryFrame m #[.ref a, .ref b] 3)) (s₁.setTop (mkF m 21 #[.val (.ref a), .val (.ref b), .val (.int (Int32.ofNat i))] [.int (yv B i), .int (yv A i)])) := cl.trans (by
          refine XS.iloadN X0.here hexec rfl (hb hbytes d9) rfl ?_
          refine XS.aloadN X0.here hexec rfl (hb hbytes d10) rfl rfl ?_
          refine X0.alen hexec hA0 rfl rfl (hb hbytes d11) ?_
          refine XS.icmpNo X0.here hexec rfl (hb hbytes d12) rfl (ii_ge_f (lt32 (by omega) (by omega))) ?_
          refine XS.aloadN X0.here hexec rfl (hb hbytes d15) rfl rfl ?_
          refine XS.iloadN X0.here hexec rfl (hb hbytes d16) rfl ?_
          refine X0.aget hexec hA0 rfl (yv_get hA tA (i := i) (by omega)) rfl rfl (hb hbytes d17) ?_
          refine XS.aloadN X0.here hexec rfl (hb hbytes d18) rfl rfl ?_
          refine XS.iloadN X0.here hexec rfl (hb hbytes d19) rfl ?_
          refine X0.aget hexec hB0 rfl (yv_get hB tB (i := i) (by omega)) rfl rfl (hb hbytes d20) ?_
          exact Steps.refl _)
        by_cases hv : yv A i = yv B i
        · have c5 : Steps p.tables e below (s₁.setTop (entryFrame m #[.ref a, .ref b] 3)) (s₁.setTop (mkF m 9 #[.val (.ref a), .val (.ref b), .val (.int (Int32.ofNat i + 1))] [])) := c4.trans (by
            refine XS.icmpYes X0.here hexec rfl (pc0 := 21) rfl (hb hbytes d21) rfl (ii_eq_t hv) (by decide) rfl ?_
            refine iincV X0.here hexec rfl 1 (hb hbytes d26) (by decide) rfl rfl ?_
            refine XS.goto X0.here hexec rfl (pc0 := 29) rfl (hb hbytes d29) (by decide) rfl ?_
            exact Steps.refl _)
          rw [succ32] at c5
          exact ih (i + 1) (by omega) (fun j hj => by
            by_cases e : j = i
            · rw [e]; exact hv
            · exact he j (by omega)) c5
        · exact ⟨25, _, 0, Or.inl rfl, Or.inr ⟨rfl, fun q => hv (q.2 i (by omega))⟩, c4.trans (by
            refine XS.icmpNo X0.here hexec rfl (hb hbytes d21) rfl (ii_eq_f hv) ?_
            refine iconstV X0.here hexec rfl 0 (hb hbytes d24) (by decide) ?_
            exact Steps.refl _)⟩
    obtain ⟨pc, Ls, v, hpc, hv, cz⟩ := loop A.slots.size 0 (by omega) (fun j hj => absurd hj (Nat.not_lt_zero j)) c3
    have nv : narrow .boolean (.int v) = .int v := by rcases hv with ⟨rfl, -⟩ | ⟨rfl, -⟩ <;> rfl
    rcases hpc with rfl | rfl
    · exact ⟨s₁, some (.int v), _, _, _, X0, rfl, rfl, rfl, (fun h => by cases h), ⟨v, rfl, hh0, hv⟩, fun fs hl => cz.trans (X0.ireturnOut hexec hret nv (Or.inr (Or.inl rfl)) (hb hbytes d25) hl)⟩
    · exact ⟨s₁, some (.int v), _, _, _, X0, rfl, rfl, rfl, (fun h => by cases h), ⟨v, rfl, hh0, hv⟩, fun fs hl => cz.trans (X0.ireturnOut hexec hret nv (Or.inr (Or.inl rfl)) (hb hbytes d33) hl)⟩
  · have c3 : Steps p.tables e below (s₁.setTop (entryFrame m #[.ref a, .ref b] 3)) (s₁.setTop (mkF m 35 #[.val (.ref a), .val (.ref b), .unset] [.int 0])) := c2.trans (by
      refine XS.icmpYes X0.here hexec rfl (pc0 := 4) rfl (hb hbytes d4) rfl (ii_ne_t (ne32 a31 b31 hs)) (by decide) rfl ?_
      refine iconstV X0.here hexec rfl 0 (hb hbytes d34) (by decide) ?_
      exact Steps.refl _)
    exact ⟨s₁, some (.int 0), _, _, _, X0, rfl, rfl, rfl, (fun h => by cases h), ⟨0, rfl, hh0, Or.inr ⟨rfl, fun q => hs q.1⟩⟩, fun fs hl => c3.trans (X0.ireturnOut hexec hret rfl (Or.inr (Or.inl rfl)) (hb hbytes d35) hl)⟩
end LEq
theorem Cod.ty {cd : Int32} {n : Nat} {f : Nat → Int32} {V : Cell} (h : Cod cd n f V) : Typed .byte V := fun i v hv => by
  have hi : i < V.slots.size := (Array.getElem?_eq_some_iff.mp hv).1
  rcases h with ⟨-, k1, k2⟩ | ⟨-, k1, k2, -⟩
  · rw [(k2 i (by omega)).1] at hv; cases hv; exact fits_lo8 _
  · rcases Nat.mod_two_eq_zero_or_one i with e | e
    · obtain ⟨j, rfl⟩ : ∃ j, i = 2 * j := ⟨i / 2, by omega⟩
      rw [(k2 j (by omega)).1] at hv; cases hv; exact fits_lo8 _
    · obtain ⟨j, rfl⟩ : ∃ j, i = 2 * j + 1 := ⟨i / 2, by omega⟩
      rw [(k2 j (by omega)).2] at hv; cases hv; exact fits_lo8 _
/-- the same text -/
def SameT (n : Nat) (f : Nat → Int32) (k : Nat) (g : Nat → Int32) : Prop := n = k ∧ ∀ j, j < n → f j = g j
theorem lo8_inj {x y : Int32} (h0 : ¬ x < 0) (h1 : ¬ 255 < x) (k0 : ¬ y < 0) (k1 : ¬ 255 < y) (h : lo8 x = lo8 y) : x = y := by
  rw [← lo8_mask h0 h1, ← lo8_mask k0 k1, h]
/-- arrays coded by one coder are equal just where the texts are -/
theorem Cod.eqv {cd : Int32} {n k : Nat} {f g : Nat → Int32} {V V' : Cell} (h : Cod cd n f V) (h' : Cod cd k g V') (hf : ∀ j, j < n → ¬ f j < 0 ∧ ¬ 65535 < f j) (hg : ∀ j, j < k → ¬ g j < 0 ∧ ¬ 65535 < g j) : EqC V V' ↔ SameT n f k g := by
  have yvv : ∀ {W : Cell} {i : Nat} {x : Int32}, W.slots[i]? = some (.int x) → yv W i = x := fun q => by unfold yv; rw [q]
  rcases h with ⟨rfl, k1, k2⟩ | ⟨rfl, k1, k2, -⟩
  · rcases h' with ⟨-, m1, m2⟩ | ⟨e, -⟩
    · constructor
      · rintro ⟨e1, e2⟩
        refine ⟨by omega, fun j hj => ?_⟩
        have q := e2 j (by omega)
        rw [yvv (k2 j hj).1, yvv (m2 j (by omega)).1] at q
        exact lo8_inj (hf j hj).1 (k2 j hj).2 (hg j (by omega)).1 (m2 j (by omega)).2 q
      · rintro ⟨rfl, e2⟩
        refine ⟨by omega, fun j hj => ?_⟩
        rw [yvv (k2 j (by omega)).1, yvv (m2 j (by omega)).1, e2 j (by omega)]
    · exact absurd e (by decide)
  · rcases h' with ⟨e, -⟩ | ⟨-, m1, m2, -⟩
    · exact absurd e (by decide)
    · constructor
      · rintro ⟨e1, e2⟩
        refine ⟨by omega, fun j hj => ?_⟩
        have q1 := e2 (2 * j) (by omega)
        have q2 := e2 (2 * j + 1) (by omega)
        rw [yvv (k2 j hj).1, yvv (m2 j (by omega)).1] at q1
        rw [yvv (k2 j hj).2, yvv (m2 j (by omega)).2] at q2
        rw [← pair_says (hf j hj).1 (hf j hj).2, ← pair_says (hg j (by omega)).1 (hg j (by omega)).2, q1, q2]
      · rintro ⟨rfl, e2⟩
        refine ⟨by omega, fun i hi => ?_⟩
        rcases Nat.mod_two_eq_zero_or_one i with e | e
        · obtain ⟨j, rfl⟩ : ∃ j, i = 2 * j := ⟨i / 2, by omega⟩
          rw [yvv (k2 j (by omega)).1, yvv (m2 j (by omega)).1, e2 j (by omega)]
        · obtain ⟨j, rfl⟩ : ∃ j, i = 2 * j + 1 := ⟨i / 2, by omega⟩
          rw [yvv (k2 j (by omega)).2, yvv (m2 j (by omega)).2, e2 j (by omega)]
/-- two codings differ: so do the texts -/
theorem Cod.dif {cd cd' : Int32} {n k : Nat} {f g : Nat → Int32} {V V' : Cell} (h : Cod cd n f V) (h' : Cod cd' k g V') (hne : ¬ cd = cd') : ¬ SameT n f k g := by
  rintro ⟨rfl, e⟩
  rcases h with ⟨rfl, -, k2⟩ | ⟨rfl, -, -, j, hj, hw⟩
  · rcases h' with ⟨rfl, -⟩ | ⟨-, -, -, j, hj, hw⟩
    · exact hne rfl
    · exact (k2 j hj).2 (by rw [e j hj]; exact hw)
  · rcases h' with ⟨-, -, m2⟩ | ⟨rfl, -⟩
    · exact (m2 j hj).2 (by rw [← e j hj]; exact hw)
    · exact hne rfl
/-- an object of exactly C is an instance of C -/
theorem cinst {p : Program} {l : Launch} {e : Env} {R : Room} {s : State} {m : MethodId} {args : Array Value} {below : List Frame} {meth : Method} {c : Code} {T : State} {locs : List Loc} {cells slots : Nat} (X : Stand p l e R s m args below meth c T locs cells slots) (hexec : p.tables.exec = Jvm.exec) {own C : String} {index : Nat} (hown : s.vm.findClass own = some m.cls) (hlink : (Cond.classLink own index C).before args s = true) {a : Addr} (hE : Exact C a T)
    {g : JFrame} (hg : g.method = m) {rest : List Value} (hstack : g.stack = .ref a :: rest) (hdg : decode c.code g.pc = .ok (.instanceof index, 3)) :
    ∃ T', Stand p l e R s m args below meth c T' locs cells slots ∧ T'.heap = T.heap ∧ ∀ target, Steps p.tables e below (T'.setTop { g with pc := g.pc + 3, stack := .int 1 :: rest }) target → Steps p.tables e below (T.setTop g) target := by
  obtain ⟨cB, h1, D, h2, h3, h4⟩ := hE
  have h1' : s.vm.findClass C = some cB := by rw [← X.warmed.alike.findClass]; exact h1
  obtain ⟨vm', X', st⟩ := X.instanceofYes hexec hown hlink h2 h4 h1' (by rw [h3]; exact Jvm.Free.SB.assignable_self _ _) hg hstack hdg
  exact ⟨_, X', rfl, st⟩
theorem cself {p : Program} {l : Launch} {e : Env} {R : Room} {s : State} {m : MethodId} {args : Array Value} {below : List Frame} {meth : Method} {c : Code} {T : State} {locs : List Loc} {cells slots : Nat} (X : Stand p l e R s m args below meth c T locs cells slots) (hexec : p.tables.exec = Jvm.exec) {own C : String} {index : Nat} (hown : s.vm.findClass own = some m.cls) (hlink : (Cond.classLink own index C).before args s = true) {a : Addr} (hE : Exact C a T)
    {g : JFrame} (hg : g.method = m) {rest : List Value} (hstack : g.stack = .ref a :: rest) (hdg : decode c.code g.pc = .ok (.checkcast index, 3)) :
    ∃ T', Stand p l e R s m args below meth c T' locs cells slots ∧ T'.heap = T.heap ∧ ∀ target, Steps p.tables e below (T'.setTop { g with pc := g.pc + 3, stack := .ref a :: rest }) target → Steps p.tables e below (T.setTop g) target := by
  obtain ⟨cB, h1, D, h2, h3, h4⟩ := hE
  have h1' : s.vm.findClass C = some cB := by rw [← X.warmed.alike.findClass]; exact h1
  obtain ⟨vm', X', st⟩ := X.checkcastYes hexec hown hlink h2 h4 h1' (by rw [h3]; exact Jvm.Free.SB.assignable_self _ _) hg hstack hdg
  exact ⟨_, X', rfl, fun t h => st t (by rw [← hstack] at h; exact h)⟩
namespace SEq
def yN : MethodName := ⟨"java/lang/String", "equals", "(Ljava/lang/Object;)Z"⟩
abbrev yB : ByteArray := jdk_42_method_66_code
theorem d0 : decode yB 0 = .ok (.aload_n 0, 1) := by decide +kernel
theorem d1 : decode yB 1 = .ok (.aload_n 1, 1) := by decide +kernel
theorem d2 : decode yB 2 = .ok (.if_acmp (.ne) 5, 3) := by decide +kernel
theorem d5 : decode yB 5 = .ok (.iconst 1, 1) := by decide +kernel
theorem d6 : decode yB 6 = .ok (.ireturn, 1) := by decide +kernel
theorem d7 : decode yB 7 = .ok (.aload_n 1, 1) := by decide +kernel
theorem d8 : decode yB 8 = .ok (.instanceof 10, 3) := by decide +kernel
theorem d11 : decode yB 11 = .ok (.ifCond (.eq) 43, 3) := by decide +kernel
theorem d14 : decode yB 14 = .ok (.aload_n 1, 1) := by decide +kernel
theorem d15 : decode yB 15 = .ok (.checkcast 10, 3) := by decide +kernel
theorem d18 : decode yB 18 = .ok (.astore_n 2, 1) := by decide +kernel
theorem d19 : decode yB 19 = .ok (.getstatic 38, 3) := by decide +kernel
theorem d22 : decode yB 22 = .ok (.ifCond (.eq) 14, 3) := by decide +kernel
theorem d25 : decode yB 25 = .ok (.aload_n 0, 1) := by decide +kernel
theorem d26 : decode yB 26 = .ok (.getfield 15, 3) := by decide +kernel
theorem d29 : decode yB 29 = .ok (.aload_n 2, 1) := by decide +kernel
theorem d30 : decode yB 30 = .ok (.getfield 15, 3) := by decide +kernel
theorem d33 : decode yB 33 = .ok (.if_icmp (.ne) 21, 3) := by decide +kernel
theorem d36 : decode yB 36 = .ok (.aload_n 0, 1) := by decide +kernel
theorem d37 : decode yB 37 = .ok (.getfield 9, 3) := by decide +kernel
theorem d40 : decode yB 40 = .ok (.aload_n 2, 1) := by decide +kernel
theorem d41 : decode yB 41 = .ok (.getfield 9, 3) := by decide +kernel
theorem d44 : decode yB 44 = .ok (.invokestatic 541, 3) := by decide +kernel
theorem d47 : decode yB 47 = .ok (.ifCond (.eq) 7, 3) := by decide +kernel
theorem d50 : decode yB 50 = .ok (.iconst 1, 1) := by decide +kernel
theorem d51 : decode yB 51 = .ok (.goto 4, 3) := by decide +kernel
theorem d54 : decode yB 54 = .ok (.iconst 0, 1) := by decide +kernel
theorem d55 : decode yB 55 = .ok (.ireturn, 1) := by decide +kernel
def site : List Cond := [.classLink "java/lang/String" 10 "java/lang/String", .fieldLink "java/lang/String" 38 "java/lang/String" "COMPACT_STRINGS" "Z", .fieldLink "java/lang/String" 15 "java/lang/String" "coder" "B", .fieldLink "java/lang/String" 9 "java/lang/String" "value" "[B", LEq.tab] ++ staticW "java/lang/String" 541 LEq.yN
def tab : Cond := tabOf yN yB 3 (some .boolean) site
def P (x t : Addr) (V : Cell) (cd : Int32) (n : Nat) (f : Nat → Int32) (y t' : Addr) (V' : Cell) (cd' : Int32) (k : Nat) (g : Nat → Int32) (z : Int32) (args : Array Value) (s : State) : Prop := args = #[.ref x, .ref y] ∧ Txt x t V cd n f s ∧ Txt y t' V' cd' k g s ∧ StaticIs s "java/lang/String" "COMPACT_STRINGS" "Z" (.int z) ∧ ¬ z = 0
/-- equals(Object) of two Strings: whether the texts are the same -/
theorem law (l : Launch) (x t : Addr) (V : Cell) (cd : Int32) (n : Nat) (f : Nat → Int32) (y t' : Addr) (V' : Cell) (cd' : Int32) (k : Nat) (g : Nat → Int32) (z : Int32) : Law l yN 2 1 1 14 yB 3 (some .boolean) site (P x t V cd n f y t' V' cd' k g z) (Says01 (SameT n f k g)) [] 0 0 := by
  refine Law.of_walk (plainFor_of_name (by decide +kernel)) (by decide +kernel) (by decide +kernel) (by decide) (fun _ _ h => by rw [h.1]; rfl) (fun _ U U' hal hh h => ⟨h.1, h.2.1.mv hal hh, h.2.2.1.mv hal hh, h.2.2.2.1.there hal hh, h.2.2.2.2⟩) (fun r U U' V V' h1 hal h2 h => Says01.mv r U U' V V' h1 hal h2 h) ?_
  intro p e s m args below meth c s₁ X0 hexec hbytes hml hret hlk hnm hown hh0 W hP
  obtain ⟨rfl, hx, hy, s1, hz⟩ := hP
  have c1 : Steps p.tables e below (s₁.setTop (entryFrame m #[.ref x, .ref y] 3)) (s₁.setTop (mkF m 2 #[.val (.ref x), .val (.ref y), .unset] [.ref y, .ref x])) := Steps.trans (entry rfl) (by
    show Steps p.tables e below (s₁.setTop (mkF m 0 #[.val (.ref x), .val (.ref y), .unset] [])) _
    refine XS.aloadN X0.here hexec rfl (hb hbytes d0) rfl rfl ?_
    refine XS.aloadN X0.here hexec rfl (hb hbytes d1) rfl rfl ?_
    exact Steps.refl _)
  by_cases hxy : x = y
  · have c2 : Steps p.tables e below (s₁.setTop (entryFrame m #[.ref x, .ref y] 3)) (s₁.setTop (mkF m 6 #[.val (.ref x), .val (.ref y), .unset] [.int 1])) := c1.trans (by
      refine acmpNo X0.here hexec rfl (hb hbytes d2) rfl rfl rfl (by simp [acmp, hxy]) ?_
      refine iconstV X0.here hexec rfl 1 (hb hbytes d5) (by decide) ?_
      exact Steps.refl _)
    subst hxy
    have ec : cd = cd' := by
      obtain ⟨D, fd, a1, a2, a3⟩ := hx.2.2.1
      obtain ⟨D', fd', b1, b2, b3⟩ := hy.2.2.1
      cases a1.symm.trans b1
      obtain ⟨q1, q2, q3, q4⟩ := a2.1
      obtain ⟨r1, r2, r3, r4⟩ := b2.1
      cases q4.symm.trans r4
      cases a3.symm.trans b3; rfl
    have et : t = t' := by
      obtain ⟨D, fd, a1, a2, a3⟩ := hx.2.1
      obtain ⟨D', fd', b1, b2, b3⟩ := hy.2.1
      cases a1.symm.trans b1
      obtain ⟨q1, q2, q3, q4⟩ := a2.1
      obtain ⟨r1, r2, r3, r4⟩ := b2.1
      cases q4.symm.trans r4
      cases a3.symm.trans b3; rfl
    subst ec et
    have ev : V = V' := by cases hx.2.2.2.1.1.symm.trans hy.2.2.2.1.1; rfl
    subst ev
    have hs : SameT n f k g := (Cod.eqv hx.2.2.2.2.1 hy.2.2.2.2.1 hx.2.2.2.2.2 hy.2.2.2.2.2).mp ⟨rfl, fun _ _ => rfl⟩
    exact ⟨s₁, some (.int 1), _, _, _, X0, rfl, rfl, rfl, (fun h => by cases h), ⟨1, rfl, hh0, Or.inl ⟨rfl, hs⟩⟩, fun fs hl => c2.trans (X0.ireturnOut hexec hret rfl (Or.inr (Or.inl rfl)) (hb hbytes d6) hl)⟩
  · have c2 : Steps p.tables e below (s₁.setTop (entryFrame m #[.ref x, .ref y] 3)) (s₁.setTop (mkF m 8 #[.val (.ref x), .val (.ref y), .unset] [.ref y])) := c1.trans (by
      refine acmpYes X0.here hexec rfl (pc0 := 2) rfl (hb hbytes d2) rfl rfl rfl (by simp [acmp, hxy]) (by decide) rfl ?_
      refine XS.aloadN X0.here hexec rfl (hb hbytes d7) rfl rfl ?_
      exact Steps.refl _)
    obtain ⟨T3, X3, q3, st3⟩ := cinst X0 hexec hown (wk W (.classLink "java/lang/String" 10 "java/lang/String")) (hy.mv X0.warmed.alike hh0).1 (g := (mkF m 8 #[.val (.ref x), .val (.ref y), .unset] [.ref y])) rfl (rest := []) rfl (hb hbytes d8)
    have hh3 := q3.trans hh0
    have c4 : Steps p.tables e below (s₁.setTop (entryFrame m #[.ref x, .ref y] 3)) (T3.setTop (mkF m 15 #[.val (.ref x), .val (.ref y), .unset] [.ref y])) := (c2.trans (st3 _ (Steps.refl _))).trans (by
      refine XS.ifNo X3.here hexec rfl (hb hbytes d11) rfl (i0_eq_f (by decide)) ?_
      refine XS.aloadN X3.here hexec rfl (hb hbytes d14) rfl rfl ?_
      exact Steps.refl _)
    obtain ⟨T5, X5, q5, st5⟩ := cself X3 hexec hown (wk W (.classLink "java/lang/String" 10 "java/lang/String")) (hy.mv X3.warmed.alike hh3).1 (g := (mkF m 15 #[.val (.ref x), .val (.ref y), .unset] [.ref y])) rfl (rest := []) rfl (hb hbytes d15)
    have hh5 := q5.trans hh3
    have c6 : Steps p.tables e below (s₁.setTop (entryFrame m #[.ref x, .ref y] 3)) (T5.setTop (mkF m 19 #[.val (.ref x), .val (.ref y), .val (.ref y)] [])) := (c4.trans (st5 _ (Steps.refl _))).trans (by
      refine XS.astoreN X5.here hexec rfl (hb hbytes d18) rfl rfl rfl ?_
      exact Steps.refl _)
    obtain ⟨T7, X7, q7, st7⟩ := X5.sget hexec hown (wk W (.fieldLink "java/lang/String" 38 "java/lang/String" "COMPACT_STRINGS" "Z")) s1 (fun _ _ h => by rw [hh5]; exact h) (g := (mkF m 19 #[.val (.ref x), .val (.ref y), .val (.ref y)] [])) rfl (hb hbytes d19)
    have hh7 := q7.trans hh5
    have c8 : Steps p.tables e below (s₁.setTop (entryFrame m #[.ref x, .ref y] 3)) (T7.setTop (mkF m 26 #[.val (.ref x), .val (.ref y), .val (.ref y)] [.ref x])) := (c6.trans (st7 _ (Steps.refl _))).trans (by
      refine XS.ifNo X7.here hexec rfl (hb hbytes d22) rfl (i0_eq_f hz) ?_
      refine XS.aloadN X7.here hexec rfl (hb hbytes d25) rfl rfl ?_
      exact Steps.refl _)
    obtain ⟨T9, X9, q9, st9⟩ := X7.hget hexec hown (wk W (.fieldLink "java/lang/String" 15 "java/lang/String" "coder" "B")) (hx.mv X7.warmed.alike hh7).2.2.1 (g := (mkF m 26 #[.val (.ref x), .val (.ref y), .val (.ref y)] [.ref x])) rfl (rest := []) rfl (hb hbytes d26)
    have hh9 := q9.trans hh7
    have c10 : Steps p.tables e below (s₁.setTop (entryFrame m #[.ref x, .ref y] 3)) (T9.setTop (mkF m 30 #[.val (.ref x), .val (.ref y), .val (.ref y)] [.ref y, .int cd])) := (c8.trans (st9 _ (Steps.refl _))).trans (by
      refine XS.aloadN X9.here hexec rfl (hb hbytes d29) rfl rfl ?_
      exact Steps.refl _)
    obtain ⟨T11, X11, q11, st11⟩ := X9.hget hexec hown (wk W (.fieldLink "java/lang/String" 15 "java/lang/String" "coder" "B")) (hy.mv X9.warmed.alike hh9).2.2.1 (g := (mkF m 30 #[.val (.ref x), .val (.ref y), .val (.ref y)] [.ref y, .int cd])) rfl (rest := [.int cd]) rfl (hb hbytes d30)
    have hh11 := q11.trans hh9
    have c12 : Steps p.tables e below (s₁.setTop (entryFrame m #[.ref x, .ref y] 3)) (T11.setTop (mkF m 33 #[.val (.ref x), .val (.ref y), .val (.ref y)] [.int cd', .int cd])) := c10.trans (st11 _ (Steps.refl _))
    by_cases hcd : cd = cd'
    · subst hcd
      have c13 : Steps p.tables e below (s₁.setTop (entryFrame m #[.ref x, .ref y] 3)) (T11.setTop (mkF m 37 #[.val (.ref x), .val (.ref y), .val (.ref y)] [.ref x])) := c12.trans (by
        refine XS.icmpNo X11.here hexec rfl (hb hbytes d33) rfl (ii_ne_f rfl) ?_
        refine XS.aloadN X11.here hexec rfl (hb hbytes d36) rfl rfl ?_
        exact Steps.refl _)
      obtain ⟨T14, X14, q14, st14⟩ := X11.hget hexec hown (wk W (.fieldLink "java/lang/String" 9 "java/lang/String" "value" "[B")) (hx.mv X11.warmed.alike hh11).2.1 (g := (mkF m 37 #[.val (.ref x), .val (.ref y), .val (.ref y)] [.ref x])) rfl (rest := []) rfl (hb hbytes d37)
      have hh14 := q14.trans hh11
      have c15 : Steps p.tables e below (s₁.setTop (entryFrame m #[.ref x, .ref y] 3)) (T14.setTop (mkF m 41 #[.val (.ref x), .val (.ref y), .val (.ref y)] [.ref y, .ref t])) := (c13.trans (st14 _ (Steps.refl _))).trans (by
        refine XS.aloadN X14.here hexec rfl (hb hbytes d40) rfl rfl ?_
        exact Steps.refl _)
      obtain ⟨T16, X16, q16, st16⟩ := X14.hget hexec hown (wk W (.fieldLink "java/lang/String" 9 "java/lang/String" "value" "[B")) (hy.mv X14.warmed.alike hh14).2.1 (g := (mkF m 41 #[.val (.ref x), .val (.ref y), .val (.ref y)] [.ref y, .ref t])) rfl (rest := [.ref t]) rfl (hb hbytes d41)
      have hh16 := q16.trans hh14
      have c17 : Steps p.tables e below (s₁.setTop (entryFrame m #[.ref x, .ref y] 3)) (T16.setTop (mkF m 44 #[.val (.ref x), .val (.ref y), .val (.ref y)] [.ref t', .ref t])) := c15.trans (st16 _ (Steps.refl _))
      obtain ⟨v18, T18, X18, E18, g18⟩ := X16.callS hexec (LEq.law l t V t' V') hown (wks W (staticW "java/lang/String" 541 LEq.yN)) (wk W LEq.tab) (W := 0) (Nat.le_of_ble_eq_true rfl) (Nat.le_of_ble_eq_true rfl) (Nat.le_refl _) (Nat.le_refl _) (g := (mkF m 44 #[.val (.ref x), .val (.ref y), .val (.ref y)] [.ref t', .ref t])) rfl (by rw [hml]; rfl) c17 (argsL := [.ref t, .ref t']) (rest := []) rfl rfl (by show 2 * 0 + 0 ≤ _; decide) (hb hbytes d44) (⟨rfl, hx.2.2.2.1.mv X16.warmed.alike hh16, hx.2.2.2.2.1.ty, hy.2.2.2.1.mv X16.warmed.alike hh16, hy.2.2.2.2.1.ty⟩)
      obtain ⟨v, rfl, q18, hv⟩ := E18
      have iff := Cod.eqv hx.2.2.2.2.1 hy.2.2.2.2.1 hx.2.2.2.2.2 hy.2.2.2.2.2
      rcases hv with ⟨rfl, he⟩ | ⟨rfl, he⟩
      · have c19 : Steps p.tables e below (s₁.setTop (entryFrame m #[.ref x, .ref y] 3)) (T18.setTop (mkF m 55 #[.val (.ref x), .val (.ref y), .val (.ref y)] [.int 1])) := Steps.trans g18 (by
          refine XS.ifNo X18.here hexec rfl (hb hbytes d47) rfl (i0_eq_f (by decide)) ?_
          refine iconstV X18.here hexec rfl 1 (hb hbytes d50) (by decide) ?_
          refine XS.goto X18.here hexec rfl (pc0 := 51) rfl (hb hbytes d51) (by decide) rfl ?_
          exact Steps.refl _)
        exact ⟨T18, some (.int 1), _, _, _, X18, rfl, rfl, rfl, (fun h => by cases h), ⟨1, rfl, q18.trans hh16, Or.inl ⟨rfl, iff.mp he⟩⟩, fun fs hl => c19.trans (X18.ireturnOut hexec hret rfl (Or.inr (Or.inl rfl)) (hb hbytes d55) hl)⟩
      · have c19 : Steps p.tables e below (s₁.setTop (entryFrame m #[.ref x, .ref y] 3)) (T18.setTop (mkF m 55 #[.val (.ref x), .val (.ref y), .val (.ref y)] [.int 0])) := Steps.trans g18 (by
          refine XS.ifYes X18.here hexec rfl (pc0 := 47) rfl (hb hbytes d47) rfl (i0_eq_t rfl) (by decide) rfl ?_
          refine iconstV X18.here hexec rfl 0 (hb hbytes d54) (by decide) ?_
          exact Steps.refl _)
        exact ⟨T18, some (.int 0), _, _, _, X18, rfl, rfl, rfl, (fun h => by cases h), ⟨0, rfl, q18.trans hh16, Or.inr ⟨rfl, fun q => he (iff.mpr q)⟩⟩, fun fs hl => c19.trans (X18.ireturnOut hexec hret rfl (Or.inr (Or.inl rfl)) (hb hbytes d55) hl)⟩
    · have c13 : Steps p.tables e below (s₁.setTop (entryFrame m #[.ref x, .ref y] 3)) (T11.setTop (mkF m 55 #[.val (.ref x), .val (.ref y), .val (.ref y)] [.int 0])) := c12.trans (by
        refine XS.icmpYes X11.here hexec rfl (pc0 := 33) rfl (hb hbytes d33) rfl (ii_ne_t hcd) (by decide) rfl ?_
        refine iconstV X11.here hexec rfl 0 (hb hbytes d54) (by decide) ?_
        exact Steps.refl _)
      exact ⟨T11, some (.int 0), _, _, _, X11, rfl, rfl, rfl, (fun h => by cases h), ⟨0, rfl, hh11, Or.inr ⟨rfl, Cod.dif hx.2.2.2.2.1 hy.2.2.2.2.1 hcd⟩⟩, fun fs hl => c13.trans (X11.ireturnOut hexec hret rfl (Or.inr (Or.inl rfl)) (hb hbytes d55) hl)⟩
theorem pays {l : Launch} {R : Room} {p : Program} {e : Env} {below : List Frame} {s : State} {sargs : Array Value} {len W : Nat} (x t : Addr) (V : Cell) (cd : Int32) (n : Nat) (f : Nat → Int32) (y t' : Addr) (V' : Cell) (cd' : Int32) (k : Nat) (g : Nat → Int32) (z : Int32) (htab : tab.before sargs s = true) (hfr : 2 ≤ R.frames) (hlo : W + 28 ≤ R.locals) :
    Back l R p e below s sargs yN len W (fun A₁ a₁ => A₁.cells + 0 ≤ R.cells ∧ A₁.slots + 0 ≤ R.slots ∧ P x t V cd n f y t' V' cd' k g z a₁ A₁.U) (fun A₁ _ v₁ B₁ => Says01 (SameT n f k g) v₁ A₁.U B₁.U ∧ B₁.locs = A₁.locs ++ [] ∧ B₁.cells = A₁.cells + 0 ∧ B₁.slots = A₁.slots + 0) :=
  (law l x t V cd n f y t' V' cd' k g z).pays htab hfr (by omega)
end SEq
end StrChars
namespace StrChars.Road
open Jvm Sem ClassFile Op Lib Jvm.Stand Jvm.Free Jvm.Free.XT
open Jvm.Lib.Cold (StaticIs)
/-- the words of String.isEmpty() -/
abbrev wordsEmp : List Jvm.Cond := [.code Emp.yN Emp.yB 1 (some .boolean), .initialized ST, .fieldLink ST 9 ST "value" "[B"]
theorem tabEmp_of {a : Array Value} {s : State} (h : ∀ w ∈ wordsEmp, w.before a s = true) : Emp.tab.before a s = true := unparts (wk h (.code Emp.yN Emp.yB 1 (some .boolean))) (wks h (.initialized Emp.yN.cls :: Emp.site))
theorem movedEmp {Z s : State} {a0 args : Array Value} (hZ : Z.Warmed39 s.vm) (hw : ∀ d ∈ wordsEmp, d.before a0 Z = true) : ∀ d ∈ wordsEmp, d.before args s = true := fun d hd => by
  have t : ∀ d ∈ wordsEmp, (d.onTables && d.keepsFace) = true := by decide +kernel
  exact RoadKit.mv hZ (hw d hd) (t d hd)
/-- the words of String.equals(Object) -/
abbrev wordsEq : List Jvm.Cond := [.code SEq.yN SEq.yB 3 (some .boolean), .initialized ST, .classLink ST 10 ST, .fieldLink ST 38 ST "COMPACT_STRINGS" "Z", .fieldLink ST 15 ST "coder" "B", .fieldLink ST 9 ST "value" "[B", .methodLink ST 541 LEq.yN, .static LEq.yN, .code LEq.yN LEq.yB 3 (some .boolean), .initialized "java/lang/StringLatin1"]
theorem tabEq_of {a : Array Value} {s : State} (h : ∀ w ∈ wordsEq, w.before a s = true) : SEq.tab.before a s = true := by
  have hl : LEq.tab.before a s = true := unparts (wk h (.code LEq.yN LEq.yB 3 (some .boolean))) (wks h (.initialized LEq.yN.cls :: LEq.site))
  have q := consq hl h
  exact unparts (wk q (.code SEq.yN SEq.yB 3 (some .boolean))) (wks q (.initialized SEq.yN.cls :: SEq.site))
theorem movedEq {Z s : State} {a0 args : Array Value} (hZ : Z.Warmed39 s.vm) (hw : ∀ d ∈ wordsEq, d.before a0 Z = true) : ∀ d ∈ wordsEq, d.before args s = true := fun d hd => by
  have t : ∀ d ∈ wordsEq, (d.onTables && d.keepsFace) = true := by decide +kernel
  exact RoadKit.mv hZ (hw d hd) (t d hd)
/-- the road's facts of a String, as the laws ask it -/
theorem txt_of {Z U : State} {a0 : Array Value} {kI : Nat} (wi : (Jvm.Cond.instantiable ST kI).before a0 Z = true) (al : Z.vm.Alike U.vm) {x t : Addr} {kb : ClassId} {cs : List Int32} {cd N2 : Int32} {vs : List Value} (E : RoadKit.Exa Z U.heap x ST) (V : RoadKit.Fld Z U.heap x ST "value" "[B" (.ref t)) (C : RoadKit.Fld Z U.heap x ST "coder" "B" (.int cd)) (K : RoadKit.Arv Z U.heap t kb .byte N2 vs (.int 0)) (hc : CodA cs cd N2 vs) (hb : ∀ c ∈ cs, ¬ c < 0 ∧ ¬ (65535 : Int32) < c) (l2 : cs.length ≤ 4000) :
    ∃ A, Txt x t A cd cs.length (fun j => cs.getD j 0) U := by
  obtain ⟨A, K1, K2, K3, K4, K5, K6⟩ := K
  have hcod := hc.cod (by omega) K3 K5
  obtain ⟨D, fV, fC, hB, F1, F2, g1, g2, -, -⟩ := strObj wi al E V C
  exact ⟨A, ⟨_, hB.2.2.1, D, hB.1, rfl, by cases q : D.vm <;> first | rfl | exact absurd q (hB.2.1.2 _)⟩, Has.of hB F1 g1, Has.of hB F2 g2, ⟨K1.1, State.isArrayOf_alike al K1.2.1, K1.2.2, by rcases hcod with ⟨-, q, -⟩ | ⟨-, q, -⟩ <;> omega⟩, hcod, fun j hj => by
    have e : cs.getD j 0 = cs[j] := by simp [List.getD_eq_getElem?_getD, hj]
    show ¬ cs.getD j 0 < 0 ∧ ¬ 65535 < cs.getD j 0
    rw [e]; exact hb _ (List.getElem_mem _)⟩
theorem same_list (cs ds : List Int32) : SameT cs.length (fun j => cs.getD j 0) ds.length (fun j => ds.getD j 0) ↔ cs = ds := by
  constructor
  · rintro ⟨e, q⟩
    refine List.ext_getElem e fun j h1 h2 => ?_
    have := q j h1
    simpa [List.getD_eq_getElem?_getD, h1, h2] using this
  · rintro rfl
    exact ⟨rfl, fun _ _ => rfl⟩
/-- **isEmpty() OF SUCH A STRING** -/
theorem empW {p : Program} {l : Launch} {e : Env} {R : Room} {s : State} {args : Array Value} {below : List Frame} {len W : Nat} {Z : State} {a0 : Array Value} {h : Heap} (hZ : Z.Warmed39 s.vm) (hw : ∀ d ∈ wordsEmp, d.before a0 Z = true) {kI : Nat} (wi : (Jvm.Cond.instantiable ST kI).before a0 Z = true)
    {x t : Addr} {kb : ClassId} {cs : List Int32} {cd N2 : Int32} {vs : List Value} (E : RoadKit.Exa Z h x ST) (V : RoadKit.Fld Z h x ST "value" "[B" (.ref t)) (C : RoadKit.Fld Z h x ST "coder" "B" (.int cd)) (K : RoadKit.Arv Z h t kb .byte N2 vs (.int 0)) (hc : CodA cs cd N2 vs) (hb : ∀ c ∈ cs, ¬ c < 0 ∧ ¬ (65535 : Int32) < c) (l2 : cs.length ≤ 4000) (hfr : 1 ≤ R.frames) (hlo : W + 12 ≤ R.locals) :
    Back l R p e below s args (⟨"java/lang/String", "isEmpty", "()Z"⟩ : MethodName) len W (fun P a => a = #[.ref x] ∧ P.U.heap = h ∧ P.cells + 0 ≤ R.cells ∧ P.slots + 0 ≤ R.slots)
      (fun P _ v B => ∃ L, (v = some (.int (if cs.length = 0 then 1 else 0)) ∧ L = [] ∧ B.U.heap = h) ∧ B.locs = P.locs ++ L ∧ B.cells = P.cells + 0 ∧ B.slots = P.slots + 0) := by
  intro m meth c P g ig mk a X hg hsize hdg hW hn hp'
  obtain ⟨rfl, rfl, r1, r2⟩ := hp'
  have al : Z.vm.Alike P.U.vm := hZ.alike.trans X.warmed.alike
  obtain ⟨A, hx⟩ := txt_of wi al E V C K hc hb l2
  obtain ⟨v, B, X', ⟨⟨hv, hh⟩, hl, hk, hs⟩, st⟩ := Emp.pays x t A cd cs.length (fun j => cs.getD j 0) (tabEmp_of (movedEmp hZ hw)) hfr hlo m meth c P g ig mk _ X hg hsize hdg hW hn ⟨r1, r2, rfl, hx⟩
  exact ⟨v, B, X', ⟨[], ⟨hv, rfl, hh⟩, hl, hk, hs⟩, st⟩
/-- **equals(Object) OF TWO SUCH STRINGS**: 1 just where the chars are the same -/
theorem eqW {p : Program} {l : Launch} {e : Env} {R : Room} {s : State} {args : Array Value} {below : List Frame} {len W : Nat} {Z : State} {a0 : Array Value} {h : Heap} (hZ : Z.Warmed39 s.vm) (hw : ∀ d ∈ wordsEq, d.before a0 Z = true) {kI : Nat} (wi : (Jvm.Cond.instantiable ST kI).before a0 Z = true)
    {x t : Addr} {kb : ClassId} {cs : List Int32} {cd N2 : Int32} {vs : List Value} (E : RoadKit.Exa Z h x ST) (V : RoadKit.Fld Z h x ST "value" "[B" (.ref t)) (C : RoadKit.Fld Z h x ST "coder" "B" (.int cd)) (K : RoadKit.Arv Z h t kb .byte N2 vs (.int 0)) (hc : CodA cs cd N2 vs) (hb : ∀ c ∈ cs, ¬ c < 0 ∧ ¬ (65535 : Int32) < c) (l2 : cs.length ≤ 4000)
    {y t' : Addr} {kb' : ClassId} {ds : List Int32} {cd' N2' : Int32} {vs' : List Value} (E' : RoadKit.Exa Z h y ST) (V' : RoadKit.Fld Z h y ST "value" "[B" (.ref t')) (C' : RoadKit.Fld Z h y ST "coder" "B" (.int cd')) (K' : RoadKit.Arv Z h t' kb' .byte N2' vs' (.int 0)) (hc' : CodA ds cd' N2' vs') (hb' : ∀ c ∈ ds, ¬ c < 0 ∧ ¬ (65535 : Int32) < c) (l2' : ds.length ≤ 4000)
    {z : Int32} (S : RoadKit.Sta Z h ST "COMPACT_STRINGS" "Z" (.int z)) (hz : ¬ z = 0) (hfr : 2 ≤ R.frames) (hlo : W + 28 ≤ R.locals) :
    Back l R p e below s args (⟨"java/lang/String", "equals", "(Ljava/lang/Object;)Z"⟩ : MethodName) len W (fun P a => a = #[.ref x, .ref y] ∧ P.U.heap = h ∧ P.cells + 0 ≤ R.cells ∧ P.slots + 0 ≤ R.slots)
      (fun P _ v B => ∃ L, (((v = some (.int 1) ∧ cs = ds) ∨ (v = some (.int 0) ∧ ¬ cs = ds)) ∧ L = [] ∧ B.U.heap = h) ∧ B.locs = P.locs ++ L ∧ B.cells = P.cells + 0 ∧ B.slots = P.slots + 0) := by
  intro m meth c P g ig mk a X hg hsize hdg hW hn hp'
  obtain ⟨rfl, rfl, r1, r2⟩ := hp'
  have al : Z.vm.Alike P.U.vm := hZ.alike.trans X.warmed.alike
  obtain ⟨A, hx⟩ := txt_of wi al E V C K hc hb l2
  obtain ⟨A', hy⟩ := txt_of wi al E' V' C' K' hc' hb' l2'
  obtain ⟨v, B, X', ⟨⟨w, hv, hh, hq⟩, hl, hk, hs⟩, st⟩ := SEq.pays x t A cd cs.length (fun j => cs.getD j 0) y t' A' cd' ds.length (fun j => ds.getD j 0) z (tabEq_of (movedEq hZ hw)) hfr hlo m meth c P g ig mk _ X hg hsize hdg hW hn ⟨r1, r2, rfl, hx, hy, sta_is al S, hz⟩
  refine ⟨v, B, X', ⟨[], ⟨?_, rfl, hh⟩, hl, hk, hs⟩, st⟩
  rcases hq with ⟨rfl, q⟩ | ⟨rfl, q⟩
  · exact Or.inl ⟨hv, (same_list cs ds).mp q⟩
  · exact Or.inr ⟨hv, fun e => q ((same_list cs ds).mpr e)⟩
end StrChars.Road
namespace StrChars.Road
open Jvm Sem ClassFile Op Lib Jvm.Stand Jvm.Free Jvm.Free.XT
open Jvm.Lib.Cold (StaticIs)
/-- what backV says of its String, as the contracts of this text ask it: cs's low bytes, coder 0 -/
theorem codOf {cs : List Int32} {n : Nat} (hn : cs.length = n) (hb : ∀ c ∈ cs, ¬ 255 < c) : CodA cs 0 (Int32.ofNat n) ((cs.map lo8).map Value.int) := Or.inl ⟨rfl, by rw [hn], by simp [List.map_map, Function.comp_def], hb⟩
end StrChars.Road
end Jvm.Pilot.@@N@@
namespace Jvm.Pilot.@@N@@
open Jvm Jvm.ClassFile Sem Op Lib Jvm.Free Jvm.Stand Jvm.LawKit Jvm.RoadKit Bundle Jvm.Pilot.@@N@@.Jvm.D
def irm (a b : Int32) : Int32 := a - a / b * b
theorem wi {Z : State} {a0 : Array Value} (hw : ∀ d ∈ tables_1, d.before a0 Z = true) {d : Jvm.Cond} (i : Nat) (h : tables_1[i]? = some d) : d.before a0 Z = true := hw d (List.mem_of_getElem? h)
theorem own_uniq {Z : State} {h : Heap} {a : Addr} {C n d : String} {v w : Value} (F : Fld Z h a C n d v) (G : Fld Z h a C n d w) : v = w := by
  obtain ⟨c1, cf1, k1, i1, f1, a1, a2, -, -, -, -, a7⟩ := F
  obtain ⟨c2, cf2, k2, i2, f2, b1, b2, -, -, -, -, b7⟩ := G
  cases a1.symm.trans b1
  cases a2.symm.trans b2
  exact Option.some.inj (a7.symm.trans b7)
theorem own_ne {Z : State} {h : Heap} {a b : Addr} {C n d : String} {v w : Value} (F : Fld Z h a C n d v) (G : Fld Z h b C n d w) (hn : v ≠ w) : a ≠ b := fun e => by
  subst e
  exact hn (own_uniq F G)
theorem own_fldI {s : State} {args : Array Value} {t : Term} {a : Addr} {C n d : String} {k : Int32} (ev : t.eval args s none [] s = some (.ref a)) (h : (Cond.eq (Term.field t C n d) (Term.int k)).value args s none s [] = some true) : Fld s s.heap a C n d (.int k) := Fld.start ((fld_at ev).symm.trans (eqv_i rfl h))
theorem own_and255 (x : Int32) : ¬ nar .char ((x &&& (255 : Int32)).toUInt32.toUInt16.toUInt32.toInt32) < 0 ∧ ¬ (255 : Int32) < nar .char ((x &&& (255 : Int32)).toUInt32.toUInt16.toUInt32.toInt32) := by
  have t : ∀ k : Fin 256, ¬ nar .char ((Int32.ofNat k.val).toUInt32.toUInt16.toUInt32.toInt32) < 0 ∧ ¬ (255 : Int32) < nar .char ((Int32.ofNat k.val).toUInt32.toUInt16.toUInt32.toInt32) := by decide +kernel
  have h : (x &&& 255).toBitVec.toNat < 256 := by
    simp only [Int32.toBitVec_and, BitVec.toNat_and]
    exact Nat.lt_succ_of_le Nat.and_le_right
  have e : (x &&& 255) = Int32.ofNat (x &&& 255).toBitVec.toNat := by
    apply Int32.toBitVec_inj.mp
    show _ = BitVec.ofNat 32 _
    rw [BitVec.ofNat_toNat]; simp
  rw [e]
  exact t ⟨_, h⟩
theorem own_nar {x : Int32} (h : ¬ x < 0 ∧ ¬ (255 : Int32) < x) : nar .char x = x := by
  have t : ∀ k : Fin 256, nar .char (Int32.ofNat k.val) = Int32.ofNat k.val := by decide +kernel
  obtain ⟨h1, h2⟩ := h
  rw [Int32.lt_iff_toInt_lt] at h1 h2
  have e0 : (0 : Int32).toInt = 0 := rfl
  have e1 : (255 : Int32).toInt = 255 := rfl
  have e : x = Int32.ofNat x.toInt.toNat := by
    apply Int32.toInt_inj.mp
    rw [Int32.toInt_ofNat_of_lt (by omega)]
    omega
  rw [e]
  exact t ⟨x.toInt.toNat, by omega⟩
theorem own_no {Z : State} {a0 : Array Value} {C S K : String} {n : Nat} (w : (Cond.superclass C S).before a0 Z = true) (wo : (Cond.noSuperclass S).before a0 Z = true) (wi : (Cond.instantiable K n).before a0 Z = true) (hn : C ≠ K) (hn' : S ≠ K) : ∃ c t, Z.vm.findClass C = some c ∧ Z.vm.findClass K = some t ∧ Z.vm.assignable c t = false := by
  obtain ⟨t, kt, g0, g2, g5, g7, -, -⟩ := Cond.instantiable_spec wi
  obtain ⟨c0, k0, a1, a2, a3, -, -⟩ := Cond.noSuperclass_spec wo
  have ne0 := ids_ne a1 g0 hn'
  have r0 : ∀ fuel, Z.vm.isSubclassAux fuel c0 t = false := fun fuel => by
    cases fuel with
    | zero => rfl
    | succ f => simp [Vm.isSubclassAux, ne0, a2, a3]
  obtain ⟨c, h0⟩ := found_sup w
  obtain ⟨p, k, kp, h1, h2, h3, h4, h5, -, h7⟩ := Cond.superclass_spec h0 w
  cases a1.symm.trans h1
  have ne := ids_ne h0 g0 hn
  have r1 : ∀ fuel, Z.vm.isSubclassAux fuel c t = false := fun fuel => by
    cases fuel with
    | zero => rfl
    | succ f => simp [Vm.isSubclassAux, ne, h2, h4, r0]
  have g8 : kt.isInterface = false := by
    cases hb : kt.isInterface with
    | false => rfl
    | true => rw [hb] at g7; simp at g7
  refine ⟨c, t, h0, g0, ?_⟩
  show Z.vm.assignableAux (255 + 1) c t = false
  simp [Vm.assignableAux, ne, h2, g2, h5, g5, g8, Vm.isSubclass, r1]
theorem own_up (cs : List Int32) (h : ∀ c ∈ cs, ¬ c < 0 ∧ ¬ (255 : Int32) < c) : ∀ c ∈ cs, ¬ c < 0 ∧ ¬ (65535 : Int32) < c := fun c hc => ⟨(h c hc).1, fun q => (h c hc).2 (by rw [Int32.lt_iff_toInt_lt] at q ⊢; have e1 : (65535 : Int32).toInt = 65535 := rfl; have e2 : (255 : Int32).toInt = 255 := rfl; omega)⟩
theorem own_memS {a : Int32} {l : List Int32} (h : ¬ a < 0 ∧ ¬ (255 : Int32) < a) (r : ∀ c ∈ l, ¬ c < 0 ∧ ¬ (255 : Int32) < c) : ∀ c ∈ a :: l, ¬ c < 0 ∧ ¬ (255 : Int32) < c := fun c hc => by
  rcases List.mem_cons.mp hc with q | q
  · rw [q]; exact h
  · exact r c q
theorem own_mem0 : ∀ c ∈ ([] : List Int32), ¬ c < 0 ∧ ¬ (255 : Int32) < c := fun _ q => nomatch q
def Str (Z : State) (h : Heap) (x : Addr) (cs : List Int32) : Prop := ∃ (t : Addr) (kb : ClassId) (N : Int32) (vs : List Value), Exa Z h x "java/lang/String" ∧ Fld Z h x "java/lang/String" "value" "[B" (.ref t) ∧ Fld Z h x "java/lang/String" "coder" "B" (.int 0) ∧ Arv Z h t kb .byte N vs (.int 0) ∧ StrChars.Road.CodA cs 0 N vs ∧ (∀ c ∈ cs, ¬ c < 0 ∧ ¬ (255 : Int32) < c) ∧ cs.length ≤ 4000
theorem Str.ext {Z : State} {h h' : Heap} {x : Addr} {cs : List Int32} (E : Ext h h') (S : Str Z h x cs) : Str Z h' x cs := by
  obtain ⟨t, kb, N, vs, q1, q2, q3, q4, q5, q6, q7⟩ := S
  exact ⟨t, kb, N, vs, q1.ext E, q2.ext E, q3.ext E, q4.ext E, q5, q6, q7⟩
theorem own_ext {h h' : Heap} (K : Keep h h' []) : Ext h h' := ⟨K.1, fun a c q => K.2.1 a c q nin0⟩
theorem own_b8 (x : Int32) : nar .byte (x.toInt8.toInt32) = x.toInt8.toInt32 := by simp [nar]
def mk (ln c0 c1 : Int32) : List Int32 := if ln = 1 then [c0] else [c0, c1]
def QP (r : Value) (h0 : Heap) (n0 : Nat) (v : Option Value) (h : Heap) (L : List Loc) : Prop := v = some r ∧ Fr n0 L ∧ h = h0
theorem d9_0 : decode jdk_43_method_3_code 0 = .ok (.iload_n 0, 1) := by decide +kernel
theorem d9_1 : decode jdk_43_method_3_code 1 = .ok (.sipush 255, 3) := by decide +kernel
theorem d9_4 : decode jdk_43_method_3_code 4 = .ok (.if_icmp .gt 7, 3) := by decide +kernel
theorem d9_7 : decode jdk_43_method_3_code 7 = .ok (.iconst 1, 1) := by decide +kernel
theorem d9_8 : decode jdk_43_method_3_code 8 = .ok (.goto 4, 3) := by decide +kernel
theorem d9_12 : decode jdk_43_method_3_code 12 = .ok (.ireturn, 1) := by decide +kernel
theorem ef_I_1 (m : MethodId) (x0 : Int32) : entryFrame m #[(.int x0)] 1 = mkF m 0 #[.val (.int x0)] [] := by first | (simp [entryFrame, mkF, argsToLocals, Value.category]; done) | rfl
theorem pn_0 : plainName "java/lang/StringLatin1" = true := by first | (simp [plainName, overriddenIn]; done) | decide +kernel
set_option maxRecDepth 65536 in
set_option maxHeartbeats 40000000 in
theorem rm9 (l : Launch) (Z : State) (a0 : Array Value) (hw : ∀ d ∈ tables_1, d.before a0 Z = true) (ws : List Jvm.Cond) (ch : Int32) (h0 : Heap) (n0 : Nat) (O0 : Old Z n0 h0) (hc : ¬ ch < 0 ∧ ¬ (255 : Int32) < ch) :
    MetFree l (⟨"java/lang/StringLatin1", "canEncode", "(C)Z"⟩ : MethodName) (head1 (Jvm.Cond.code (⟨"java/lang/StringLatin1", "canEncode", "(C)Z"⟩ : MethodName) jdk_43_method_3_code 1 (some .boolean) :: ws) ({ frames := 0, cells := 0, slots := 0, locals := 0 } : Room)) (fun a_ U => a_ = #[(.int ch)] ∧ Z.Warmed39 U.vm ∧ U.heap = h0) (fun _ _ _ _ _ => True) (fun _ U o U' => ∃ v L, o = .returned v ∧ QP (.int (1 : Int32)) h0 n0 v U'.heap L ∧ FrameEnd U o U' L ({ frames := 0, cells := 0, slots := 0, locals := 0 } : Room).cells ({ frames := 0, cells := 0, slots := 0, locals := 0 } : Room).slots) := by
  refine MetFree.of_bodySF (plainFor_of_name pn_0) hisR ?_
  intro p e s m args below meth c s₁ Bd hml0 hP hK
  obtain ⟨rfl, hZ, hh⟩ := hP
  have hx := Bd.exec
  have hby := Bd.bytes
  have hml : c.maxLocals = 1 := hml0
  have hown : s.vm.findClass "java/lang/StringLatin1" = some m.cls := findClass_of_methodNamed Bd.named
  have hnm := (name_of_methodNamed Bd.named Bd.method).1
  have X0 : Stand p l e ({ frames := 0, cells := 0, slots := 0, locals := 0 } : Room) s m #[(.int ch)] below meth c s₁ [] 0 0 := Stand.of_body Bd
  have e0 : s₁.heap = h0 := by rw [← hh, Bd.state]; rfl
  have N0 := Fr.nil n0
  have pre0 : ∀ tg, Steps p.tables e below (s₁.setTop (mkF m 0 #[.val (.int ch)] [])) tg → Steps p.tables e below (s₁.setTop (entryFrame m #[(.int ch)] 1)) tg := fun tg kq => castTop (ef_I_1 m ch) kq
  obtain ⟨fs, hr, hrun, hended, hW, hsame⟩ := X0.leave (v := some (.int (1 : Int32))) (fun h => by rw [Bd.returns] at h; cases h)
  refine ⟨_, _, pre0 _ ?_, hrun, hended, _, _, rfl, ?_, ⟨_, rfl⟩, hW, hsame.mono (by decide) (by decide)⟩
  · show Steps p.tables e below (s₁.setTop (mkF m 0 #[.val (.int ch)] [])) _
    refine XS.iloadN X0.here hx rfl (hb hby d9_0) rfl ?_
    show Steps p.tables e below (s₁.setTop (mkF m 1 #[.val (.int ch)] [(.int ch)])) _
    refine XS.sipush X0.here hx rfl (hb hby d9_1) ?_
    show Steps p.tables e below (s₁.setTop (mkF m 4 #[.val (.int ch)] [(.int (255 : Int32)), (.int ch)])) _
    refine XS.icmpNo X0.here hx rfl (hb hby d9_4) rfl (flt hc.2).2.2.1 ?_
    show Steps p.tables e below (s₁.setTop (mkF m 7 #[.val (.int ch)] [])) _
    refine XS.iconst X0.here hx rfl (hb hby d9_7) ?_
    show Steps p.tables e below (s₁.setTop (mkF m 8 #[.val (.int ch)] [(.int (1 : Int32))])) _
    refine XS.goto X0.here hx rfl (pc0 := 8) (pc' := 12) rfl (hb hby d9_8) (by decide) (by decide) ?_
    show Steps p.tables e below (s₁.setTop (mkF m 12 #[.val (.int ch)] [(.int (1 : Int32))])) _
    exact retN X0 hx (t := .boolean) Bd.returns (by simp) (hb hby d9_12) hr
  · show QP (.int (1 : Int32)) h0 n0 _ s₁.heap _
    rw [e0]
    exact ⟨rfl, N0, rfl⟩
def Q10 (Z : State) (c : Int32) (h0 : Heap) (n0 : Nat) (v : Option Value) (h : Heap) (L : List Loc) : Prop := ∃ (t : Addr) (kb : ClassId), v = some (.ref t) ∧ Fr n0 L ∧ Keep h0 h [] ∧ h0.size ≤ t ∧ Arv Z h t kb .byte (1 : Int32) [(.int (c.toInt8.toInt32))] (.int (0 : Int32))
theorem d10_0 : decode jdk_43_method_46_code 0 = .ok (.iconst 1, 1) := by decide +kernel
theorem d10_1 : decode jdk_43_method_46_code 1 = .ok (.newarray .byte, 2) := by decide +kernel
theorem d10_3 : decode jdk_43_method_46_code 3 = .ok (.dup, 1) := by decide +kernel
theorem d10_4 : decode jdk_43_method_46_code 4 = .ok (.iconst 0, 1) := by decide +kernel
theorem d10_5 : decode jdk_43_method_46_code 5 = .ok (.iload_n 0, 1) := by decide +kernel
theorem d10_6 : decode jdk_43_method_46_code 6 = .ok (.i2b, 1) := by decide +kernel
theorem d10_7 : decode jdk_43_method_46_code 7 = .ok (.bastore, 1) := by decide +kernel
theorem d10_8 : decode jdk_43_method_46_code 8 = .ok (.areturn, 1) := by decide +kernel
set_option maxRecDepth 65536 in
set_option maxHeartbeats 40000000 in
theorem rm10 (l : Launch) (Z : State) (a0 : Array Value) (hw : ∀ d ∈ tables_1, d.before a0 Z = true) (ws : List Jvm.Cond) (ch : Int32) (h0 : Heap) (n0 : Nat) (O0 : Old Z n0 h0) :
    MetFree l (⟨"java/lang/StringLatin1", "toBytes", "(C)[B"⟩ : MethodName) (head1 (Jvm.Cond.code (⟨"java/lang/StringLatin1", "toBytes", "(C)[B"⟩ : MethodName) jdk_43_method_46_code 1 (some (.array .byte)) :: ws) ({ frames := 0, cells := 1, slots := 1, locals := 0 } : Room)) (fun a_ U => a_ = #[(.int ch)] ∧ Z.Warmed39 U.vm ∧ U.heap = h0) (fun _ _ _ _ _ => True) (fun _ U o U' => ∃ v L, o = .returned v ∧ Q10 Z ch h0 n0 v U'.heap L ∧ FrameEnd U o U' L ({ frames := 0, cells := 1, slots := 1, locals := 0 } : Room).cells ({ frames := 0, cells := 1, slots := 1, locals := 0 } : Room).slots) := by
  refine MetFree.of_bodySF (plainFor_of_name pn_0) hisR ?_
  intro p e s m args below meth c s₁ Bd hml0 hP hK
  obtain ⟨rfl, hZ, hh⟩ := hP
  have hx := Bd.exec
  have hby := Bd.bytes
  have hml : c.maxLocals = 1 := hml0
  have hown : s.vm.findClass "java/lang/StringLatin1" = some m.cls := findClass_of_methodNamed Bd.named
  have hnm := (name_of_methodNamed Bd.named Bd.method).1
  have X0 : Stand p l e ({ frames := 0, cells := 1, slots := 1, locals := 0 } : Room) s m #[(.int ch)] below meth c s₁ [] 0 0 := Stand.of_body Bd
  have e0 : s₁.heap = h0 := by rw [← hh, Bd.state]; rfl
  have N0 := Fr.nil n0
  have pre0 : ∀ tg, Steps p.tables e below (s₁.setTop (mkF m 0 #[.val (.int ch)] [])) tg → Steps p.tables e below (s₁.setTop (entryFrame m #[(.int ch)] 1)) tg := fun tg kq => castTop (ef_I_1 m ch) kq
  obtain ⟨T101, h101, k101, X101, e101, E101, A101, st101⟩ := newP X0 hx hZ (wi hw 23 rfl) e0 (g := (mkF m 1 #[.val (.int ch)] [(.int (1 : Int32))])) rfl (hb hby d10_1) rfl (by decide) (cap := 1) (by decide) (by decide) (by decide) (by decide)
  obtain ⟨b101, g101⟩ : ∃ z, z = h0.size := ⟨_, rfl⟩
  rw [← g101] at A101 st101
  have g_b101 : n0 ≤ b101 := Nat.le_trans (O0.1 ▸ O0.2.1) (Nat.le_of_eq g101.symm)
  have sz_b101 : h0.size ≤ b101 := Nat.le_trans (Nat.le_refl _) (Nat.le_of_eq g101.symm)
  have O101 := O0.ext E101
  have KK101 : Keep h0 h101 [] := (Keep.refl h0 []).ext E101
  have V_b101 : Arv Z h101 b101 k101 .byte (1 : Int32) [(.int (0 : Int32))] (.int (0 : Int32)) := (Arv.new A101 (by decide)).pad (pad_rep [] (.int (0 : Int32)) 1)
  obtain ⟨cl_b101_13, Ar_b101_13, q_b101_13, S_b101_13, N_b101_13, H_b101_13, G_b101_13⟩ := id (V_b101)
  have hinb101_13 : ¬ ((0 : Int32) < 0 ∨ cl_b101_13.slots.size ≤ ((0 : Int32)).toNatClampNeg) := inb_of S_b101_13 ⟨by decide, by decide⟩
  obtain ⟨T102, h102, X102, e102, W102, st102⟩ := stB X101 hx hZ e101 Ar_b101_13 (j := (0 : Int32)) hinb101_13 (g := (mkF m 7 #[.val (.int ch)] [(.int (ch.toInt8.toInt32)), (.int (0 : Int32)), (.ref b101), (.ref b101)])) rfl rfl (hb hby d10_7)
  have V_b101_102 : Arv Z h102 b101 k101 .byte (1 : Int32) [(.int (nar .byte (ch.toInt8.toInt32)))] (.int (0 : Int32)) := Arv.set Ar_b101_13 q_b101_13 S_b101_13 N_b101_13 H_b101_13 G_b101_13 (fits_nar_byte _) W102 0 rfl (Nat.le_of_ble_eq_true rfl)
  have V_b101_102' : Arv Z h102 b101 k101 .byte (1 : Int32) [(.int (ch.toInt8.toInt32))] (.int (0 : Int32)) := by have q := V_b101_102; rw [own_b8] at q; exact q
  have O102 := O101.wr W102 g_b101
  have KK102 : Keep h0 h102 [] := KK101.wr W102 (Or.inr sz_b101)
  have N102 := Fr.snoc X102 N0 g_b101
  obtain ⟨fs, hr, hrun, hended, hW, hsame⟩ := X102.leave (v := some (.ref b101)) (fun h => by rw [Bd.returns] at h; cases h)
  refine ⟨_, _, pre0 _ ?_, hrun, hended, _, _, rfl, ?_, ⟨_, rfl⟩, hW, hsame.mono (by decide) (by decide)⟩
  · show Steps p.tables e below (s₁.setTop (mkF m 0 #[.val (.int ch)] [])) _
    refine XS.iconst X0.here hx rfl (hb hby d10_0) ?_
    show Steps p.tables e below (s₁.setTop (mkF m 1 #[.val (.int ch)] [(.int (1 : Int32))])) _
    refine st101 _ ?_
    show Steps p.tables e below (T101.setTop (mkF m 3 #[.val (.int ch)] [(.ref b101)])) _
    refine XS.dup X101.here hx rfl (hb hby d10_3) rfl rfl ?_
    show Steps p.tables e below (T101.setTop (mkF m 4 #[.val (.int ch)] [(.ref b101), (.ref b101)])) _
    refine XS.iconst X101.here hx rfl (hb hby d10_4) ?_
    show Steps p.tables e below (T101.setTop (mkF m 5 #[.val (.int ch)] [(.int (0 : Int32)), (.ref b101), (.ref b101)])) _
    refine XS.iloadN X101.here hx rfl (hb hby d10_5) rfl ?_
    show Steps p.tables e below (T101.setTop (mkF m 6 #[.val (.int ch)] [(.int ch), (.int (0 : Int32)), (.ref b101), (.ref b101)])) _
    refine XS.i2b X101.here hx rfl (hb hby d10_6) rfl ?_
    show Steps p.tables e below (T101.setTop (mkF m 7 #[.val (.int ch)] [(.int (ch.toInt8.toInt32)), (.int (0 : Int32)), (.ref b101), (.ref b101)])) _
    refine st102 _ ?_
    show Steps p.tables e below (T102.setTop (mkF m 8 #[.val (.int ch)] [(.ref b101)])) _
    jvm_step X102.here [X102.here.top, hx, (hb hby d10_8), X102.method', Bd.returns, Value.isRef, FieldType.isReference]
    first | (intro acts; rw [hr _ acts rfl rfl rfl]) | rw [hr _ _ rfl rfl rfl]
    exact Steps.refl _
  · show Q10 Z ch h0 n0 _ T102.heap _
    rw [e102]
    exact ⟨_, _, rfl, N102, KK102, sz_b101, V_b101_102'⟩
def Q11 (Z : State) (x t : Addr) (h0 : Heap) (n0 : Nat) (v : Option Value) (h : Heap) (L : List Loc) : Prop := v = none ∧ Fr n0 L ∧ Keep h0 h [x] ∧ Exa Z h x "java/lang/String" ∧ Fld Z h x "java/lang/String" "value" "[B" (.ref t) ∧ Fld Z h x "java/lang/String" "coder" "B" (.int (0 : Int32))
theorem d11_0 : decode jdk_42_method_151_code 0 = .ok (.aload_n 0, 1) := by decide +kernel
theorem d11_1 : decode jdk_42_method_151_code 1 = .ok (.invokespecial 1, 3) := by decide +kernel
theorem d11_4 : decode jdk_42_method_151_code 4 = .ok (.aload_n 0, 1) := by decide +kernel
theorem d11_5 : decode jdk_42_method_151_code 5 = .ok (.aload_n 1, 1) := by decide +kernel
theorem d11_6 : decode jdk_42_method_151_code 6 = .ok (.putfield 9, 3) := by decide +kernel
theorem d11_9 : decode jdk_42_method_151_code 9 = .ok (.aload_n 0, 1) := by decide +kernel
theorem d11_10 : decode jdk_42_method_151_code 10 = .ok (.iload_n 2, 1) := by decide +kernel
theorem d11_11 : decode jdk_42_method_151_code 11 = .ok (.putfield 15, 3) := by decide +kernel
theorem d11_14 : decode jdk_42_method_151_code 14 = .ok (.return_, 1) := by decide +kernel
theorem ef_RRI_3 (m : MethodId) (x0 : Addr) (x1 : Addr) (x2 : Int32) : entryFrame m #[(.ref x0), (.ref x1), (.int x2)] 3 = mkF m 0 #[.val (.ref x0), .val (.ref x1), .val (.int x2)] [] := by first | (simp [entryFrame, mkF, argsToLocals, Value.category]; done) | rfl
theorem pn_1 : plainName "java/lang/String" = true := by first | (simp [plainName, overriddenIn]; done) | decide +kernel
set_option maxRecDepth 65536 in
set_option maxHeartbeats 40000000 in
theorem rm11 (l : Launch) (Z : State) (a0 : Array Value) (hw : ∀ d ∈ tables_1, d.before a0 Z = true) (ws : List Jvm.Cond) (x t : Addr) (h0 : Heap) (n0 : Nat) (O0 : Old Z n0 h0) (E : Exa Z h0 x "java/lang/String") (F1 : Fld Z h0 x "java/lang/String" "value" "[B" .null) (F2 : Fld Z h0 x "java/lang/String" "coder" "B" (.int (0 : Int32))) (gx : n0 ≤ x) :
    MetFree l (⟨"java/lang/String", "<init>", "([BB)V"⟩ : MethodName) (head1 (Jvm.Cond.code (⟨"java/lang/String", "<init>", "([BB)V"⟩ : MethodName) jdk_42_method_151_code 3 none :: ws) ({ frames := 1, cells := 0, slots := 0, locals := 12 } : Room)) (fun a_ U => a_ = #[(.ref x), (.ref t), (.int (0 : Int32))] ∧ Z.Warmed39 U.vm ∧ U.heap = h0) (fun _ _ _ _ _ => True) (fun _ U o U' => ∃ v L, o = .returned v ∧ Q11 Z x t h0 n0 v U'.heap L ∧ FrameEnd U o U' L ({ frames := 1, cells := 0, slots := 0, locals := 12 } : Room).cells ({ frames := 1, cells := 0, slots := 0, locals := 12 } : Room).slots) := by
  refine MetFree.of_bodySF (plainFor_of_name pn_1) hisR ?_
  intro p e s m args below meth c s₁ Bd hml0 hP hK
  obtain ⟨rfl, hZ, hh⟩ := hP
  have hx := Bd.exec
  have hby := Bd.bytes
  have hml : c.maxLocals = 3 := hml0
  have hown : s.vm.findClass "java/lang/String" = some m.cls := findClass_of_methodNamed Bd.named
  have hnm := (name_of_methodNamed Bd.named Bd.method).1
  have X0 : Stand p l e ({ frames := 1, cells := 0, slots := 0, locals := 12 } : Room) s m #[(.ref x), (.ref t), (.int (0 : Int32))] below meth c s₁ [] 0 0 := Stand.of_body Bd
  have e0 : s₁.heap = h0 := by rw [← hh, Bd.state]; rfl
  have N0 := Fr.nil n0
  have pre0 : ∀ tg, Steps p.tables e below (s₁.setTop (mkF m 0 #[.val (.ref x), .val (.ref t), .val (.int (0 : Int32))] [])) tg → Steps p.tables e below (s₁.setTop (entryFrame m #[(.ref x), (.ref t), (.int (0 : Int32))] 3)) tg := fun tg kq => castTop (ef_RRI_3 m x t (0 : Int32)) kq
  obtain ⟨T101, X101, e101, st101⟩ := initO X0 hx hZ hown (wi hw 15 rfl) (wi hw 16 rfl) (wi hw 17 rfl) e0 (g := (mkF m 1 #[.val (.ref x), .val (.ref t), .val (.int (0 : Int32))] [(.ref x)])) rfl (by rw [hml]; rfl) rfl (hb hby d11_1) (by decide) (W := 0) (by show 2 * 0 + _ ≤ _; exact Nat.le_of_eq rfl) (by decide)
  obtain ⟨T102, h102, X102, e102, W102, st102⟩ := putF X101 hx hZ hown (host := "") (Or.inl (wi hw 32 rfl)) Via.refl e101 F1 E (Or.inr ⟨(wi hw 33 rfl), rfl, hnm⟩) (wi hw 6 rfl) (ty := (.array .byte)) (by decide) rfl rfl (g := (mkF m 6 #[.val (.ref x), .val (.ref t), .val (.int (0 : Int32))] [(.ref t), (.ref x)])) rfl rfl (hb hby d11_6)
  have Fw102 := F1.same W102
  have O102 := O0.wr W102 gx
  have KK102 : Keep h0 h102 [x] := (Keep.refl h0 [x]).wr W102 (Or.inl (List.mem_of_getElem? (i := 0) rfl))
  have N102 := Fr.snoc X102 N0 gx
  have fE_x_1_103 := (E.wr W102)
  have fString_coder_1_104 := (F2.other W102 (Or.inr (slot_ne (Or.inr (wi hw 31 rfl)) (Or.inr (wi hw 33 rfl)) (by decide) (t := .byte) (t' := (.array .byte)) (by decide) (by decide))))
  obtain ⟨T105, h105, X105, e105, W105, st105⟩ := putF X102 hx hZ hown (host := "") (Or.inl (wi hw 30 rfl)) Via.refl e102 fString_coder_1_104 fE_x_1_103 (Or.inr ⟨(wi hw 31 rfl), rfl, hnm⟩) (wi hw 6 rfl) (ty := .byte) (by decide) rfl rfl (g := (mkF m 11 #[.val (.ref x), .val (.ref t), .val (.int (0 : Int32))] [(.int (0 : Int32)), (.ref x)])) rfl rfl (hb hby d11_11)
  have Fw105 := fString_coder_1_104.same W105
  have O105 := O102.wr W105 gx
  have KK105 : Keep h0 h105 [x] := KK102.wr W105 (Or.inl (List.mem_of_getElem? (i := 0) rfl))
  have N105 := Fr.snoc X105 N102 gx
  have fE_x_2_106 := (fE_x_1_103.wr W105)
  have fString_value_2_107 := (Fw102.other W105 (Or.inr (slot_ne (Or.inr (wi hw 33 rfl)) (Or.inr (wi hw 31 rfl)) (by decide) (t := (.array .byte)) (t' := .byte) (by decide) (by decide))))
  obtain ⟨fs, hr, hrun, hended, hW, hsame⟩ := X105.leave (v := none) (fun _ => rfl)
  refine ⟨_, _, pre0 _ ?_, hrun, hended, _, _, rfl, ?_, ⟨_, rfl⟩, hW, hsame.mono (by decide) (by decide)⟩
  · show Steps p.tables e below (s₁.setTop (mkF m 0 #[.val (.ref x), .val (.ref t), .val (.int (0 : Int32))] [])) _
    refine XS.aloadN X0.here hx rfl (hb hby d11_0) rfl rfl ?_
    show Steps p.tables e below (s₁.setTop (mkF m 1 #[.val (.ref x), .val (.ref t), .val (.int (0 : Int32))] [(.ref x)])) _
    refine st101 _ ?_
    show Steps p.tables e below (T101.setTop (mkF m 4 #[.val (.ref x), .val (.ref t), .val (.int (0 : Int32))] [])) _
    refine XS.aloadN X101.here hx rfl (hb hby d11_4) rfl rfl ?_
    show Steps p.tables e below (T101.setTop (mkF m 5 #[.val (.ref x), .val (.ref t), .val (.int (0 : Int32))] [(.ref x)])) _
    refine XS.aloadN X101.here hx rfl (hb hby d11_5) rfl rfl ?_
    show Steps p.tables e below (T101.setTop (mkF m 6 #[.val (.ref x), .val (.ref t), .val (.int (0 : Int32))] [(.ref t), (.ref x)])) _
    refine st102 _ ?_
    show Steps p.tables e below (T102.setTop (mkF m 9 #[.val (.ref x), .val (.ref t), .val (.int (0 : Int32))] [])) _
    refine XS.aloadN X102.here hx rfl (hb hby d11_9) rfl rfl ?_
    show Steps p.tables e below (T102.setTop (mkF m 10 #[.val (.ref x), .val (.ref t), .val (.int (0 : Int32))] [(.ref x)])) _
    refine XS.iloadN X102.here hx rfl (hb hby d11_10) rfl ?_
    show Steps p.tables e below (T102.setTop (mkF m 11 #[.val (.ref x), .val (.ref t), .val (.int (0 : Int32))] [(.int (0 : Int32)), (.ref x)])) _
    refine st105 _ ?_
    show Steps p.tables e below (T105.setTop (mkF m 14 #[.val (.ref x), .val (.ref t), .val (.int (0 : Int32))] [])) _
    exact X105.returnOut hx Bd.returns (hb hby d11_14) hr
  · show Q11 Z x t h0 n0 _ T105.heap _
    rw [e105]
    exact ⟨rfl, N105, KK105, fE_x_2_106, fString_value_2_107, Fw105⟩
def QS (Z : State) (cs : List Int32) (h0 : Heap) (n0 : Nat) (v : Option Value) (h : Heap) (L : List Loc) : Prop := ∃ x : Addr, v = some (.ref x) ∧ Fr n0 L ∧ Keep h0 h [] ∧ h0.size ≤ x ∧ Str Z h x cs
theorem d8_0 : decode jdk_42_method_139_code 0 = .ok (.getstatic 38, 3) := by decide +kernel
theorem d8_3 : decode jdk_42_method_139_code 3 = .ok (.ifCond .eq 23, 3) := by decide +kernel
theorem d8_6 : decode jdk_42_method_139_code 6 = .ok (.iload_n 0, 1) := by decide +kernel
theorem d8_7 : decode jdk_42_method_139_code 7 = .ok (.invokestatic 1015, 3) := by decide +kernel
theorem pd_0 : parseMethodDescriptor "(C)Z" = some ⟨[.char], some .boolean⟩ := by decide +kernel
theorem d8_10 : decode jdk_42_method_139_code 10 = .ok (.ifCond .eq 16, 3) := by decide +kernel
theorem d8_13 : decode jdk_42_method_139_code 13 = .ok (.new 10, 3) := by decide +kernel
theorem d8_16 : decode jdk_42_method_139_code 16 = .ok (.dup, 1) := by decide +kernel
theorem d8_17 : decode jdk_42_method_139_code 17 = .ok (.iload_n 0, 1) := by decide +kernel
theorem d8_18 : decode jdk_42_method_139_code 18 = .ok (.invokestatic 1018, 3) := by decide +kernel
theorem pd_1 : parseMethodDescriptor "(C)[B" = some ⟨[.char], some (.array .byte)⟩ := by decide +kernel
theorem d8_21 : decode jdk_42_method_139_code 21 = .ok (.iconst 0, 1) := by decide +kernel
theorem d8_22 : decode jdk_42_method_139_code 22 = .ok (.invokespecial 209, 3) := by decide +kernel
theorem pd_2 : parseMethodDescriptor "([BB)V" = some ⟨[(.array .byte), .byte], none⟩ := by decide +kernel
theorem d8_25 : decode jdk_42_method_139_code 25 = .ok (.areturn, 1) := by decide +kernel
set_option maxRecDepth 65536 in
set_option maxHeartbeats 40000000 in
theorem rm8 (l : Launch) (Z : State) (a0 : Array Value) (hw : ∀ d ∈ tables_1, d.before a0 Z = true) (ws : List Jvm.Cond) (G1 : Int32) (ch : Int32) (h0 : Heap) (n0 : Nat) (O0 : Old Z n0 h0) (S_CS : Sta Z Z.heap "java/lang/String" "COMPACT_STRINGS" "Z" (.int G1)) (hG1 : ¬ (G1 = (0 : Int32))) (hc : ¬ ch < 0 ∧ ¬ (255 : Int32) < ch) :
    MetFree l (⟨"java/lang/String", "valueOf", "(C)Ljava/lang/String;"⟩ : MethodName) (head1 (Jvm.Cond.code (⟨"java/lang/String", "valueOf", "(C)Ljava/lang/String;"⟩ : MethodName) jdk_42_method_139_code 1 (some (.object "java/lang/String")) :: ws) ({ frames := 2, cells := 2, slots := 5, locals := 27 } : Room)) (fun a_ U => a_ = #[(.int ch)] ∧ Z.Warmed39 U.vm ∧ U.heap = h0) (fun _ _ _ _ _ => True) (fun _ U o U' => ∃ v L, o = .returned v ∧ QS Z [ch] h0 n0 v U'.heap L ∧ FrameEnd U o U' L ({ frames := 2, cells := 2, slots := 5, locals := 27 } : Room).cells ({ frames := 2, cells := 2, slots := 5, locals := 27 } : Room).slots) := by
  refine MetFree.of_bodySF (plainFor_of_name pn_1) hisR ?_
  intro p e s m args below meth c s₁ Bd hml0 hP hK
  obtain ⟨rfl, hZ, hh⟩ := hP
  have hx := Bd.exec
  have hby := Bd.bytes
  have hml : c.maxLocals = 1 := hml0
  have hown : s.vm.findClass "java/lang/String" = some m.cls := findClass_of_methodNamed Bd.named
  have hnm := (name_of_methodNamed Bd.named Bd.method).1
  have X0 : Stand p l e ({ frames := 2, cells := 2, slots := 5, locals := 27 } : Room) s m #[(.int ch)] below meth c s₁ [] 0 0 := Stand.of_body Bd
  have e0 : s₁.heap = h0 := by rw [← hh, Bd.state]; rfl
  have N0 := Fr.nil n0
  have pre0 : ∀ tg, Steps p.tables e below (s₁.setTop (mkF m 0 #[.val (.int ch)] [])) tg → Steps p.tables e below (s₁.setTop (entryFrame m #[(.int ch)] 1)) tg := fun tg kq => castTop (ef_I_1 m ch) kq
  obtain ⟨T101, X101, e101, st101⟩ := getS2 X0 hx hZ hown (host := "") (Or.inl (wi hw 18 rfl)) Via.refl e0 (S_CS.ext O0.2) (g := (mkF m 0 #[.val (.int ch)] [])) rfl (hb hby d8_0)
  obtain ⟨_, _, ⟨T102, L102, k102, n102⟩, -, X102, ⟨Lc102, hQ102, l102, y102, z102⟩, st102⟩ := Jvm.LawKit.callS X101 hx (y := (⟨"java/lang/StringLatin1", "canEncode", "(C)Z"⟩ : MethodName)) hown (mvT hZ (wi hw 37 rfl)) (mvT hZ (wi hw 38 rfl)) (mvT hZ (wi hw 39 rfl)) (mvT hZ (wi hw 40 rfl)) (by decide) (backOf (W := 0) (rm9 l Z a0 hw [] ch h0 n0 O0 hc) hZ (wi hw 40 rfl) (wi hw 39 rfl) (by decide) (by decide)) (g := (mkF m 7 #[.val (.int ch)] [(.int ch)])) rfl (by rw [hml]; rfl) (argsL := [(.int ch)]) (rest := []) (lenOf pd_0 rfl) rfl (by show 2 * 0 + _ ≤ _; exact Nat.le_of_eq rfl) (hb hby d8_7) (fun _ _ => ⟨rfl, e101, (by decide : 0 + 0 ≤ _), (by decide : 0 + 0 ≤ _)⟩)
  dsimp only [Pt.U, Pt.locs, Pt.cells, Pt.slots] at X102 l102 y102 z102 st102 hQ102
  subst l102 y102 z102
  obtain ⟨rfl, N102q, hh102⟩ := hQ102
  have e102 : T102.heap = h0 := hh102
  have N102 := Fr.app N0 N102q
  obtain ⟨T103, h103, X103, e103, E103, A103, D103, -, st103⟩ := newO X102 hx hZ hown (wi hw 41 rfl) (wi hw 6 rfl) (wi hw 7 rfl) e102 (g := (mkF m 13 #[.val (.int ch)] [])) rfl (hb hby d8_13) (by decide) (by decide)
  obtain ⟨b103, g103⟩ : ∃ z, z = h0.size := ⟨_, rfl⟩
  rw [← g103] at A103 D103 st103
  have g_b103 : n0 ≤ b103 := Nat.le_trans (O0.1 ▸ O0.2.1) (Nat.le_of_eq g103.symm)
  have sz_b103 : h0.size ≤ b103 := Nat.le_trans (Nat.le_refl _) (Nat.le_of_eq g103.symm)
  have O103 := O0.ext E103
  have KK103 : Keep h0 h103 [] := (Keep.refl h0 []).ext E103
  have F_coder_b103 : Fld Z h103 b103 "java/lang/String" "coder" "B" (.int (0 : Int32)) := D103 (Or.inr (wi hw 31 rfl)) (ty := .byte) (by decide)
  have F_value_b103 : Fld Z h103 b103 "java/lang/String" "value" "[B" .null := D103 (Or.inr (wi hw 33 rfl)) (ty := (.array .byte)) (by decide)
  obtain ⟨_, _, ⟨T104, L104, k104, n104⟩, -, X104, ⟨Lc104, hQ104, l104, y104, z104⟩, st104⟩ := Jvm.LawKit.callS X103 hx (y := (⟨"java/lang/StringLatin1", "toBytes", "(C)[B"⟩ : MethodName)) hown (mvT hZ (wi hw 42 rfl)) (mvT hZ (wi hw 43 rfl)) (mvT hZ (wi hw 39 rfl)) (mvT hZ (wi hw 44 rfl)) (by decide) (backOf (W := 2) (rm10 l Z a0 hw [] ch h103 n0 O103) hZ (wi hw 44 rfl) (wi hw 39 rfl) (by decide) (by decide)) (g := (mkF m 18 #[.val (.int ch)] [(.int ch), (.ref b103), (.ref b103)])) rfl (by rw [hml]; rfl) (argsL := [(.int ch)]) (rest := [(.ref b103), (.ref b103)]) (lenOf pd_1 rfl) rfl (by show 2 * 0 + _ ≤ _; exact Nat.le_of_eq rfl) (hb hby d8_18) (fun _ _ => ⟨rfl, e103, (by decide : 1 + 1 ≤ _), (by decide : 4 + 1 ≤ _)⟩)
  dsimp only [Pt.U, Pt.locs, Pt.cells, Pt.slots] at X104 l104 y104 z104 st104 hQ104
  subst l104 y104 z104
  obtain ⟨tt104, kb104, rfl, N104q, K104, szt104, At104⟩ := hQ104
  obtain ⟨h104, e104⟩ : ∃ z, T104.heap = z := ⟨_, rfl⟩
  rw [e104] at K104 At104
  have g_tt104 : n0 ≤ tt104 := Nat.le_trans (O103.1 ▸ O103.2.1) szt104
  have sz_tt104 : h0.size ≤ tt104 := Nat.le_trans KK103.1 szt104
  have O104 := O103.keep K104 all0
  have KK104 : Keep h0 h104 [] := KK103.trans K104 all0
  have N104 := Fr.app N102 N104q
  have fE_b103_2_105 := (A103.keep K104)
  have fString_value_2_106 := (F_value_b103.keep K104 nin0)
  have fString_coder_2_107 := (F_coder_b103.keep K104 nin0)
  obtain ⟨_, _, ⟨T108, L108, k108, n108⟩, -, X108, ⟨Lc108, hQ108, l108, y108, z108⟩, st108⟩ := X104.specialBack hx (y := (⟨"java/lang/String", "<init>", "([BB)V"⟩ : MethodName)) rfl hown (mvT hZ (wi hw 45 rfl)) (mvT hZ (wi hw 46 rfl)) (mvT hZ (wi hw 47 rfl)) (by decide) (backOf (W := 1) (rm11 l Z a0 hw [] b103 tt104 h104 n0 O104 fE_b103_2_105 fString_value_2_106 fString_coder_2_107 g_b103) hZ (wi hw 47 rfl) (wi hw 7 rfl) (by decide) (by decide)) (g := (mkF m 22 #[.val (.int ch)] [(.int (0 : Int32)), (.ref tt104), (.ref b103), (.ref b103)])) rfl (by rw [hml]; rfl) (Steps.refl _) (a := b103) (argsL := [(.ref tt104), (.int (0 : Int32))]) (rest := [(.ref b103)]) (lenOf pd_2 rfl) rfl (by show 2 * 0 + _ ≤ _; exact Nat.le_of_eq rfl) (hb hby d8_22) (fun _ _ => ⟨rfl, e104, (by decide : 2 + 0 ≤ _), (by decide : 5 + 0 ≤ _)⟩)
  dsimp only [Pt.U, Pt.locs, Pt.cells, Pt.slots] at X108 l108 y108 z108 st108 hQ108
  subst l108 y108 z108
  obtain ⟨rfl, N108q, K108, sE108, sV108, sC108⟩ := hQ108
  obtain ⟨h108, e108⟩ : ∃ z, T108.heap = z := ⟨_, rfl⟩
  rw [e108] at K108 sE108 sV108 sC108
  have O108 := O104.keep K108 (allS g_b103 all0)
  have KK108 : Keep h0 h108 [] := KK104.trans K108 (allS (Or.inr sz_b103) all0)
  have N108 := Fr.app N104 N108q
  have fV_tt104_3_109 := (At104.keep K108 (ninS (Ne.symm (Nat.ne_of_lt (Nat.lt_of_lt_of_le A103.lt szt104))) nin0))
  obtain ⟨fs, hr, hrun, hended, hW, hsame⟩ := X108.leave (v := some (.ref b103)) (fun h => by rw [Bd.returns] at h; cases h)
  refine ⟨_, _, pre0 _ ?_, hrun, hended, _, _, rfl, ?_, ⟨_, rfl⟩, hW, hsame.mono (by decide) (by decide)⟩
  · show Steps p.tables e below (s₁.setTop (mkF m 0 #[.val (.int ch)] [])) _
    refine st101 _ ?_
    show Steps p.tables e below (T101.setTop (mkF m 3 #[.val (.int ch)] [(.int G1)])) _
    refine XS.ifNo X101.here hx rfl (hb hby d8_3) rfl ((if0 _ _).trans (feq hG1).1) ?_
    show Steps p.tables e below (T101.setTop (mkF m 6 #[.val (.int ch)] [])) _
    refine XS.iloadN X101.here hx rfl (hb hby d8_6) rfl ?_
    show Steps p.tables e below (T101.setTop (mkF m 7 #[.val (.int ch)] [(.int ch)])) _
    refine st102 _ ?_
    show Steps p.tables e below (T102.setTop (mkF m 10 #[.val (.int ch)] [(.int (1 : Int32))])) _
    refine XS.ifNo X102.here hx rfl (hb hby d8_10) rfl ((if0 _ _).trans (feq (by decide : ¬ ((1 : Int32) = (0 : Int32)))).1) ?_
    show Steps p.tables e below (T102.setTop (mkF m 13 #[.val (.int ch)] [])) _
    refine st103 _ ?_
    show Steps p.tables e below (T103.setTop (mkF m 16 #[.val (.int ch)] [(.ref b103)])) _
    refine XS.dup X103.here hx rfl (hb hby d8_16) rfl rfl ?_
    show Steps p.tables e below (T103.setTop (mkF m 17 #[.val (.int ch)] [(.ref b103), (.ref b103)])) _
    refine XS.iloadN X103.here hx rfl (hb hby d8_17) rfl ?_
    show Steps p.tables e below (T103.setTop (mkF m 18 #[.val (.int ch)] [(.int ch), (.ref b103), (.ref b103)])) _
    refine st104 _ ?_
    show Steps p.tables e below (T104.setTop (mkF m 21 #[.val (.int ch)] [(.ref tt104), (.ref b103), (.ref b103)])) _
    refine XS.iconst X104.here hx rfl (hb hby d8_21) ?_
    show Steps p.tables e below (T104.setTop (mkF m 22 #[.val (.int ch)] [(.int (0 : Int32)), (.ref tt104), (.ref b103), (.ref b103)])) _
    refine st108.trans ?_
    show Steps p.tables e below (T108.setTop (mkF m 25 #[.val (.int ch)] [(.ref b103)])) _
    jvm_step X108.here [X108.here.top, hx, (hb hby d8_25), X108.method', Bd.returns, Value.isRef, FieldType.isReference]
    first | (intro acts; rw [hr _ acts rfl rfl rfl]) | rw [hr _ _ rfl rfl rfl]
    exact Steps.refl _
  · show QS Z [ch] h0 n0 _ T108.heap _
    rw [e108]
    exact ⟨_, rfl, N108, KK108, sz_b103, ⟨_, _, _, _, sE108, sV108, sC108, fV_tt104_3_109, Or.inl ⟨rfl, rfl, rfl, fun q hq => by obtain rfl := List.mem_singleton.mp hq; exact hc.2⟩, fun q hq => by obtain rfl := List.mem_singleton.mp hq; exact hc, Nat.le_of_ble_eq_true rfl⟩⟩
theorem d1_0 : decode method_3_code 0 = .ok (.iload_n 0, 1) := by decide +kernel
theorem d1_1 : decode method_3_code 1 = .ok (.iconst 1, 1) := by decide +kernel
theorem d1_2 : decode method_3_code 2 = .ok (.if_icmp .ne 8, 3) := by decide +kernel
theorem d1_5 : decode method_3_code 5 = .ok (.iload_n 1, 1) := by decide +kernel
theorem d1_6 : decode method_3_code 6 = .ok (.invokestatic 22, 3) := by decide +kernel
theorem pd_3 : parseMethodDescriptor "(C)Ljava/lang/String;" = some ⟨[.char], some (.object "java/lang/String")⟩ := by decide +kernel
theorem d1_9 : decode method_3_code 9 = .ok (.areturn, 1) := by decide +kernel
theorem d1_10 : decode method_3_code 10 = .ok (.iconst 2, 1) := by decide +kernel
theorem d1_11 : decode method_3_code 11 = .ok (.newarray .char, 2) := by decide +kernel
theorem d1_13 : decode method_3_code 13 = .ok (.astore_n 3, 1) := by decide +kernel
theorem d1_14 : decode method_3_code 14 = .ok (.aload_n 3, 1) := by decide +kernel
theorem d1_15 : decode method_3_code 15 = .ok (.iconst 0, 1) := by decide +kernel
theorem d1_16 : decode method_3_code 16 = .ok (.iload_n 1, 1) := by decide +kernel
theorem d1_17 : decode method_3_code 17 = .ok (.castore, 1) := by decide +kernel
theorem d1_18 : decode method_3_code 18 = .ok (.aload_n 3, 1) := by decide +kernel
theorem d1_19 : decode method_3_code 19 = .ok (.iconst 1, 1) := by decide +kernel
theorem d1_20 : decode method_3_code 20 = .ok (.iload_n 2, 1) := by decide +kernel
theorem d1_21 : decode method_3_code 21 = .ok (.castore, 1) := by decide +kernel
theorem d1_22 : decode method_3_code 22 = .ok (.new 23, 3) := by decide +kernel
theorem d1_25 : decode method_3_code 25 = .ok (.dup, 1) := by decide +kernel
theorem d1_26 : decode method_3_code 26 = .ok (.aload_n 3, 1) := by decide +kernel
theorem d1_27 : decode method_3_code 27 = .ok (.invokespecial 28, 3) := by decide +kernel
theorem own_w_backV : ∀ d ∈ StrChars.Road.words, d ∈ tables_1 := by decide +kernel
theorem pd_4 : parseMethodDescriptor "([C)V" = some ⟨[(.array .char)], none⟩ := by decide +kernel
theorem d1_30 : decode method_3_code 30 = .ok (.areturn, 1) := by decide +kernel
theorem ef_III_4 (m : MethodId) (x0 : Int32) (x1 : Int32) (x2 : Int32) : entryFrame m #[(.int x0), (.int x1), (.int x2)] 4 = mkF m 0 #[.val (.int x0), .val (.int x1), .val (.int x2), .unset] [] := by first | (simp [entryFrame, mkF, argsToLocals, Value.category]; done) | rfl
theorem pn_2 : plainName "com/example/exact_repository/exactrepository/OrderEqualsPinLaw" = true := by first | (simp [plainName, overriddenIn]; done) | decide +kernel
set_option maxRecDepth 65536 in
set_option maxHeartbeats 40000000 in
theorem rm1_a (l : Launch) (Z : State) (a0 : Array Value) (hw : ∀ d ∈ tables_1, d.before a0 Z = true) (ws : List Jvm.Cond) (G1 : Int32) (ln c0 c1 : Int32) (h0 : Heap) (n0 : Nat) (O0 : Old Z n0 h0) (S_CS : Sta Z Z.heap "java/lang/String" "COMPACT_STRINGS" "Z" (.int G1)) (hG1 : ¬ (G1 = (0 : Int32))) (hc0 : ¬ c0 < 0 ∧ ¬ (255 : Int32) < c0) (hc1 : ¬ c1 < 0 ∧ ¬ (255 : Int32) < c1) (k : ln = 1) :
    MetFree l (⟨"com/example/exact_repository/exactrepository/OrderEqualsPinLaw", "make", "(ICC)Ljava/lang/String;"⟩ : MethodName) (head1 (Jvm.Cond.code (⟨"com/example/exact_repository/exactrepository/OrderEqualsPinLaw", "make", "(ICC)Ljava/lang/String;"⟩ : MethodName) method_3_code 4 (some (.object "java/lang/String")) :: ws) ({ frames := 4, cells := 3, slots := 8, locals := 66 } : Room)) (fun a_ U => a_ = #[(.int ln), (.int c0), (.int c1)] ∧ Z.Warmed39 U.vm ∧ U.heap = h0) (fun _ _ _ _ _ => True) (fun _ U o U' => ∃ v L, o = .returned v ∧ QS Z [c0] h0 n0 v U'.heap L ∧ FrameEnd U o U' L ({ frames := 4, cells := 3, slots := 8, locals := 66 } : Room).cells ({ frames := 4, cells := 3, slots := 8, locals := 66 } : Room).slots) := by
  refine MetFree.of_bodySF (plainFor_of_name pn_2) hisR ?_
  intro p e s m args below meth c s₁ Bd hml0 hP hK
  obtain ⟨rfl, hZ, hh⟩ := hP
  have hx := Bd.exec
  have hby := Bd.bytes
  have hml : c.maxLocals = 4 := hml0
  have hown : s.vm.findClass "com/example/exact_repository/exactrepository/OrderEqualsPinLaw" = some m.cls := findClass_of_methodNamed Bd.named
  have hnm := (name_of_methodNamed Bd.named Bd.method).1
  have X0 : Stand p l e ({ frames := 4, cells := 3, slots := 8, locals := 66 } : Room) s m #[(.int ln), (.int c0), (.int c1)] below meth c s₁ [] 0 0 := Stand.of_body Bd
  have e0 : s₁.heap = h0 := by rw [← hh, Bd.state]; rfl
  have N0 := Fr.nil n0
  have pre0 : ∀ tg, Steps p.tables e below (s₁.setTop (mkF m 0 #[.val (.int ln), .val (.int c0), .val (.int c1), .unset] [])) tg → Steps p.tables e below (s₁.setTop (entryFrame m #[(.int ln), (.int c0), (.int c1)] 4)) tg := fun tg kq => castTop (ef_III_4 m ln c0 c1) kq
  obtain ⟨_, _, ⟨T101, L101, k101, n101⟩, -, X101, ⟨Lc101, hQ101, l101, y101, z101⟩, st101⟩ := Jvm.LawKit.callS X0 hx (y := (⟨"java/lang/String", "valueOf", "(C)Ljava/lang/String;"⟩ : MethodName)) hown (mvT hZ (wi hw 34 rfl)) (mvT hZ (wi hw 35 rfl)) (mvT hZ (wi hw 7 rfl)) (mvT hZ (wi hw 36 rfl)) (by decide) (backOf (W := 0) (rm8 l Z a0 hw [] G1 c0 h0 n0 O0 S_CS hG1 hc0) hZ (wi hw 36 rfl) (wi hw 7 rfl) (by decide) (by decide)) (g := (mkF m 6 #[.val (.int ln), .val (.int c0), .val (.int c1), .unset] [(.int c0)])) rfl (by rw [hml]; rfl) (argsL := [(.int c0)]) (rest := []) (lenOf pd_3 rfl) rfl (by show 2 * 0 + _ ≤ _; exact Nat.le_of_eq rfl) (hb hby d1_6) (fun _ _ => ⟨rfl, e0, (by decide : 0 + 2 ≤ _), (by decide : 0 + 5 ≤ _)⟩)
  dsimp only [Pt.U, Pt.locs, Pt.cells, Pt.slots] at X101 l101 y101 z101 st101 hQ101
  subst l101 y101 z101
  obtain ⟨x101, rfl, N101q, K101, szx101, T101q⟩ := hQ101
  obtain ⟨h101, e101⟩ : ∃ z, T101.heap = z := ⟨_, rfl⟩
  rw [e101] at K101 T101q
  have g_x101 : n0 ≤ x101 := Nat.le_trans (O0.1 ▸ O0.2.1) szx101
  have sz_x101 : h0.size ≤ x101 := Nat.le_trans (Nat.le_refl _) szx101
  have O101 := O0.keep K101 all0
  have KK101 : Keep h0 h101 [] := (Keep.refl h0 []).trans K101 all0
  have N101 := Fr.app N0 N101q
  obtain ⟨fs, hr, hrun, hended, hW, hsame⟩ := X101.leave (v := some (.ref x101)) (fun h => by rw [Bd.returns] at h; cases h)
  refine ⟨_, _, pre0 _ ?_, hrun, hended, _, _, rfl, ?_, ⟨_, rfl⟩, hW, hsame.mono (by decide) (by decide)⟩
  · show Steps p.tables e below (s₁.setTop (mkF m 0 #[.val (.int ln), .val (.int c0), .val (.int c1), .unset] [])) _
    refine XS.iloadN X0.here hx rfl (hb hby d1_0) rfl ?_
    show Steps p.tables e below (s₁.setTop (mkF m 1 #[.val (.int ln), .val (.int c0), .val (.int c1), .unset] [(.int ln)])) _
    refine XS.iconst X0.here hx rfl (hb hby d1_1) ?_
    show Steps p.tables e below (s₁.setTop (mkF m 2 #[.val (.int ln), .val (.int c0), .val (.int c1), .unset] [(.int (1 : Int32)), (.int ln)])) _
    refine XS.icmpNo X0.here hx rfl (hb hby d1_2) rfl (teq k).2 ?_
    show Steps p.tables e below (s₁.setTop (mkF m 5 #[.val (.int ln), .val (.int c0), .val (.int c1), .unset] [])) _
    refine XS.iloadN X0.here hx rfl (hb hby d1_5) rfl ?_
    show Steps p.tables e below (s₁.setTop (mkF m 6 #[.val (.int ln), .val (.int c0), .val (.int c1), .unset] [(.int c0)])) _
    refine st101 _ ?_
    show Steps p.tables e below (T101.setTop (mkF m 9 #[.val (.int ln), .val (.int c0), .val (.int c1), .unset] [(.ref x101)])) _
    jvm_step X101.here [X101.here.top, hx, (hb hby d1_9), X101.method', Bd.returns, Value.isRef, FieldType.isReference]
    first | (intro acts; rw [hr _ acts rfl rfl rfl]) | rw [hr _ _ rfl rfl rfl]
    exact Steps.refl _
  · show QS Z [c0] h0 n0 _ T101.heap _
    rw [e101]
    exact ⟨_, rfl, N101, KK101, sz_x101, T101q⟩
set_option maxRecDepth 65536 in
set_option maxHeartbeats 40000000 in
theorem rm1_b (l : Launch) (Z : State) (a0 : Array Value) (hw : ∀ d ∈ tables_1, d.before a0 Z = true) (ws : List Jvm.Cond) (G1 : Int32) (ln c0 c1 : Int32) (h0 : Heap) (n0 : Nat) (O0 : Old Z n0 h0) (S_CS : Sta Z Z.heap "java/lang/String" "COMPACT_STRINGS" "Z" (.int G1)) (hG1 : ¬ (G1 = (0 : Int32))) (hc0 : ¬ c0 < 0 ∧ ¬ (255 : Int32) < c0) (hc1 : ¬ c1 < 0 ∧ ¬ (255 : Int32) < c1) (k : ¬ (ln = 1)) :
    MetFree l (⟨"com/example/exact_repository/exactrepository/OrderEqualsPinLaw", "make", "(ICC)Ljava/lang/String;"⟩ : MethodName) (head1 (Jvm.Cond.code (⟨"com/example/exact_repository/exactrepository/OrderEqualsPinLaw", "make", "(ICC)Ljava/lang/String;"⟩ : MethodName) method_3_code 4 (some (.object "java/lang/String")) :: ws) ({ frames := 4, cells := 3, slots := 8, locals := 66 } : Room)) (fun a_ U => a_ = #[(.int ln), (.int c0), (.int c1)] ∧ Z.Warmed39 U.vm ∧ U.heap = h0) (fun _ _ _ _ _ => True) (fun _ U o U' => ∃ v L, o = .returned v ∧ QS Z [c0, c1] h0 n0 v U'.heap L ∧ FrameEnd U o U' L ({ frames := 4, cells := 3, slots := 8, locals := 66 } : Room).cells ({ frames := 4, cells := 3, slots := 8, locals := 66 } : Room).slots) := by
  refine MetFree.of_bodySF (plainFor_of_name pn_2) hisR ?_
  intro p e s m args below meth c s₁ Bd hml0 hP hK
  obtain ⟨rfl, hZ, hh⟩ := hP
  have hx := Bd.exec
  have hby := Bd.bytes
  have hml : c.maxLocals = 4 := hml0
  have hown : s.vm.findClass "com/example/exact_repository/exactrepository/OrderEqualsPinLaw" = some m.cls := findClass_of_methodNamed Bd.named
  have hnm := (name_of_methodNamed Bd.named Bd.method).1
  have X0 : Stand p l e ({ frames := 4, cells := 3, slots := 8, locals := 66 } : Room) s m #[(.int ln), (.int c0), (.int c1)] below meth c s₁ [] 0 0 := Stand.of_body Bd
  have e0 : s₁.heap = h0 := by rw [← hh, Bd.state]; rfl
  have N0 := Fr.nil n0
  have pre0 : ∀ tg, Steps p.tables e below (s₁.setTop (mkF m 0 #[.val (.int ln), .val (.int c0), .val (.int c1), .unset] [])) tg → Steps p.tables e below (s₁.setTop (entryFrame m #[(.int ln), (.int c0), (.int c1)] 4)) tg := fun tg kq => castTop (ef_III_4 m ln c0 c1) kq
  obtain ⟨T101, h101, k101, X101, e101, E101, A101, st101⟩ := newP X0 hx hZ (wi hw 4 rfl) e0 (g := (mkF m 11 #[.val (.int ln), .val (.int c0), .val (.int c1), .unset] [(.int (2 : Int32))])) rfl (hb hby d1_11) rfl (by decide) (cap := 2) (by decide) (by decide) (by decide) (by decide)
  obtain ⟨b101, g101⟩ : ∃ z, z = h0.size := ⟨_, rfl⟩
  rw [← g101] at A101 st101
  have g_b101 : n0 ≤ b101 := Nat.le_trans (O0.1 ▸ O0.2.1) (Nat.le_of_eq g101.symm)
  have sz_b101 : h0.size ≤ b101 := Nat.le_trans (Nat.le_refl _) (Nat.le_of_eq g101.symm)
  have O101 := O0.ext E101
  have KK101 : Keep h0 h101 [] := (Keep.refl h0 []).ext E101
  have V_b101 : Arv Z h101 b101 k101 .char (2 : Int32) [(.int (0 : Int32)), (.int (0 : Int32))] (.int (0 : Int32)) := (Arv.new A101 (by decide)).pad (pad_rep [] (.int (0 : Int32)) 2)
  obtain ⟨cl_b101_19, Ar_b101_19, q_b101_19, S_b101_19, N_b101_19, H_b101_19, G_b101_19⟩ := id (V_b101)
  have hinb101_19 : ¬ ((0 : Int32) < 0 ∨ cl_b101_19.slots.size ≤ ((0 : Int32)).toNatClampNeg) := inb_of S_b101_19 ⟨by decide, by decide⟩
  obtain ⟨T102, h102, X102, e102, W102, st102⟩ := stC X101 hx hZ e101 Ar_b101_19 (j := (0 : Int32)) hinb101_19 (g := (mkF m 17 #[.val (.int ln), .val (.int c0), .val (.int c1), .val (.ref b101)] [(.int c0), (.int (0 : Int32)), (.ref b101)])) rfl rfl (hb hby d1_17)
  have V_b101_102 : Arv Z h102 b101 k101 .char (2 : Int32) [(.int (nar .char c0)), (.int (0 : Int32))] (.int (0 : Int32)) := Arv.set Ar_b101_19 q_b101_19 S_b101_19 N_b101_19 H_b101_19 G_b101_19 (fits_nar_char _) W102 0 rfl (Nat.le_of_ble_eq_true rfl)
  have V_b101_102' : Arv Z h102 b101 k101 .char (2 : Int32) [(.int c0), (.int (0 : Int32))] (.int (0 : Int32)) := by have q := V_b101_102; rw [own_nar hc0] at q; exact q
  have O102 := O101.wr W102 g_b101
  have KK102 : Keep h0 h102 [] := KK101.wr W102 (Or.inr sz_b101)
  have N102 := Fr.snoc X102 N0 g_b101
  obtain ⟨cl_b101_27, Ar_b101_27, q_b101_27, S_b101_27, N_b101_27, H_b101_27, G_b101_27⟩ := id (V_b101_102')
  have hinb101_27 : ¬ ((1 : Int32) < 0 ∨ cl_b101_27.slots.size ≤ ((1 : Int32)).toNatClampNeg) := inb_of S_b101_27 ⟨by decide, by decide⟩
  obtain ⟨T103, h103, X103, e103, W103, st103⟩ := stC X102 hx hZ e102 Ar_b101_27 (j := (1 : Int32)) hinb101_27 (g := (mkF m 21 #[.val (.int ln), .val (.int c0), .val (.int c1), .val (.ref b101)] [(.int c1), (.int (1 : Int32)), (.ref b101)])) rfl rfl (hb hby d1_21)
  have V_b101_103 : Arv Z h103 b101 k101 .char (2 : Int32) [(.int c0), (.int (nar .char c1))] (.int (0 : Int32)) := Arv.set Ar_b101_27 q_b101_27 S_b101_27 N_b101_27 H_b101_27 G_b101_27 (fits_nar_char _) W103 1 rfl (Nat.le_of_ble_eq_true rfl)
  have V_b101_103' : Arv Z h103 b101 k101 .char (2 : Int32) [(.int c0), (.int c1)] (.int (0 : Int32)) := by have q := V_b101_103; rw [own_nar hc1] at q; exact q
  have O103 := O102.wr W103 g_b101
  have KK103 : Keep h0 h103 [] := KK102.wr W103 (Or.inr sz_b101)
  have N103 := Fr.snoc X103 N102 g_b101
  obtain ⟨T104, h104, X104, e104, E104, A104, D104, -, st104⟩ := newO X103 hx hZ hown (wi hw 5 rfl) (wi hw 6 rfl) (wi hw 7 rfl) e103 (g := (mkF m 22 #[.val (.int ln), .val (.int c0), .val (.int c1), .val (.ref b101)] [])) rfl (hb hby d1_22) (by decide) (by decide)
  obtain ⟨b104, g104⟩ : ∃ z, z = h103.size := ⟨_, rfl⟩
  rw [← g104] at A104 D104 st104
  have g_b104 : n0 ≤ b104 := Nat.le_trans (O103.1 ▸ O103.2.1) (Nat.le_of_eq g104.symm)
  have sz_b104 : h0.size ≤ b104 := Nat.le_trans KK103.1 (Nat.le_of_eq g104.symm)
  have O104 := O103.ext E104
  have KK104 : Keep h0 h104 [] := KK103.ext E104
  have F_coder_b104 : Fld Z h104 b104 "java/lang/String" "coder" "B" (.int (0 : Int32)) := D104 (Or.inr (wi hw 31 rfl)) (ty := .byte) (by decide)
  have F_value_b104 : Fld Z h104 b104 "java/lang/String" "value" "[B" .null := D104 (Or.inr (wi hw 33 rfl)) (ty := (.array .byte)) (by decide)
  have fV_b101_4_105 := (V_b101_103'.ext E104)
  have shp106 : ∀ c ∈ ([c0, c1] : List Int32), ¬ c < 0 ∧ ¬ (255 : Int32) < c := (own_memS hc0 (own_memS hc1 own_mem0))
  have sA106 : Arv Z h104 b101 k101 .char (2 : Int32) (([c0, c1] : List Int32).map Value.int) (.int (0 : Int32)) := fV_b101_4_105
  obtain ⟨_, _, ⟨T107, L107, k107, n107⟩, -, X107, ⟨Lc107, hQ107, l107, y107, z107⟩, st107⟩ := X104.specialBack hx (y := (⟨"java/lang/String", "<init>", "([C)V"⟩ : MethodName)) rfl hown (mvT hZ (wi hw 8 rfl)) (mvT hZ (wi hw 9 rfl)) (mvT hZ (wi hw 10 rfl)) (by decide) (StrChars.Road.backV (W := 1) hZ (fun d hd => hw d (own_w_backV d hd)) (kI := 4) (wi hw 6 rfl) (cs := ([c0, c1] : List Int32)) (bs := ([c0, c1] : List Int32).map (fun c => c.toInt8.toInt32)) (n := 2) g_b104 (O104.1 ▸ O104.2.1) A104 F_value_b104 F_coder_b104 sA106 (S_CS.ext O104.2) hG1 rfl rfl (by decide) (by decide) shp106 rfl (by decide) (by decide)) (g := (mkF m 27 #[.val (.int ln), .val (.int c0), .val (.int c1), .val (.ref b101)] [(.ref b101), (.ref b104), (.ref b104)])) rfl (by rw [hml]; rfl) (Steps.refl _) (a := b104) (argsL := [(.ref b101)]) (rest := [(.ref b104)]) (lenOf pd_4 rfl) rfl (by show 2 * 0 + _ ≤ _; exact Nat.le_of_eq rfl) (hb hby d1_27) (fun _ _ => ⟨rfl, e104, (by decide : 2 + 1 ≤ _), (by decide : 6 + 2 ≤ _)⟩)
  dsimp only [Pt.U, Pt.locs, Pt.cells, Pt.slots] at X107 l107 y107 z107 st107 hQ107
  subst l107 y107 z107
  obtain ⟨rfl, N107q, K107, sE106, sC106, t106, kb106, sg106, ssz106, sne106, sV106, sK106⟩ := hQ107
  obtain ⟨h107, e107⟩ : ∃ z, T107.heap = z := ⟨_, rfl⟩
  rw [e107] at K107 sE106 sC106 sV106 sK106
  have g_t106 : n0 ≤ t106 := Nat.le_trans (O104.1 ▸ O104.2.1) ssz106
  have sz_t106 : h0.size ≤ t106 := Nat.le_trans KK104.1 ssz106
  have O107 := O104.keep K107 (allS g_b104 all0)
  have KK107 : Keep h0 h107 [] := KK104.trans K107 (allS (Or.inr sz_b104) all0)
  have N107 := Fr.app N103 N107q
  have scd106 : StrChars.Road.CodA ([c0, c1] : List Int32) 0 (2 : Int32) ((([c0, c1] : List Int32).map (fun c => c.toInt8.toInt32)).map Value.int) := StrChars.Road.codOf (n := 2) rfl (fun c hc => (shp106 c hc).2)
  obtain ⟨fs, hr, hrun, hended, hW, hsame⟩ := X107.leave (v := some (.ref b104)) (fun h => by rw [Bd.returns] at h; cases h)
  refine ⟨_, _, pre0 _ ?_, hrun, hended, _, _, rfl, ?_, ⟨_, rfl⟩, hW, hsame.mono (by decide) (by decide)⟩
  · show Steps p.tables e below (s₁.setTop (mkF m 0 #[.val (.int ln), .val (.int c0), .val (.int c1), .unset] [])) _
    refine XS.iloadN X0.here hx rfl (hb hby d1_0) rfl ?_
    show Steps p.tables e below (s₁.setTop (mkF m 1 #[.val (.int ln), .val (.int c0), .val (.int c1), .unset] [(.int ln)])) _
    refine XS.iconst X0.here hx rfl (hb hby d1_1) ?_
    show Steps p.tables e below (s₁.setTop (mkF m 2 #[.val (.int ln), .val (.int c0), .val (.int c1), .unset] [(.int (1 : Int32)), (.int ln)])) _
    refine XS.icmpYes X0.here hx rfl (pc0 := 2) (pc' := 10) rfl (hb hby d1_2) rfl (feq k).2 (by decide) (by decide) ?_
    show Steps p.tables e below (s₁.setTop (mkF m 10 #[.val (.int ln), .val (.int c0), .val (.int c1), .unset] [])) _
    refine XS.iconst X0.here hx rfl (hb hby d1_10) ?_
    show Steps p.tables e below (s₁.setTop (mkF m 11 #[.val (.int ln), .val (.int c0), .val (.int c1), .unset] [(.int (2 : Int32))])) _
    refine st101 _ ?_
    show Steps p.tables e below (T101.setTop (mkF m 13 #[.val (.int ln), .val (.int c0), .val (.int c1), .unset] [(.ref b101)])) _
    refine XS.astoreN X101.here hx rfl (hb hby d1_13) rfl rfl (l' := #[.val (.int ln), .val (.int c0), .val (.int c1), .val (.ref b101)]) rfl ?_
    show Steps p.tables e below (T101.setTop (mkF m 14 #[.val (.int ln), .val (.int c0), .val (.int c1), .val (.ref b101)] [])) _
    refine XS.aloadN X101.here hx rfl (hb hby d1_14) rfl rfl ?_
    show Steps p.tables e below (T101.setTop (mkF m 15 #[.val (.int ln), .val (.int c0), .val (.int c1), .val (.ref b101)] [(.ref b101)])) _
    refine XS.iconst X101.here hx rfl (hb hby d1_15) ?_
    show Steps p.tables e below (T101.setTop (mkF m 16 #[.val (.int ln), .val (.int c0), .val (.int c1), .val (.ref b101)] [(.int (0 : Int32)), (.ref b101)])) _
    refine XS.iloadN X101.here hx rfl (hb hby d1_16) rfl ?_
    show Steps p.tables e below (T101.setTop (mkF m 17 #[.val (.int ln), .val (.int c0), .val (.int c1), .val (.ref b101)] [(.int c0), (.int (0 : Int32)), (.ref b101)])) _
    refine st102 _ ?_
    show Steps p.tables e below (T102.setTop (mkF m 18 #[.val (.int ln), .val (.int c0), .val (.int c1), .val (.ref b101)] [])) _
    refine XS.aloadN X102.here hx rfl (hb hby d1_18) rfl rfl ?_
    show Steps p.tables e below (T102.setTop (mkF m 19 #[.val (.int ln), .val (.int c0), .val (.int c1), .val (.ref b101)] [(.ref b101)])) _
    refine XS.iconst X102.here hx rfl (hb hby d1_19) ?_
    show Steps p.tables e below (T102.setTop (mkF m 20 #[.val (.int ln), .val (.int c0), .val (.int c1), .val (.ref b101)] [(.int (1 : Int32)), (.ref b101)])) _
    refine XS.iloadN X102.here hx rfl (hb hby d1_20) rfl ?_
    show Steps p.tables e below (T102.setTop (mkF m 21 #[.val (.int ln), .val (.int c0), .val (.int c1), .val (.ref b101)] [(.int c1), (.int (1 : Int32)), (.ref b101)])) _
    refine st103 _ ?_
    show Steps p.tables e below (T103.setTop (mkF m 22 #[.val (.int ln), .val (.int c0), .val (.int c1), .val (.ref b101)] [])) _
    refine st104 _ ?_
    show Steps p.tables e below (T104.setTop (mkF m 25 #[.val (.int ln), .val (.int c0), .val (.int c1), .val (.ref b101)] [(.ref b104)])) _
    refine XS.dup X104.here hx rfl (hb hby d1_25) rfl rfl ?_
    show Steps p.tables e below (T104.setTop (mkF m 26 #[.val (.int ln), .val (.int c0), .val (.int c1), .val (.ref b101)] [(.ref b104), (.ref b104)])) _
    refine XS.aloadN X104.here hx rfl (hb hby d1_26) rfl rfl ?_
    show Steps p.tables e below (T104.setTop (mkF m 27 #[.val (.int ln), .val (.int c0), .val (.int c1), .val (.ref b101)] [(.ref b101), (.ref b104), (.ref b104)])) _
    refine st107.trans ?_
    show Steps p.tables e below (T107.setTop (mkF m 30 #[.val (.int ln), .val (.int c0), .val (.int c1), .val (.ref b101)] [(.ref b104)])) _
    jvm_step X107.here [X107.here.top, hx, (hb hby d1_30), X107.method', Bd.returns, Value.isRef, FieldType.isReference]
    first | (intro acts; rw [hr _ acts rfl rfl rfl]) | rw [hr _ _ rfl rfl rfl]
    exact Steps.refl _
  · show QS Z [c0, c1] h0 n0 _ T107.heap _
    rw [e107]
    exact ⟨_, rfl, N107, KK107, sz_b104, ⟨_, _, _, _, sE106, sV106, sC106, sK106, scd106, shp106, (Nat.le_of_ble_eq_true rfl)⟩⟩
theorem rm1 (l : Launch) (Z : State) (a0 : Array Value) (hw : ∀ d ∈ tables_1, d.before a0 Z = true) (ws : List Jvm.Cond) (G1 : Int32) (ln c0 c1 : Int32) (cs : List Int32) (h0 : Heap) (n0 : Nat) (O0 : Old Z n0 h0) (S_CS : Sta Z Z.heap "java/lang/String" "COMPACT_STRINGS" "Z" (.int G1)) (hG1 : ¬ (G1 = (0 : Int32))) (hc0 : ¬ c0 < 0 ∧ ¬ (255 : Int32) < c0) (hc1 : ¬ c1 < 0 ∧ ¬ (255 : Int32) < c1) (hcs : cs = mk ln c0 c1) :
    MetFree l (⟨"com/example/exact_repository/exactrepository/OrderEqualsPinLaw", "make", "(ICC)Ljava/lang/String;"⟩ : MethodName) (head1 (Jvm.Cond.code (⟨"com/example/exact_repository/exactrepository/OrderEqualsPinLaw", "make", "(ICC)Ljava/lang/String;"⟩ : MethodName) method_3_code 4 (some (.object "java/lang/String")) :: ws) ({ frames := 4, cells := 3, slots := 8, locals := 66 } : Room)) (fun a_ U => a_ = #[(.int ln), (.int c0), (.int c1)] ∧ Z.Warmed39 U.vm ∧ U.heap = h0) (fun _ _ _ _ _ => True) (fun _ U o U' => ∃ v L, o = .returned v ∧ QS Z cs h0 n0 v U'.heap L ∧ FrameEnd U o U' L ({ frames := 4, cells := 3, slots := 8, locals := 66 } : Room).cells ({ frames := 4, cells := 3, slots := 8, locals := 66 } : Room).slots) := by
  subst hcs
  unfold mk
  by_cases k : ln = 1
  · rw [if_pos k]; exact rm1_a l Z a0 hw ws G1 ln c0 c1 h0 n0 O0 S_CS hG1 hc0 hc1 k
  · rw [if_neg k]; exact rm1_b l Z a0 hw ws G1 ln c0 c1 h0 n0 O0 S_CS hG1 hc0 hc1 k
def Ord (Z : State) (h : Heap) (a : Addr) (s asc : Value) : Prop := Exa Z h a "com/example/exact_repository/exactrepository/Sort$Order" ∧ Fld Z h a "com/example/exact_repository/exactrepository/Sort$Order" "property" "Ljava/lang/String;" s ∧ Fld Z h a "com/example/exact_repository/exactrepository/Sort$Order" "ascending" "Z" asc
def Q12 (Z : State) (a : Addr) (s asc : Value) (h0 : Heap) (n0 : Nat) (v : Option Value) (h : Heap) (L : List Loc) : Prop := v = none ∧ Fr n0 L ∧ Keep h0 h [a] ∧ Ord Z h a s asc
theorem d12_0 : decode prog_32_method_1_code 0 = .ok (.aload_n 0, 1) := by decide +kernel
theorem d12_1 : decode prog_32_method_1_code 1 = .ok (.invokespecial 1, 3) := by decide +kernel
theorem d12_4 : decode prog_32_method_1_code 4 = .ok (.aload_n 1, 1) := by decide +kernel
theorem d12_5 : decode prog_32_method_1_code 5 = .ok (.ifnull 10, 3) := by decide +kernel
theorem d12_8 : decode prog_32_method_1_code 8 = .ok (.aload_n 1, 1) := by decide +kernel
theorem d12_9 : decode prog_32_method_1_code 9 = .ok (.invokevirtual 7, 3) := by decide +kernel
theorem own_w_empW : ∀ d ∈ StrChars.Road.wordsEmp, d ∈ tables_1 := by decide +kernel
theorem pd_5 : parseMethodDescriptor "()Z" = some ⟨[], some .boolean⟩ := by decide +kernel
theorem d12_12 : decode prog_32_method_1_code 12 = .ok (.ifCond .eq 17, 3) := by decide +kernel
theorem d12_29 : decode prog_32_method_1_code 29 = .ok (.aload_n 0, 1) := by decide +kernel
theorem d12_30 : decode prog_32_method_1_code 30 = .ok (.aload_n 1, 1) := by decide +kernel
theorem d12_31 : decode prog_32_method_1_code 31 = .ok (.putfield 22, 3) := by decide +kernel
theorem d12_34 : decode prog_32_method_1_code 34 = .ok (.aload_n 0, 1) := by decide +kernel
theorem d12_35 : decode prog_32_method_1_code 35 = .ok (.iload_n 2, 1) := by decide +kernel
theorem d12_36 : decode prog_32_method_1_code 36 = .ok (.putfield 28, 3) := by decide +kernel
theorem d12_39 : decode prog_32_method_1_code 39 = .ok (.return_, 1) := by decide +kernel
theorem pn_3 : plainName "com/example/exact_repository/exactrepository/Sort$Order" = true := by first | (simp [plainName, overriddenIn]; done) | decide +kernel
set_option maxRecDepth 65536 in
set_option maxHeartbeats 40000000 in
theorem rm12 (l : Launch) (Z : State) (a0 : Array Value) (hw : ∀ d ∈ tables_1, d.before a0 Z = true) (ws : List Jvm.Cond) (a sx : Addr) (asc : Int32) (cs : List Int32) (h0 : Heap) (n0 : Nat) (O0 : Old Z n0 h0) (B : Ord Z h0 a .null (.int (0 : Int32))) (T : Str Z h0 sx cs) (hne : ¬ cs.length = 0) (hasc : (asc &&& 1) = asc) (ga : n0 ≤ a) :
    MetFree l (⟨"com/example/exact_repository/exactrepository/Sort$Order", "<init>", "(Ljava/lang/String;Z)V"⟩ : MethodName) (head1 (Jvm.Cond.code (⟨"com/example/exact_repository/exactrepository/Sort$Order", "<init>", "(Ljava/lang/String;Z)V"⟩ : MethodName) prog_32_method_1_code 3 none :: ws) ({ frames := 1, cells := 0, slots := 0, locals := 12 } : Room)) (fun a_ U => a_ = #[(.ref a), (.ref sx), (.int asc)] ∧ Z.Warmed39 U.vm ∧ U.heap = h0) (fun _ _ _ _ _ => True) (fun _ U o U' => ∃ v L, o = .returned v ∧ Q12 Z a (.ref sx) (.int asc) h0 n0 v U'.heap L ∧ FrameEnd U o U' L ({ frames := 1, cells := 0, slots := 0, locals := 12 } : Room).cells ({ frames := 1, cells := 0, slots := 0, locals := 12 } : Room).slots) := by
  refine MetFree.of_bodySF (plainFor_of_name pn_3) hisR ?_
  intro p e s m args below meth c s₁ Bd hml0 hP hK
  obtain ⟨rfl, hZ, hh⟩ := hP
  have hx := Bd.exec
  have hby := Bd.bytes
  have hml : c.maxLocals = 3 := hml0
  have hown : s.vm.findClass "com/example/exact_repository/exactrepository/Sort$Order" = some m.cls := findClass_of_methodNamed Bd.named
  have hnm := (name_of_methodNamed Bd.named Bd.method).1
  have X0 : Stand p l e ({ frames := 1, cells := 0, slots := 0, locals := 12 } : Room) s m #[(.ref a), (.ref sx), (.int asc)] below meth c s₁ [] 0 0 := Stand.of_body Bd
  have e0 : s₁.heap = h0 := by rw [← hh, Bd.state]; rfl
  have N0 := Fr.nil n0
  have pre0 : ∀ tg, Steps p.tables e below (s₁.setTop (mkF m 0 #[.val (.ref a), .val (.ref sx), .val (.int asc)] [])) tg → Steps p.tables e below (s₁.setTop (entryFrame m #[(.ref a), (.ref sx), (.int asc)] 3)) tg := fun tg kq => castTop (ef_RRI_3 m a sx asc) kq
  obtain ⟨oE, oP, oA⟩ := B
  obtain ⟨ts, kbs, Ns, vss, sEs, sVs, sCs, sKs, scds, shps, shls⟩ := id T
  obtain ⟨T101, X101, e101, st101⟩ := initO X0 hx hZ hown (wi hw 54 rfl) (wi hw 16 rfl) (wi hw 17 rfl) e0 (g := (mkF m 1 #[.val (.ref a), .val (.ref sx), .val (.int asc)] [(.ref a)])) rfl (by rw [hml]; rfl) rfl (hb hby d12_1) (by decide) (W := 0) (by show 2 * 0 + _ ≤ _; exact Nat.le_of_eq rfl) (by decide)
  obtain ⟨cq102, kq102, q102a, q102b, q102c⟩ := isOf hZ e101 sEs
  obtain ⟨_, _, ⟨T102, L102, k102, n102⟩, -, X102, ⟨Lc102, hQ102, l102, y102, z102⟩, st102⟩ := X101.virtualBack hx (y := (⟨"java/lang/String", "isEmpty", "()Z"⟩ : MethodName)) (z := (⟨"java/lang/String", "isEmpty", "()Z"⟩ : MethodName)) hown (mvT hZ (wi hw 55 rfl)) (mvT hZ (wi hw 56 rfl)) (notFace_of_selects (args := #[]) (mvT hZ (wi hw 58 rfl))) (mvT hZ (wi hw 58 rfl)) (mvT hZ (wi hw 57 rfl)) (by decide) (StrChars.Road.empW (W := 0) hZ (fun d hd => hw d (own_w_empW d hd)) (kI := 4) (wi hw 6 rfl) sEs sVs sCs sKs scds (own_up _ shps) shls (by decide) (by decide)) q102a q102c (g := (mkF m 9 #[.val (.ref a), .val (.ref sx), .val (.int asc)] [(.ref sx)])) rfl (by rw [hml]; rfl) (Steps.refl _) (argsL := []) (rest := []) (lenOf pd_5 rfl) rfl (by show 2 * 0 + _ ≤ _; exact Nat.le_of_eq rfl) (hb hby d12_9) (fun _ _ => ⟨rfl, e101, (by decide : 0 + 0 ≤ _), (by decide : 0 + 0 ≤ _)⟩)
  dsimp only [Pt.U, Pt.locs, Pt.cells, Pt.slots] at X102 l102 y102 z102 st102 hQ102
  subst l102 y102 z102
  obtain ⟨hv102, rfl, hh102⟩ := hQ102
  rw [if_neg hne] at hv102
  obtain rfl := hv102
  have N102q : Fr n0 ([] : List Loc) := Fr.nil n0
  have e102 : T102.heap = h0 := hh102
  have N102 := Fr.app N0 N102q
  obtain ⟨T103, h103, X103, e103, W103, st103⟩ := putF X102 hx hZ hown (host := "") (Or.inl (wi hw 60 rfl)) Via.refl e102 oP oE (Or.inr ⟨(wi hw 61 rfl), rfl, hnm⟩) (wi hw 49 rfl) (ty := (.object "java/lang/String")) (by decide) rfl rfl (g := (mkF m 31 #[.val (.ref a), .val (.ref sx), .val (.int asc)] [(.ref sx), (.ref a)])) rfl rfl (hb hby d12_31)
  have Fw103 := oP.same W103
  have O103 := O0.wr W103 ga
  have KK103 : Keep h0 h103 [a] := (Keep.refl h0 [a]).wr W103 (Or.inl (List.mem_of_getElem? (i := 0) rfl))
  have N103 := Fr.snoc X103 N102 ga
  have fE_a_1_104 := (oE.wr W103)
  have fSort_Order_ascending_1_105 := (oA.other W103 (Or.inr (slot_ne (Or.inr (wi hw 63 rfl)) (Or.inr (wi hw 61 rfl)) (by decide) (t := .boolean) (t' := (.object "java/lang/String")) (by decide) (by decide))))
  obtain ⟨T106, h106, X106, e106, W106, st106⟩ := putFN X103 hx hZ hown (wi hw 62 rfl) Via.refl e103 fSort_Order_ascending_1_105 fE_a_1_104 (Or.inr ⟨(wi hw 63 rfl), rfl, hnm⟩) (wi hw 49 rfl) (ty := .boolean) (v' := .int (asc &&& 1)) (by decide) rfl (fits_nar_bool _) (g := (mkF m 36 #[.val (.ref a), .val (.ref sx), .val (.int asc)] [(.int asc), (.ref a)])) rfl rfl (hb hby d12_36)
  have Fw106 := fSort_Order_ascending_1_105.same W106
  have O106 := O103.wr W106 ga
  have KK106 : Keep h0 h106 [a] := KK103.wr W106 (Or.inl (List.mem_of_getElem? (i := 0) rfl))
  have N106 := Fr.snoc X106 N103 ga
  have fE_a_2_107 := (fE_a_1_104.wr W106)
  have fSort_Order_property_2_108 := (Fw103.other W106 (Or.inr (slot_ne (Or.inr (wi hw 61 rfl)) (Or.inr (wi hw 63 rfl)) (by decide) (t := (.object "java/lang/String")) (t' := .boolean) (by decide) (by decide))))
  obtain ⟨fs, hr, hrun, hended, hW, hsame⟩ := X106.leave (v := none) (fun _ => rfl)
  refine ⟨_, _, pre0 _ ?_, hrun, hended, _, _, rfl, ?_, ⟨_, rfl⟩, hW, hsame.mono (by decide) (by decide)⟩
  · show Steps p.tables e below (s₁.setTop (mkF m 0 #[.val (.ref a), .val (.ref sx), .val (.int asc)] [])) _
    refine XS.aloadN X0.here hx rfl (hb hby d12_0) rfl rfl ?_
    show Steps p.tables e below (s₁.setTop (mkF m 1 #[.val (.ref a), .val (.ref sx), .val (.int asc)] [(.ref a)])) _
    refine st101 _ ?_
    show Steps p.tables e below (T101.setTop (mkF m 4 #[.val (.ref a), .val (.ref sx), .val (.int asc)] [])) _
    refine XS.aloadN X101.here hx rfl (hb hby d12_4) rfl rfl ?_
    show Steps p.tables e below (T101.setTop (mkF m 5 #[.val (.ref a), .val (.ref sx), .val (.int asc)] [(.ref sx)])) _
    refine XS.ifnullNo X101.here hx rfl (hb hby d12_5) rfl ?_
    show Steps p.tables e below (T101.setTop (mkF m 8 #[.val (.ref a), .val (.ref sx), .val (.int asc)] [])) _
    refine XS.aloadN X101.here hx rfl (hb hby d12_8) rfl rfl ?_
    show Steps p.tables e below (T101.setTop (mkF m 9 #[.val (.ref a), .val (.ref sx), .val (.int asc)] [(.ref sx)])) _
    refine st102.trans ?_
    show Steps p.tables e below (T102.setTop (mkF m 12 #[.val (.ref a), .val (.ref sx), .val (.int asc)] [(.int (0 : Int32))])) _
    refine XS.ifYes X102.here hx rfl (pc0 := 12) (pc' := 29) rfl (hb hby d12_12) rfl ((if0 _ _).trans (teq (by decide : (0 : Int32) = (0 : Int32))).1) (by decide) (by decide) ?_
    show Steps p.tables e below (T102.setTop (mkF m 29 #[.val (.ref a), .val (.ref sx), .val (.int asc)] [])) _
    refine XS.aloadN X102.here hx rfl (hb hby d12_29) rfl rfl ?_
    show Steps p.tables e below (T102.setTop (mkF m 30 #[.val (.ref a), .val (.ref sx), .val (.int asc)] [(.ref a)])) _
    refine XS.aloadN X102.here hx rfl (hb hby d12_30) rfl rfl ?_
    show Steps p.tables e below (T102.setTop (mkF m 31 #[.val (.ref a), .val (.ref sx), .val (.int asc)] [(.ref sx), (.ref a)])) _
    refine st103 _ ?_
    show Steps p.tables e below (T103.setTop (mkF m 34 #[.val (.ref a), .val (.ref sx), .val (.int asc)] [])) _
    refine XS.aloadN X103.here hx rfl (hb hby d12_34) rfl rfl ?_
    show Steps p.tables e below (T103.setTop (mkF m 35 #[.val (.ref a), .val (.ref sx), .val (.int asc)] [(.ref a)])) _
    refine XS.iloadN X103.here hx rfl (hb hby d12_35) rfl ?_
    show Steps p.tables e below (T103.setTop (mkF m 36 #[.val (.ref a), .val (.ref sx), .val (.int asc)] [(.int asc), (.ref a)])) _
    refine st106 _ ?_
    show Steps p.tables e below (T106.setTop (mkF m 39 #[.val (.ref a), .val (.ref sx), .val (.int asc)] [])) _
    exact X106.returnOut hx Bd.returns (hb hby d12_39) hr
  · show Q12 Z a (.ref sx) (.int asc) h0 n0 _ T106.heap _
    rw [e106]
    exact ⟨rfl, N106, KK106, ⟨fE_a_2_107, fSort_Order_property_2_108, hasc ▸ Fw106⟩⟩
theorem d14_0 : decode prog_32_method_4_code 0 = .ok (.aload_n 1, 1) := by decide +kernel
theorem d14_1 : decode prog_32_method_4_code 1 = .ok (.instanceof 23, 3) := by decide +kernel
theorem d14_4 : decode prog_32_method_4_code 4 = .ok (.ifCond .eq 37, 3) := by decide +kernel
theorem d14_7 : decode prog_32_method_4_code 7 = .ok (.aload_n 1, 1) := by decide +kernel
theorem d14_8 : decode prog_32_method_4_code 8 = .ok (.checkcast 23, 3) := by decide +kernel
theorem d14_11 : decode prog_32_method_4_code 11 = .ok (.astore_n 2, 1) := by decide +kernel
theorem d14_12 : decode prog_32_method_4_code 12 = .ok (.aload_n 0, 1) := by decide +kernel
theorem d14_13 : decode prog_32_method_4_code 13 = .ok (.getfield 22, 3) := by decide +kernel
theorem d14_16 : decode prog_32_method_4_code 16 = .ok (.aload_n 2, 1) := by decide +kernel
theorem d14_17 : decode prog_32_method_4_code 17 = .ok (.getfield 22, 3) := by decide +kernel
theorem d14_20 : decode prog_32_method_4_code 20 = .ok (.invokevirtual 32, 3) := by decide +kernel
theorem own_w_eqW : ∀ d ∈ StrChars.Road.wordsEq, d ∈ tables_1 := by decide +kernel
theorem pd_6 : parseMethodDescriptor "(Ljava/lang/Object;)Z" = some ⟨[(.object "java/lang/Object")], some .boolean⟩ := by decide +kernel
theorem d14_23 : decode prog_32_method_4_code 23 = .ok (.ifCond .eq 18, 3) := by decide +kernel
theorem d14_26 : decode prog_32_method_4_code 26 = .ok (.aload_n 0, 1) := by decide +kernel
theorem d14_27 : decode prog_32_method_4_code 27 = .ok (.getfield 28, 3) := by decide +kernel
theorem d14_30 : decode prog_32_method_4_code 30 = .ok (.aload_n 2, 1) := by decide +kernel
theorem d14_31 : decode prog_32_method_4_code 31 = .ok (.getfield 28, 3) := by decide +kernel
theorem d14_34 : decode prog_32_method_4_code 34 = .ok (.if_icmp .ne 7, 3) := by decide +kernel
theorem d14_37 : decode prog_32_method_4_code 37 = .ok (.iconst 1, 1) := by decide +kernel
theorem d14_38 : decode prog_32_method_4_code 38 = .ok (.goto 4, 3) := by decide +kernel
theorem d14_42 : decode prog_32_method_4_code 42 = .ok (.ireturn, 1) := by decide +kernel
theorem ef_RR_3 (m : MethodId) (x0 : Addr) (x1 : Addr) : entryFrame m #[(.ref x0), (.ref x1)] 3 = mkF m 0 #[.val (.ref x0), .val (.ref x1), .unset] [] := by first | (simp [entryFrame, mkF, argsToLocals, Value.category]; done) | rfl
set_option maxRecDepth 65536 in
set_option maxHeartbeats 40000000 in
theorem rm14_a (l : Launch) (Z : State) (a0 : Array Value) (hw : ∀ d ∈ tables_1, d.before a0 Z = true) (ws : List Jvm.Cond) (G1 : Int32) (a1 a2 s1 s2 : Addr) (u1 u2 : Int32) (cs1 cs2 : List Int32) (h0 : Heap) (n0 : Nat) (O0 : Old Z n0 h0) (S_CS : Sta Z Z.heap "java/lang/String" "COMPACT_STRINGS" "Z" (.int G1)) (hG1 : ¬ (G1 = (0 : Int32))) (B1 : Ord Z h0 a1 (.ref s1) (.int u1)) (B2 : Ord Z h0 a2 (.ref s2) (.int u2)) (T1 : Str Z h0 s1 cs1) (T2 : Str Z h0 s2 cs2) (hq : cs1 = cs2) (hu : u1 = u2) :
    MetFree l (⟨"com/example/exact_repository/exactrepository/Sort$Order", "equals", "(Ljava/lang/Object;)Z"⟩ : MethodName) (head1 (Jvm.Cond.code (⟨"com/example/exact_repository/exactrepository/Sort$Order", "equals", "(Ljava/lang/Object;)Z"⟩ : MethodName) prog_32_method_4_code 3 (some .boolean) :: ws) ({ frames := 2, cells := 0, slots := 0, locals := 28 } : Room)) (fun a_ U => a_ = #[(.ref a1), (.ref a2)] ∧ Z.Warmed39 U.vm ∧ U.heap = h0) (fun _ _ _ _ _ => True) (fun _ U o U' => ∃ v L, o = .returned v ∧ QP (.int (1 : Int32)) h0 n0 v U'.heap L ∧ FrameEnd U o U' L ({ frames := 2, cells := 0, slots := 0, locals := 28 } : Room).cells ({ frames := 2, cells := 0, slots := 0, locals := 28 } : Room).slots) := by
  refine MetFree.of_bodySF (plainFor_of_name pn_3) hisR ?_
  intro p e s m args below meth c s₁ Bd hml0 hP hK
  obtain ⟨rfl, hZ, hh⟩ := hP
  have hx := Bd.exec
  have hby := Bd.bytes
  have hml : c.maxLocals = 3 := hml0
  have hown : s.vm.findClass "com/example/exact_repository/exactrepository/Sort$Order" = some m.cls := findClass_of_methodNamed Bd.named
  have hnm := (name_of_methodNamed Bd.named Bd.method).1
  have X0 : Stand p l e ({ frames := 2, cells := 0, slots := 0, locals := 28 } : Room) s m #[(.ref a1), (.ref a2)] below meth c s₁ [] 0 0 := Stand.of_body Bd
  have e0 : s₁.heap = h0 := by rw [← hh, Bd.state]; rfl
  have N0 := Fr.nil n0
  have pre0 : ∀ tg, Steps p.tables e below (s₁.setTop (mkF m 0 #[.val (.ref a1), .val (.ref a2), .unset] [])) tg → Steps p.tables e below (s₁.setTop (entryFrame m #[(.ref a1), (.ref a2)] 3)) tg := fun tg kq => castTop (ef_RR_3 m a1 a2) kq
  obtain ⟨oE1, oP1, oA1⟩ := B1
  obtain ⟨oE2, oP2, oA2⟩ := B2
  obtain ⟨t1, kb1, N1, vs1, sE1, sV1, sC1, sK1, scd1, shp1, shl1⟩ := id T1
  obtain ⟨t2, kb2, N2, vs2, sE2, sV2, sC2, sK2, scd2, shp2, shl2⟩ := id T2
  obtain ⟨T101, X101, e101, st101⟩ := instY X0 hx hZ hown (wi hw 69 rfl) e0 (Ins.self oE2) (g := (mkF m 1 #[.val (.ref a1), .val (.ref a2), .unset] [(.ref a2)])) rfl rfl (hb hby d14_1)
  obtain ⟨T102, X102, e102, st102⟩ := castY X101 hx hZ hown (wi hw 69 rfl) e101 (Ins.self oE2) (g := (mkF m 8 #[.val (.ref a1), .val (.ref a2), .unset] [(.ref a2)])) rfl rfl (hb hby d14_8)
  obtain ⟨T103, X103, e103, st103⟩ := getF X102 hx hZ hown (host := "") (Or.inl (wi hw 60 rfl)) Via.refl e102 oP1 (g := (mkF m 13 #[.val (.ref a1), .val (.ref a2), .val (.ref a2)] [(.ref a1)])) rfl rfl (hb hby d14_13)
  obtain ⟨T104, X104, e104, st104⟩ := getF X103 hx hZ hown (host := "") (Or.inl (wi hw 60 rfl)) Via.refl e103 oP2 (g := (mkF m 17 #[.val (.ref a1), .val (.ref a2), .val (.ref a2)] [(.ref a2), (.ref s1)])) rfl rfl (hb hby d14_17)
  obtain ⟨cq105, kq105, q105a, q105b, q105c⟩ := isOf hZ e104 sE1
  obtain ⟨_, _, ⟨T105, L105, k105, n105⟩, -, X105, ⟨Lc105, hQ105, l105, y105, z105⟩, st105⟩ := X104.virtualBack hx (y := (⟨"java/lang/String", "equals", "(Ljava/lang/Object;)Z"⟩ : MethodName)) (z := (⟨"java/lang/String", "equals", "(Ljava/lang/Object;)Z"⟩ : MethodName)) hown (mvT hZ (wi hw 71 rfl)) (mvT hZ (wi hw 72 rfl)) (notFace_of_selects (args := #[]) (mvT hZ (wi hw 74 rfl))) (mvT hZ (wi hw 74 rfl)) (mvT hZ (wi hw 73 rfl)) (by decide) (StrChars.Road.eqW (W := 0) hZ (fun d hd => hw d (own_w_eqW d hd)) (kI := 4) (wi hw 6 rfl) sE1 sV1 sC1 sK1 scd1 (own_up _ shp1) shl1 sE2 sV2 sC2 sK2 scd2 (own_up _ shp2) shl2 (S_CS.ext O0.2) hG1 (by decide) (by decide)) q105a q105c (g := (mkF m 20 #[.val (.ref a1), .val (.ref a2), .val (.ref a2)] [(.ref s2), (.ref s1)])) rfl (by rw [hml]; rfl) (Steps.refl _) (argsL := [(.ref s2)]) (rest := []) (lenOf pd_6 rfl) rfl (by show 2 * 0 + _ ≤ _; exact Nat.le_of_eq rfl) (hb hby d14_20) (fun _ _ => ⟨rfl, e104, (by decide : 0 + 0 ≤ _), (by decide : 0 + 0 ≤ _)⟩)
  dsimp only [Pt.U, Pt.locs, Pt.cells, Pt.slots] at X105 l105 y105 z105 st105 hQ105
  subst l105 y105 z105
  obtain ⟨hv105, rfl, hh105⟩ := hQ105
  obtain rfl := (hv105.resolve_right (fun q => q.2 (hq : cs1 = cs2))).1
  have N105q : Fr n0 ([] : List Loc) := Fr.nil n0
  have e105 : T105.heap = h0 := hh105
  have N105 := Fr.app N0 N105q
  obtain ⟨T106, X106, e106, st106⟩ := getF X105 hx hZ hown (host := "") (Or.inl (wi hw 62 rfl)) Via.refl e105 oA1 (g := (mkF m 27 #[.val (.ref a1), .val (.ref a2), .val (.ref a2)] [(.ref a1)])) rfl rfl (hb hby d14_27)
  obtain ⟨T107, X107, e107, st107⟩ := getF X106 hx hZ hown (host := "") (Or.inl (wi hw 62 rfl)) Via.refl e106 oA2 (g := (mkF m 31 #[.val (.ref a1), .val (.ref a2), .val (.ref a2)] [(.ref a2), (.int u1)])) rfl rfl (hb hby d14_31)
  obtain ⟨fs, hr, hrun, hended, hW, hsame⟩ := X107.leave (v := some (.int (1 : Int32))) (fun h => by rw [Bd.returns] at h; cases h)
  refine ⟨_, _, pre0 _ ?_, hrun, hended, _, _, rfl, ?_, ⟨_, rfl⟩, hW, hsame.mono (by decide) (by decide)⟩
  · show Steps p.tables e below (s₁.setTop (mkF m 0 #[.val (.ref a1), .val (.ref a2), .unset] [])) _
    refine XS.aloadN X0.here hx rfl (hb hby d14_0) rfl rfl ?_
    show Steps p.tables e below (s₁.setTop (mkF m 1 #[.val (.ref a1), .val (.ref a2), .unset] [(.ref a2)])) _
    refine st101 _ ?_
    show Steps p.tables e below (T101.setTop (mkF m 4 #[.val (.ref a1), .val (.ref a2), .unset] [(.int (1 : Int32))])) _
    refine XS.ifNo X101.here hx rfl (hb hby d14_4) rfl ((if0 _ _).trans (feq (by decide : ¬ ((1 : Int32) = (0 : Int32)))).1) ?_
    show Steps p.tables e below (T101.setTop (mkF m 7 #[.val (.ref a1), .val (.ref a2), .unset] [])) _
    refine XS.aloadN X101.here hx rfl (hb hby d14_7) rfl rfl ?_
    show Steps p.tables e below (T101.setTop (mkF m 8 #[.val (.ref a1), .val (.ref a2), .unset] [(.ref a2)])) _
    refine st102 _ ?_
    show Steps p.tables e below (T102.setTop (mkF m 11 #[.val (.ref a1), .val (.ref a2), .unset] [(.ref a2)])) _
    refine XS.astoreN X102.here hx rfl (hb hby d14_11) rfl rfl (l' := #[.val (.ref a1), .val (.ref a2), .val (.ref a2)]) rfl ?_
    show Steps p.tables e below (T102.setTop (mkF m 12 #[.val (.ref a1), .val (.ref a2), .val (.ref a2)] [])) _
    refine XS.aloadN X102.here hx rfl (hb hby d14_12) rfl rfl ?_
    show Steps p.tables e below (T102.setTop (mkF m 13 #[.val (.ref a1), .val (.ref a2), .val (.ref a2)] [(.ref a1)])) _
    refine st103 _ ?_
    show Steps p.tables e below (T103.setTop (mkF m 16 #[.val (.ref a1), .val (.ref a2), .val (.ref a2)] [(.ref s1)])) _
    refine XS.aloadN X103.here hx rfl (hb hby d14_16) rfl rfl ?_
    show Steps p.tables e below (T103.setTop (mkF m 17 #[.val (.ref a1), .val (.ref a2), .val (.ref a2)] [(.ref a2), (.ref s1)])) _
    refine st104 _ ?_
    show Steps p.tables e below (T104.setTop (mkF m 20 #[.val (.ref a1), .val (.ref a2), .val (.ref a2)] [(.ref s2), (.ref s1)])) _
    refine st105.trans ?_
    show Steps p.tables e below (T105.setTop (mkF m 23 #[.val (.ref a1), .val (.ref a2), .val (.ref a2)] [(.int (1 : Int32))])) _
    refine XS.ifNo X105.here hx rfl (hb hby d14_23) rfl ((if0 _ _).trans (feq (by decide : ¬ ((1 : Int32) = (0 : Int32)))).1) ?_
    show Steps p.tables e below (T105.setTop (mkF m 26 #[.val (.ref a1), .val (.ref a2), .val (.ref a2)] [])) _
    refine XS.aloadN X105.here hx rfl (hb hby d14_26) rfl rfl ?_
    show Steps p.tables e below (T105.setTop (mkF m 27 #[.val (.ref a1), .val (.ref a2), .val (.ref a2)] [(.ref a1)])) _
    refine st106 _ ?_
    show Steps p.tables e below (T106.setTop (mkF m 30 #[.val (.ref a1), .val (.ref a2), .val (.ref a2)] [(.int u1)])) _
    refine XS.aloadN X106.here hx rfl (hb hby d14_30) rfl rfl ?_
    show Steps p.tables e below (T106.setTop (mkF m 31 #[.val (.ref a1), .val (.ref a2), .val (.ref a2)] [(.ref a2), (.int u1)])) _
    refine st107 _ ?_
    show Steps p.tables e below (T107.setTop (mkF m 34 #[.val (.ref a1), .val (.ref a2), .val (.ref a2)] [(.int u2), (.int u1)])) _
    refine XS.icmpNo X107.here hx rfl (hb hby d14_34) rfl (teq hu).2 ?_
    show Steps p.tables e below (T107.setTop (mkF m 37 #[.val (.ref a1), .val (.ref a2), .val (.ref a2)] [])) _
    refine XS.iconst X107.here hx rfl (hb hby d14_37) ?_
    show Steps p.tables e below (T107.setTop (mkF m 38 #[.val (.ref a1), .val (.ref a2), .val (.ref a2)] [(.int (1 : Int32))])) _
    refine XS.goto X107.here hx rfl (pc0 := 38) (pc' := 42) rfl (hb hby d14_38) (by decide) (by decide) ?_
    show Steps p.tables e below (T107.setTop (mkF m 42 #[.val (.ref a1), .val (.ref a2), .val (.ref a2)] [(.int (1 : Int32))])) _
    exact retN X107 hx (t := .boolean) Bd.returns (by simp) (hb hby d14_42) hr
  · show QP (.int (1 : Int32)) h0 n0 _ T107.heap _
    rw [e107]
    exact ⟨rfl, N105, rfl⟩
theorem d14_41 : decode prog_32_method_4_code 41 = .ok (.iconst 0, 1) := by decide +kernel
set_option maxRecDepth 65536 in
set_option maxHeartbeats 40000000 in
theorem rm14_b (l : Launch) (Z : State) (a0 : Array Value) (hw : ∀ d ∈ tables_1, d.before a0 Z = true) (ws : List Jvm.Cond) (G1 : Int32) (a1 a2 s1 s2 : Addr) (u1 u2 : Int32) (cs1 cs2 : List Int32) (h0 : Heap) (n0 : Nat) (O0 : Old Z n0 h0) (S_CS : Sta Z Z.heap "java/lang/String" "COMPACT_STRINGS" "Z" (.int G1)) (hG1 : ¬ (G1 = (0 : Int32))) (B1 : Ord Z h0 a1 (.ref s1) (.int u1)) (B2 : Ord Z h0 a2 (.ref s2) (.int u2)) (T1 : Str Z h0 s1 cs1) (T2 : Str Z h0 s2 cs2) (hq : cs1 = cs2) (hu : ¬ (u1 = u2)) :
    MetFree l (⟨"com/example/exact_repository/exactrepository/Sort$Order", "equals", "(Ljava/lang/Object;)Z"⟩ : MethodName) (head1 (Jvm.Cond.code (⟨"com/example/exact_repository/exactrepository/Sort$Order", "equals", "(Ljava/lang/Object;)Z"⟩ : MethodName) prog_32_method_4_code 3 (some .boolean) :: ws) ({ frames := 2, cells := 0, slots := 0, locals := 28 } : Room)) (fun a_ U => a_ = #[(.ref a1), (.ref a2)] ∧ Z.Warmed39 U.vm ∧ U.heap = h0) (fun _ _ _ _ _ => True) (fun _ U o U' => ∃ v L, o = .returned v ∧ QP (.int (0 : Int32)) h0 n0 v U'.heap L ∧ FrameEnd U o U' L ({ frames := 2, cells := 0, slots := 0, locals := 28 } : Room).cells ({ frames := 2, cells := 0, slots := 0, locals := 28 } : Room).slots) := by
  refine MetFree.of_bodySF (plainFor_of_name pn_3) hisR ?_
  intro p e s m args below meth c s₁ Bd hml0 hP hK
  obtain ⟨rfl, hZ, hh⟩ := hP
  have hx := Bd.exec
  have hby := Bd.bytes
  have hml : c.maxLocals = 3 := hml0
  have hown : s.vm.findClass "com/example/exact_repository/exactrepository/Sort$Order" = some m.cls := findClass_of_methodNamed Bd.named
  have hnm := (name_of_methodNamed Bd.named Bd.method).1
  have X0 : Stand p l e ({ frames := 2, cells := 0, slots := 0, locals := 28 } : Room) s m #[(.ref a1), (.ref a2)] below meth c s₁ [] 0 0 := Stand.of_body Bd
  have e0 : s₁.heap = h0 := by rw [← hh, Bd.state]; rfl
  have N0 := Fr.nil n0
  have pre0 : ∀ tg, Steps p.tables e below (s₁.setTop (mkF m 0 #[.val (.ref a1), .val (.ref a2), .unset] [])) tg → Steps p.tables e below (s₁.setTop (entryFrame m #[(.ref a1), (.ref a2)] 3)) tg := fun tg kq => castTop (ef_RR_3 m a1 a2) kq
  obtain ⟨oE1, oP1, oA1⟩ := B1
  obtain ⟨oE2, oP2, oA2⟩ := B2
  obtain ⟨t1, kb1, N1, vs1, sE1, sV1, sC1, sK1, scd1, shp1, shl1⟩ := id T1
  obtain ⟨t2, kb2, N2, vs2, sE2, sV2, sC2, sK2, scd2, shp2, shl2⟩ := id T2
  obtain ⟨T101, X101, e101, st101⟩ := instY X0 hx hZ hown (wi hw 69 rfl) e0 (Ins.self oE2) (g := (mkF m 1 #[.val (.ref a1), .val (.ref a2), .unset] [(.ref a2)])) rfl rfl (hb hby d14_1)
  obtain ⟨T102, X102, e102, st102⟩ := castY X101 hx hZ hown (wi hw 69 rfl) e101 (Ins.self oE2) (g := (mkF m 8 #[.val (.ref a1), .val (.ref a2), .unset] [(.ref a2)])) rfl rfl (hb hby d14_8)
  obtain ⟨T103, X103, e103, st103⟩ := getF X102 hx hZ hown (host := "") (Or.inl (wi hw 60 rfl)) Via.refl e102 oP1 (g := (mkF m 13 #[.val (.ref a1), .val (.ref a2), .val (.ref a2)] [(.ref a1)])) rfl rfl (hb hby d14_13)
  obtain ⟨T104, X104, e104, st104⟩ := getF X103 hx hZ hown (host := "") (Or.inl (wi hw 60 rfl)) Via.refl e103 oP2 (g := (mkF m 17 #[.val (.ref a1), .val (.ref a2), .val (.ref a2)] [(.ref a2), (.ref s1)])) rfl rfl (hb hby d14_17)
  obtain ⟨cq105, kq105, q105a, q105b, q105c⟩ := isOf hZ e104 sE1
  obtain ⟨_, _, ⟨T105, L105, k105, n105⟩, -, X105, ⟨Lc105, hQ105, l105, y105, z105⟩, st105⟩ := X104.virtualBack hx (y := (⟨"java/lang/String", "equals", "(Ljava/lang/Object;)Z"⟩ : MethodName)) (z := (⟨"java/lang/String", "equals", "(Ljava/lang/Object;)Z"⟩ : MethodName)) hown (mvT hZ (wi hw 71 rfl)) (mvT hZ (wi hw 72 rfl)) (notFace_of_selects (args := #[]) (mvT hZ (wi hw 74 rfl))) (mvT hZ (wi hw 74 rfl)) (mvT hZ (wi hw 73 rfl)) (by decide) (StrChars.Road.eqW (W := 0) hZ (fun d hd => hw d (own_w_eqW d hd)) (kI := 4) (wi hw 6 rfl) sE1 sV1 sC1 sK1 scd1 (own_up _ shp1) shl1 sE2 sV2 sC2 sK2 scd2 (own_up _ shp2) shl2 (S_CS.ext O0.2) hG1 (by decide) (by decide)) q105a q105c (g := (mkF m 20 #[.val (.ref a1), .val (.ref a2), .val (.ref a2)] [(.ref s2), (.ref s1)])) rfl (by rw [hml]; rfl) (Steps.refl _) (argsL := [(.ref s2)]) (rest := []) (lenOf pd_6 rfl) rfl (by show 2 * 0 + _ ≤ _; exact Nat.le_of_eq rfl) (hb hby d14_20) (fun _ _ => ⟨rfl, e104, (by decide : 0 + 0 ≤ _), (by decide : 0 + 0 ≤ _)⟩)
  dsimp only [Pt.U, Pt.locs, Pt.cells, Pt.slots] at X105 l105 y105 z105 st105 hQ105
  subst l105 y105 z105
  obtain ⟨hv105, rfl, hh105⟩ := hQ105
  obtain rfl := (hv105.resolve_right (fun q => q.2 (hq : cs1 = cs2))).1
  have N105q : Fr n0 ([] : List Loc) := Fr.nil n0
  have e105 : T105.heap = h0 := hh105
  have N105 := Fr.app N0 N105q
  obtain ⟨T106, X106, e106, st106⟩ := getF X105 hx hZ hown (host := "") (Or.inl (wi hw 62 rfl)) Via.refl e105 oA1 (g := (mkF m 27 #[.val (.ref a1), .val (.ref a2), .val (.ref a2)] [(.ref a1)])) rfl rfl (hb hby d14_27)
  obtain ⟨T107, X107, e107, st107⟩ := getF X106 hx hZ hown (host := "") (Or.inl (wi hw 62 rfl)) Via.refl e106 oA2 (g := (mkF m 31 #[.val (.ref a1), .val (.ref a2), .val (.ref a2)] [(.ref a2), (.int u1)])) rfl rfl (hb hby d14_31)
  obtain ⟨fs, hr, hrun, hended, hW, hsame⟩ := X107.leave (v := some (.int (0 : Int32))) (fun h => by rw [Bd.returns] at h; cases h)
  refine ⟨_, _, pre0 _ ?_, hrun, hended, _, _, rfl, ?_, ⟨_, rfl⟩, hW, hsame.mono (by decide) (by decide)⟩
  · show Steps p.tables e below (s₁.setTop (mkF m 0 #[.val (.ref a1), .val (.ref a2), .unset] [])) _
    refine XS.aloadN X0.here hx rfl (hb hby d14_0) rfl rfl ?_
    show Steps p.tables e below (s₁.setTop (mkF m 1 #[.val (.ref a1), .val (.ref a2), .unset] [(.ref a2)])) _
    refine st101 _ ?_
    show Steps p.tables e below (T101.setTop (mkF m 4 #[.val (.ref a1), .val (.ref a2), .unset] [(.int (1 : Int32))])) _
    refine XS.ifNo X101.here hx rfl (hb hby d14_4) rfl ((if0 _ _).trans (feq (by decide : ¬ ((1 : Int32) = (0 : Int32)))).1) ?_
    show Steps p.tables e below (T101.setTop (mkF m 7 #[.val (.ref a1), .val (.ref a2), .unset] [])) _
    refine XS.aloadN X101.here hx rfl (hb hby d14_7) rfl rfl ?_
    show Steps p.tables e below (T101.setTop (mkF m 8 #[.val (.ref a1), .val (.ref a2), .unset] [(.ref a2)])) _
    refine st102 _ ?_
    show Steps p.tables e below (T102.setTop (mkF m 11 #[.val (.ref a1), .val (.ref a2), .unset] [(.ref a2)])) _
    refine XS.astoreN X102.here hx rfl (hb hby d14_11) rfl rfl (l' := #[.val (.ref a1), .val (.ref a2), .val (.ref a2)]) rfl ?_
    show Steps p.tables e below (T102.setTop (mkF m 12 #[.val (.ref a1), .val (.ref a2), .val (.ref a2)] [])) _
    refine XS.aloadN X102.here hx rfl (hb hby d14_12) rfl rfl ?_
    show Steps p.tables e below (T102.setTop (mkF m 13 #[.val (.ref a1), .val (.ref a2), .val (.ref a2)] [(.ref a1)])) _
    refine st103 _ ?_
    show Steps p.tables e below (T103.setTop (mkF m 16 #[.val (.ref a1), .val (.ref a2), .val (.ref a2)] [(.ref s1)])) _
    refine XS.aloadN X103.here hx rfl (hb hby d14_16) rfl rfl ?_
    show Steps p.tables e below (T103.setTop (mkF m 17 #[.val (.ref a1), .val (.ref a2), .val (.ref a2)] [(.ref a2), (.ref s1)])) _
    refine st104 _ ?_
    show Steps p.tables e below (T104.setTop (mkF m 20 #[.val (.ref a1), .val (.ref a2), .val (.ref a2)] [(.ref s2), (.ref s1)])) _
    refine st105.trans ?_
    show Steps p.tables e below (T105.setTop (mkF m 23 #[.val (.ref a1), .val (.ref a2), .val (.ref a2)] [(.int (1 : Int32))])) _
    refine XS.ifNo X105.here hx rfl (hb hby d14_23) rfl ((if0 _ _).trans (feq (by decide : ¬ ((1 : Int32) = (0 : Int32)))).1) ?_
    show Steps p.tables e below (T105.setTop (mkF m 26 #[.val (.ref a1), .val (.ref a2), .val (.ref a2)] [])) _
    refine XS.aloadN X105.here hx rfl (hb hby d14_26) rfl rfl ?_
    show Steps p.tables e below (T105.setTop (mkF m 27 #[.val (.ref a1), .val (.ref a2), .val (.ref a2)] [(.ref a1)])) _
    refine st106 _ ?_
    show Steps p.tables e below (T106.setTop (mkF m 30 #[.val (.ref a1), .val (.ref a2), .val (.ref a2)] [(.int u1)])) _
    refine XS.aloadN X106.here hx rfl (hb hby d14_30) rfl rfl ?_
    show Steps p.tables e below (T106.setTop (mkF m 31 #[.val (.ref a1), .val (.ref a2), .val (.ref a2)] [(.ref a2), (.int u1)])) _
    refine st107 _ ?_
    show Steps p.tables e below (T107.setTop (mkF m 34 #[.val (.ref a1), .val (.ref a2), .val (.ref a2)] [(.int u2), (.int u1)])) _
    refine XS.icmpYes X107.here hx rfl (pc0 := 34) (pc' := 41) rfl (hb hby d14_34) rfl (feq hu).2 (by decide) (by decide) ?_
    show Steps p.tables e below (T107.setTop (mkF m 41 #[.val (.ref a1), .val (.ref a2), .val (.ref a2)] [])) _
    refine XS.iconst X107.here hx rfl (hb hby d14_41) ?_
    show Steps p.tables e below (T107.setTop (mkF m 42 #[.val (.ref a1), .val (.ref a2), .val (.ref a2)] [(.int (0 : Int32))])) _
    exact retN X107 hx (t := .boolean) Bd.returns (by simp) (hb hby d14_42) hr
  · show QP (.int (0 : Int32)) h0 n0 _ T107.heap _
    rw [e107]
    exact ⟨rfl, N105, rfl⟩
set_option maxRecDepth 65536 in
set_option maxHeartbeats 40000000 in
theorem rm14_c (l : Launch) (Z : State) (a0 : Array Value) (hw : ∀ d ∈ tables_1, d.before a0 Z = true) (ws : List Jvm.Cond) (G1 : Int32) (a1 a2 s1 s2 : Addr) (u1 u2 : Int32) (cs1 cs2 : List Int32) (h0 : Heap) (n0 : Nat) (O0 : Old Z n0 h0) (S_CS : Sta Z Z.heap "java/lang/String" "COMPACT_STRINGS" "Z" (.int G1)) (hG1 : ¬ (G1 = (0 : Int32))) (B1 : Ord Z h0 a1 (.ref s1) (.int u1)) (B2 : Ord Z h0 a2 (.ref s2) (.int u2)) (T1 : Str Z h0 s1 cs1) (T2 : Str Z h0 s2 cs2) (hq : ¬ cs1 = cs2) :
    MetFree l (⟨"com/example/exact_repository/exactrepository/Sort$Order", "equals", "(Ljava/lang/Object;)Z"⟩ : MethodName) (head1 (Jvm.Cond.code (⟨"com/example/exact_repository/exactrepository/Sort$Order", "equals", "(Ljava/lang/Object;)Z"⟩ : MethodName) prog_32_method_4_code 3 (some .boolean) :: ws) ({ frames := 2, cells := 0, slots := 0, locals := 28 } : Room)) (fun a_ U => a_ = #[(.ref a1), (.ref a2)] ∧ Z.Warmed39 U.vm ∧ U.heap = h0) (fun _ _ _ _ _ => True) (fun _ U o U' => ∃ v L, o = .returned v ∧ QP (.int (0 : Int32)) h0 n0 v U'.heap L ∧ FrameEnd U o U' L ({ frames := 2, cells := 0, slots := 0, locals := 28 } : Room).cells ({ frames := 2, cells := 0, slots := 0, locals := 28 } : Room).slots) := by
  refine MetFree.of_bodySF (plainFor_of_name pn_3) hisR ?_
  intro p e s m args below meth c s₁ Bd hml0 hP hK
  obtain ⟨rfl, hZ, hh⟩ := hP
  have hx := Bd.exec
  have hby := Bd.bytes
  have hml : c.maxLocals = 3 := hml0
  have hown : s.vm.findClass "com/example/exact_repository/exactrepository/Sort$Order" = some m.cls := findClass_of_methodNamed Bd.named
  have hnm := (name_of_methodNamed Bd.named Bd.method).1
  have X0 : Stand p l e ({ frames := 2, cells := 0, slots := 0, locals := 28 } : Room) s m #[(.ref a1), (.ref a2)] below meth c s₁ [] 0 0 := Stand.of_body Bd
  have e0 : s₁.heap = h0 := by rw [← hh, Bd.state]; rfl
  have N0 := Fr.nil n0
  have pre0 : ∀ tg, Steps p.tables e below (s₁.setTop (mkF m 0 #[.val (.ref a1), .val (.ref a2), .unset] [])) tg → Steps p.tables e below (s₁.setTop (entryFrame m #[(.ref a1), (.ref a2)] 3)) tg := fun tg kq => castTop (ef_RR_3 m a1 a2) kq
  obtain ⟨oE1, oP1, oA1⟩ := B1
  obtain ⟨oE2, oP2, oA2⟩ := B2
  obtain ⟨t1, kb1, N1, vs1, sE1, sV1, sC1, sK1, scd1, shp1, shl1⟩ := id T1
  obtain ⟨t2, kb2, N2, vs2, sE2, sV2, sC2, sK2, scd2, shp2, shl2⟩ := id T2
  obtain ⟨T101, X101, e101, st101⟩ := instY X0 hx hZ hown (wi hw 69 rfl) e0 (Ins.self oE2) (g := (mkF m 1 #[.val (.ref a1), .val (.ref a2), .unset] [(.ref a2)])) rfl rfl (hb hby d14_1)
  obtain ⟨T102, X102, e102, st102⟩ := castY X101 hx hZ hown (wi hw 69 rfl) e101 (Ins.self oE2) (g := (mkF m 8 #[.val (.ref a1), .val (.ref a2), .unset] [(.ref a2)])) rfl rfl (hb hby d14_8)
  obtain ⟨T103, X103, e103, st103⟩ := getF X102 hx hZ hown (host := "") (Or.inl (wi hw 60 rfl)) Via.refl e102 oP1 (g := (mkF m 13 #[.val (.ref a1), .val (.ref a2), .val (.ref a2)] [(.ref a1)])) rfl rfl (hb hby d14_13)
  obtain ⟨T104, X104, e104, st104⟩ := getF X103 hx hZ hown (host := "") (Or.inl (wi hw 60 rfl)) Via.refl e103 oP2 (g := (mkF m 17 #[.val (.ref a1), .val (.ref a2), .val (.ref a2)] [(.ref a2), (.ref s1)])) rfl rfl (hb hby d14_17)
  obtain ⟨cq105, kq105, q105a, q105b, q105c⟩ := isOf hZ e104 sE1
  obtain ⟨_, _, ⟨T105, L105, k105, n105⟩, -, X105, ⟨Lc105, hQ105, l105, y105, z105⟩, st105⟩ := X104.virtualBack hx (y := (⟨"java/lang/String", "equals", "(Ljava/lang/Object;)Z"⟩ : MethodName)) (z := (⟨"java/lang/String", "equals", "(Ljava/lang/Object;)Z"⟩ : MethodName)) hown (mvT hZ (wi hw 71 rfl)) (mvT hZ (wi hw 72 rfl)) (notFace_of_selects (args := #[]) (mvT hZ (wi hw 74 rfl))) (mvT hZ (wi hw 74 rfl)) (mvT hZ (wi hw 73 rfl)) (by decide) (StrChars.Road.eqW (W := 0) hZ (fun d hd => hw d (own_w_eqW d hd)) (kI := 4) (wi hw 6 rfl) sE1 sV1 sC1 sK1 scd1 (own_up _ shp1) shl1 sE2 sV2 sC2 sK2 scd2 (own_up _ shp2) shl2 (S_CS.ext O0.2) hG1 (by decide) (by decide)) q105a q105c (g := (mkF m 20 #[.val (.ref a1), .val (.ref a2), .val (.ref a2)] [(.ref s2), (.ref s1)])) rfl (by rw [hml]; rfl) (Steps.refl _) (argsL := [(.ref s2)]) (rest := []) (lenOf pd_6 rfl) rfl (by show 2 * 0 + _ ≤ _; exact Nat.le_of_eq rfl) (hb hby d14_20) (fun _ _ => ⟨rfl, e104, (by decide : 0 + 0 ≤ _), (by decide : 0 + 0 ≤ _)⟩)
  dsimp only [Pt.U, Pt.locs, Pt.cells, Pt.slots] at X105 l105 y105 z105 st105 hQ105
  subst l105 y105 z105
  obtain ⟨hv105, rfl, hh105⟩ := hQ105
  obtain rfl := (hv105.resolve_left (fun q => (hq : ¬ cs1 = cs2) q.2)).1
  have N105q : Fr n0 ([] : List Loc) := Fr.nil n0
  have e105 : T105.heap = h0 := hh105
  have N105 := Fr.app N0 N105q
  obtain ⟨fs, hr, hrun, hended, hW, hsame⟩ := X105.leave (v := some (.int (0 : Int32))) (fun h => by rw [Bd.returns] at h; cases h)
  refine ⟨_, _, pre0 _ ?_, hrun, hended, _, _, rfl, ?_, ⟨_, rfl⟩, hW, hsame.mono (by decide) (by decide)⟩
  · show Steps p.tables e below (s₁.setTop (mkF m 0 #[.val (.ref a1), .val (.ref a2), .unset] [])) _
    refine XS.aloadN X0.here hx rfl (hb hby d14_0) rfl rfl ?_
    show Steps p.tables e below (s₁.setTop (mkF m 1 #[.val (.ref a1), .val (.ref a2), .unset] [(.ref a2)])) _
    refine st101 _ ?_
    show Steps p.tables e below (T101.setTop (mkF m 4 #[.val (.ref a1), .val (.ref a2), .unset] [(.int (1 : Int32))])) _
    refine XS.ifNo X101.here hx rfl (hb hby d14_4) rfl ((if0 _ _).trans (feq (by decide : ¬ ((1 : Int32) = (0 : Int32)))).1) ?_
    show Steps p.tables e below (T101.setTop (mkF m 7 #[.val (.ref a1), .val (.ref a2), .unset] [])) _
    refine XS.aloadN X101.here hx rfl (hb hby d14_7) rfl rfl ?_
    show Steps p.tables e below (T101.setTop (mkF m 8 #[.val (.ref a1), .val (.ref a2), .unset] [(.ref a2)])) _
    refine st102 _ ?_
    show Steps p.tables e below (T102.setTop (mkF m 11 #[.val (.ref a1), .val (.ref a2), .unset] [(.ref a2)])) _
    refine XS.astoreN X102.here hx rfl (hb hby d14_11) rfl rfl (l' := #[.val (.ref a1), .val (.ref a2), .val (.ref a2)]) rfl ?_
    show Steps p.tables e below (T102.setTop (mkF m 12 #[.val (.ref a1), .val (.ref a2), .val (.ref a2)] [])) _
    refine XS.aloadN X102.here hx rfl (hb hby d14_12) rfl rfl ?_
    show Steps p.tables e below (T102.setTop (mkF m 13 #[.val (.ref a1), .val (.ref a2), .val (.ref a2)] [(.ref a1)])) _
    refine st103 _ ?_
    show Steps p.tables e below (T103.setTop (mkF m 16 #[.val (.ref a1), .val (.ref a2), .val (.ref a2)] [(.ref s1)])) _
    refine XS.aloadN X103.here hx rfl (hb hby d14_16) rfl rfl ?_
    show Steps p.tables e below (T103.setTop (mkF m 17 #[.val (.ref a1), .val (.ref a2), .val (.ref a2)] [(.ref a2), (.ref s1)])) _
    refine st104 _ ?_
    show Steps p.tables e below (T104.setTop (mkF m 20 #[.val (.ref a1), .val (.ref a2), .val (.ref a2)] [(.ref s2), (.ref s1)])) _
    refine st105.trans ?_
    show Steps p.tables e below (T105.setTop (mkF m 23 #[.val (.ref a1), .val (.ref a2), .val (.ref a2)] [(.int (0 : Int32))])) _
    refine XS.ifYes X105.here hx rfl (pc0 := 23) (pc' := 41) rfl (hb hby d14_23) rfl ((if0 _ _).trans (teq (by decide : (0 : Int32) = (0 : Int32))).1) (by decide) (by decide) ?_
    show Steps p.tables e below (T105.setTop (mkF m 41 #[.val (.ref a1), .val (.ref a2), .val (.ref a2)] [])) _
    refine XS.iconst X105.here hx rfl (hb hby d14_41) ?_
    show Steps p.tables e below (T105.setTop (mkF m 42 #[.val (.ref a1), .val (.ref a2), .val (.ref a2)] [(.int (0 : Int32))])) _
    exact retN X105 hx (t := .boolean) Bd.returns (by simp) (hb hby d14_42) hr
  · show QP (.int (0 : Int32)) h0 n0 _ T105.heap _
    rw [e105]
    exact ⟨rfl, N105, rfl⟩
theorem rm14 (l : Launch) (Z : State) (a0 : Array Value) (hw : ∀ d ∈ tables_1, d.before a0 Z = true) (ws : List Jvm.Cond) (G1 : Int32) (a1 a2 s1 s2 : Addr) (u1 u2 : Int32) (cs1 cs2 : List Int32) (r : Int32) (h0 : Heap) (n0 : Nat) (O0 : Old Z n0 h0) (S_CS : Sta Z Z.heap "java/lang/String" "COMPACT_STRINGS" "Z" (.int G1)) (hG1 : ¬ (G1 = (0 : Int32))) (B1 : Ord Z h0 a1 (.ref s1) (.int u1)) (B2 : Ord Z h0 a2 (.ref s2) (.int u2)) (T1 : Str Z h0 s1 cs1) (T2 : Str Z h0 s2 cs2) (hr : r = if cs1 = cs2 ∧ u1 = u2 then 1 else 0) :
    MetFree l (⟨"com/example/exact_repository/exactrepository/Sort$Order", "equals", "(Ljava/lang/Object;)Z"⟩ : MethodName) (head1 (Jvm.Cond.code (⟨"com/example/exact_repository/exactrepository/Sort$Order", "equals", "(Ljava/lang/Object;)Z"⟩ : MethodName) prog_32_method_4_code 3 (some .boolean) :: ws) ({ frames := 2, cells := 0, slots := 0, locals := 28 } : Room)) (fun a_ U => a_ = #[(.ref a1), (.ref a2)] ∧ Z.Warmed39 U.vm ∧ U.heap = h0) (fun _ _ _ _ _ => True) (fun _ U o U' => ∃ v L, o = .returned v ∧ QP (.int r) h0 n0 v U'.heap L ∧ FrameEnd U o U' L ({ frames := 2, cells := 0, slots := 0, locals := 28 } : Room).cells ({ frames := 2, cells := 0, slots := 0, locals := 28 } : Room).slots) := by
  by_cases hq : cs1 = cs2
  · by_cases hu : u1 = u2
    · obtain rfl : r = 1 := by rw [hr, if_pos ⟨hq, hu⟩]
      exact rm14_a l Z a0 hw ws G1 a1 a2 s1 s2 u1 u2 cs1 cs2 h0 n0 O0 S_CS hG1 B1 B2 T1 T2 hq hu
    · obtain rfl : r = 0 := by rw [hr, if_neg (fun z => hu z.2)]
      exact rm14_b l Z a0 hw ws G1 a1 a2 s1 s2 u1 u2 cs1 cs2 h0 n0 O0 S_CS hG1 B1 B2 T1 T2 hq hu
  · obtain rfl : r = 0 := by rw [hr, if_neg (fun z => hq z.1)]
    exact rm14_c l Z a0 hw ws G1 a1 a2 s1 s2 u1 u2 cs1 cs2 h0 n0 O0 S_CS hG1 B1 B2 T1 T2 hq
theorem ef_RN_3 (m : MethodId) (x0 : Addr) : entryFrame m #[(.ref x0), .null] 3 = mkF m 0 #[.val (.ref x0), .val .null, .unset] [] := by first | (simp [entryFrame, mkF, argsToLocals, Value.category]; done) | rfl
set_option maxRecDepth 65536 in
set_option maxHeartbeats 40000000 in
theorem rm14_n (l : Launch) (Z : State) (a0 : Array Value) (hw : ∀ d ∈ tables_1, d.before a0 Z = true) (ws : List Jvm.Cond) (a1 : Addr) (h0 : Heap) (n0 : Nat) (O0 : Old Z n0 h0) :
    MetFree l (⟨"com/example/exact_repository/exactrepository/Sort$Order", "equals", "(Ljava/lang/Object;)Z"⟩ : MethodName) (head1 (Jvm.Cond.code (⟨"com/example/exact_repository/exactrepository/Sort$Order", "equals", "(Ljava/lang/Object;)Z"⟩ : MethodName) prog_32_method_4_code 3 (some .boolean) :: ws) ({ frames := 0, cells := 0, slots := 0, locals := 0 } : Room)) (fun a_ U => a_ = #[(.ref a1), .null] ∧ Z.Warmed39 U.vm ∧ U.heap = h0) (fun _ _ _ _ _ => True) (fun _ U o U' => ∃ v L, o = .returned v ∧ QP (.int (0 : Int32)) h0 n0 v U'.heap L ∧ FrameEnd U o U' L ({ frames := 0, cells := 0, slots := 0, locals := 0 } : Room).cells ({ frames := 0, cells := 0, slots := 0, locals := 0 } : Room).slots) := by
  refine MetFree.of_bodySF (plainFor_of_name pn_3) hisR ?_
  intro p e s m args below meth c s₁ Bd hml0 hP hK
  obtain ⟨rfl, hZ, hh⟩ := hP
  have hx := Bd.exec
  have hby := Bd.bytes
  have hml : c.maxLocals = 3 := hml0
  have hown : s.vm.findClass "com/example/exact_repository/exactrepository/Sort$Order" = some m.cls := findClass_of_methodNamed Bd.named
  have hnm := (name_of_methodNamed Bd.named Bd.method).1
  have X0 : Stand p l e ({ frames := 0, cells := 0, slots := 0, locals := 0 } : Room) s m #[(.ref a1), .null] below meth c s₁ [] 0 0 := Stand.of_body Bd
  have e0 : s₁.heap = h0 := by rw [← hh, Bd.state]; rfl
  have N0 := Fr.nil n0
  have pre0 : ∀ tg, Steps p.tables e below (s₁.setTop (mkF m 0 #[.val (.ref a1), .val .null, .unset] [])) tg → Steps p.tables e below (s₁.setTop (entryFrame m #[(.ref a1), .null] 3)) tg := fun tg kq => castTop (ef_RN_3 m a1) kq
  obtain ⟨fs, hr, hrun, hended, hW, hsame⟩ := X0.leave (v := some (.int (0 : Int32))) (fun h => by rw [Bd.returns] at h; cases h)
  refine ⟨_, _, pre0 _ ?_, hrun, hended, _, _, rfl, ?_, ⟨_, rfl⟩, hW, hsame.mono (by decide) (by decide)⟩
  · show Steps p.tables e below (s₁.setTop (mkF m 0 #[.val (.ref a1), .val .null, .unset] [])) _
    refine XS.aloadN X0.here hx rfl (hb hby d14_0) rfl rfl ?_
    show Steps p.tables e below (s₁.setTop (mkF m 1 #[.val (.ref a1), .val .null, .unset] [.null])) _
    refine X0.instanceofNull hx (g := (mkF m 1 #[.val (.ref a1), .val .null, .unset] [.null])) rfl rfl (hb hby d14_1) _ ?_
    show Steps p.tables e below (s₁.setTop (mkF m 4 #[.val (.ref a1), .val .null, .unset] [(.int (0 : Int32))])) _
    refine XS.ifYes X0.here hx rfl (pc0 := 4) (pc' := 41) rfl (hb hby d14_4) rfl ((if0 _ _).trans (teq (by decide : (0 : Int32) = (0 : Int32))).1) (by decide) (by decide) ?_
    show Steps p.tables e below (s₁.setTop (mkF m 41 #[.val (.ref a1), .val .null, .unset] [])) _
    refine XS.iconst X0.here hx rfl (hb hby d14_41) ?_
    show Steps p.tables e below (s₁.setTop (mkF m 42 #[.val (.ref a1), .val .null, .unset] [(.int (0 : Int32))])) _
    exact retN X0 hx (t := .boolean) Bd.returns (by simp) (hb hby d14_42) hr
  · show QP (.int (0 : Int32)) h0 n0 _ s₁.heap _
    rw [e0]
    exact ⟨rfl, N0, rfl⟩
set_option maxRecDepth 65536 in
set_option maxHeartbeats 40000000 in
theorem rm14_s (l : Launch) (Z : State) (a0 : Array Value) (hw : ∀ d ∈ tables_1, d.before a0 Z = true) (ws : List Jvm.Cond) (a1 a2 : Addr) (h0 : Heap) (n0 : Nat) (O0 : Old Z n0 h0) (E : Exa Z h0 a2 "java/lang/String") :
    MetFree l (⟨"com/example/exact_repository/exactrepository/Sort$Order", "equals", "(Ljava/lang/Object;)Z"⟩ : MethodName) (head1 (Jvm.Cond.code (⟨"com/example/exact_repository/exactrepository/Sort$Order", "equals", "(Ljava/lang/Object;)Z"⟩ : MethodName) prog_32_method_4_code 3 (some .boolean) :: ws) ({ frames := 0, cells := 0, slots := 0, locals := 0 } : Room)) (fun a_ U => a_ = #[(.ref a1), (.ref a2)] ∧ Z.Warmed39 U.vm ∧ U.heap = h0) (fun _ _ _ _ _ => True) (fun _ U o U' => ∃ v L, o = .returned v ∧ QP (.int (0 : Int32)) h0 n0 v U'.heap L ∧ FrameEnd U o U' L ({ frames := 0, cells := 0, slots := 0, locals := 0 } : Room).cells ({ frames := 0, cells := 0, slots := 0, locals := 0 } : Room).slots) := by
  refine MetFree.of_bodySF (plainFor_of_name pn_3) hisR ?_
  intro p e s m args below meth c s₁ Bd hml0 hP hK
  obtain ⟨rfl, hZ, hh⟩ := hP
  have hx := Bd.exec
  have hby := Bd.bytes
  have hml : c.maxLocals = 3 := hml0
  have hown : s.vm.findClass "com/example/exact_repository/exactrepository/Sort$Order" = some m.cls := findClass_of_methodNamed Bd.named
  have hnm := (name_of_methodNamed Bd.named Bd.method).1
  have X0 : Stand p l e ({ frames := 0, cells := 0, slots := 0, locals := 0 } : Room) s m #[(.ref a1), (.ref a2)] below meth c s₁ [] 0 0 := Stand.of_body Bd
  have e0 : s₁.heap = h0 := by rw [← hh, Bd.state]; rfl
  have N0 := Fr.nil n0
  have pre0 : ∀ tg, Steps p.tables e below (s₁.setTop (mkF m 0 #[.val (.ref a1), .val (.ref a2), .unset] [])) tg → Steps p.tables e below (s₁.setTop (entryFrame m #[(.ref a1), (.ref a2)] 3)) tg := fun tg kq => castTop (ef_RR_3 m a1 a2) kq
  obtain ⟨T101, X101, e101, st101⟩ := instNo X0 hx hZ hown (wi hw 69 rfl) e0 E (own_no (wi hw 79 rfl) (wi hw 80 rfl) (wi hw 49 rfl) (by decide) (by decide)) (g := (mkF m 1 #[.val (.ref a1), .val (.ref a2), .unset] [(.ref a2)])) rfl rfl (hb hby d14_1)
  obtain ⟨fs, hr, hrun, hended, hW, hsame⟩ := X101.leave (v := some (.int (0 : Int32))) (fun h => by rw [Bd.returns] at h; cases h)
  refine ⟨_, _, pre0 _ ?_, hrun, hended, _, _, rfl, ?_, ⟨_, rfl⟩, hW, hsame.mono (by decide) (by decide)⟩
  · show Steps p.tables e below (s₁.setTop (mkF m 0 #[.val (.ref a1), .val (.ref a2), .unset] [])) _
    refine XS.aloadN X0.here hx rfl (hb hby d14_0) rfl rfl ?_
    show Steps p.tables e below (s₁.setTop (mkF m 1 #[.val (.ref a1), .val (.ref a2), .unset] [(.ref a2)])) _
    refine st101 _ ?_
    show Steps p.tables e below (T101.setTop (mkF m 4 #[.val (.ref a1), .val (.ref a2), .unset] [(.int (0 : Int32))])) _
    refine XS.ifYes X101.here hx rfl (pc0 := 4) (pc' := 41) rfl (hb hby d14_4) rfl ((if0 _ _).trans (teq (by decide : (0 : Int32) = (0 : Int32))).1) (by decide) (by decide) ?_
    show Steps p.tables e below (T101.setTop (mkF m 41 #[.val (.ref a1), .val (.ref a2), .unset] [])) _
    refine XS.iconst X101.here hx rfl (hb hby d14_41) ?_
    show Steps p.tables e below (T101.setTop (mkF m 42 #[.val (.ref a1), .val (.ref a2), .unset] [(.int (0 : Int32))])) _
    exact retN X101 hx (t := .boolean) Bd.returns (by simp) (hb hby d14_42) hr
  · show QP (.int (0 : Int32)) h0 n0 _ T101.heap _
    rw [e101]
    exact ⟨rfl, N0, rfl⟩
set_option maxRecDepth 65536 in
theorem seg45_t {p : Program} {l : Launch} {e : Env} {R : Room} {s : State} {m : MethodId} {args : Array Value} {below : List Frame} {meth : Method} {c : Code} {T : State} {locs : List Loc} {cells slots : Nat} (X : Stand p l e R s m args below meth c T locs cells slots) (hx : p.tables.exec = Jvm.exec) (hby : c.code = code) (q0 q1 q2 q3 x4 x5 x6 x7 x8 : Int32) (hc50 : (((q2.toUInt32 >>> ((2 : Int32) &&& 31).toUInt32).toInt32) &&& (1 : Int32)) = (0 : Int32)) {target : State} (k : Steps p.tables e below (T.setTop (mkF m 65 #[.val (.int q0), .val (.int q1), .val (.int q2), .val (.int q3), .val (.int x4), .val (.int x5), .val (.int x6), .val (.int x7), .val (.int x8), .unset, .unset, .unset, .unset, .unset, .unset, .unset, .unset, .unset, .unset, .unset, .unset] [(.int ((1 : Int32) + (((q3.toUInt32 >>> ((1 : Int32) &&& 31).toUInt32).toInt32) &&& (1 : Int32))))])) target) : Steps p.tables e below (T.setTop (mkF m 45 #[.val (.int q0), .val (.int q1), .val (.int q2), .val (.int q3), .val (.int x4), .val (.int x5), .val (.int x6), .val (.int x7), .val (.int x8), .unset, .unset, .unset, .unset, .unset, .unset, .unset, .unset, .unset, .unset, .unset, .unset] [])) target := by
  show Steps p.tables e below (T.setTop (mkF m 45 #[.val (.int q0), .val (.int q1), .val (.int q2), .val (.int q3), .val (.int x4), .val (.int x5), .val (.int x6), .val (.int x7), .val (.int x8), .unset, .unset, .unset, .unset, .unset, .unset, .unset, .unset, .unset, .unset, .unset, .unset] [])) _
  refine XS.iloadN X.here hx rfl (hb hby at_45) rfl ?_
  show Steps p.tables e below (T.setTop (mkF m 46 #[.val (.int q0), .val (.int q1), .val (.int q2), .val (.int q3), .val (.int x4), .val (.int x5), .val (.int x6), .val (.int x7), .val (.int x8), .unset, .unset, .unset, .unset, .unset, .unset, .unset, .unset, .unset, .unset, .unset, .unset] [(.int q2)])) _
  refine XS.iconst X.here hx rfl (hb hby at_46) ?_
  show Steps p.tables e below (T.setTop (mkF m 47 #[.val (.int q0), .val (.int q1), .val (.int q2), .val (.int q3), .val (.int x4), .val (.int x5), .val (.int x6), .val (.int x7), .val (.int x8), .unset, .unset, .unset, .unset, .unset, .unset, .unset, .unset, .unset, .unset, .unset, .unset] [(.int (2 : Int32)), (.int q2)])) _
  refine XS.iushr X.here hx rfl (hb hby at_47) rfl ?_
  show Steps p.tables e below (T.setTop (mkF m 48 #[.val (.int q0), .val (.int q1), .val (.int q2), .val (.int q3), .val (.int x4), .val (.int x5), .val (.int x6), .val (.int x7), .val (.int x8), .unset, .unset, .unset, .unset, .unset, .unset, .unset, .unset, .unset, .unset, .unset, .unset] [(.int ((q2.toUInt32 >>> ((2 : Int32) &&& 31).toUInt32).toInt32))])) _
  refine XS.iconst X.here hx rfl (hb hby at_48) ?_
  show Steps p.tables e below (T.setTop (mkF m 49 #[.val (.int q0), .val (.int q1), .val (.int q2), .val (.int q3), .val (.int x4), .val (.int x5), .val (.int x6), .val (.int x7), .val (.int x8), .unset, .unset, .unset, .unset, .unset, .unset, .unset, .unset, .unset, .unset, .unset, .unset] [(.int (1 : Int32)), (.int ((q2.toUInt32 >>> ((2 : Int32) &&& 31).toUInt32).toInt32))])) _
  refine XS.iand X.here hx rfl (hb hby at_49) rfl ?_
  show Steps p.tables e below (T.setTop (mkF m 50 #[.val (.int q0), .val (.int q1), .val (.int q2), .val (.int q3), .val (.int x4), .val (.int x5), .val (.int x6), .val (.int x7), .val (.int x8), .unset, .unset, .unset, .unset, .unset, .unset, .unset, .unset, .unset, .unset, .unset, .unset] [(.int (((q2.toUInt32 >>> ((2 : Int32) &&& 31).toUInt32).toInt32) &&& (1 : Int32)))])) _
  refine XS.ifYes X.here hx rfl (pc0 := 50) (pc' := 58) rfl (hb hby at_50) rfl ((if0 _ _).trans (teq hc50).1) (by decide) (by decide) ?_
  show Steps p.tables e below (T.setTop (mkF m 58 #[.val (.int q0), .val (.int q1), .val (.int q2), .val (.int q3), .val (.int x4), .val (.int x5), .val (.int x6), .val (.int x7), .val (.int x8), .unset, .unset, .unset, .unset, .unset, .unset, .unset, .unset, .unset, .unset, .unset, .unset] [])) _
  refine XS.iconst X.here hx rfl (hb hby at_58) ?_
  show Steps p.tables e below (T.setTop (mkF m 59 #[.val (.int q0), .val (.int q1), .val (.int q2), .val (.int q3), .val (.int x4), .val (.int x5), .val (.int x6), .val (.int x7), .val (.int x8), .unset, .unset, .unset, .unset, .unset, .unset, .unset, .unset, .unset, .unset, .unset, .unset] [(.int (1 : Int32))])) _
  refine XS.iloadN X.here hx rfl (hb hby at_59) rfl ?_
  show Steps p.tables e below (T.setTop (mkF m 60 #[.val (.int q0), .val (.int q1), .val (.int q2), .val (.int q3), .val (.int x4), .val (.int x5), .val (.int x6), .val (.int x7), .val (.int x8), .unset, .unset, .unset, .unset, .unset, .unset, .unset, .unset, .unset, .unset, .unset, .unset] [(.int q3), (.int (1 : Int32))])) _
  refine XS.iconst X.here hx rfl (hb hby at_60) ?_
  show Steps p.tables e below (T.setTop (mkF m 61 #[.val (.int q0), .val (.int q1), .val (.int q2), .val (.int q3), .val (.int x4), .val (.int x5), .val (.int x6), .val (.int x7), .val (.int x8), .unset, .unset, .unset, .unset, .unset, .unset, .unset, .unset, .unset, .unset, .unset, .unset] [(.int (1 : Int32)), (.int q3), (.int (1 : Int32))])) _
  refine XS.iushr X.here hx rfl (hb hby at_61) rfl ?_
  show Steps p.tables e below (T.setTop (mkF m 62 #[.val (.int q0), .val (.int q1), .val (.int q2), .val (.int q3), .val (.int x4), .val (.int x5), .val (.int x6), .val (.int x7), .val (.int x8), .unset, .unset, .unset, .unset, .unset, .unset, .unset, .unset, .unset, .unset, .unset, .unset] [(.int ((q3.toUInt32 >>> ((1 : Int32) &&& 31).toUInt32).toInt32)), (.int (1 : Int32))])) _
  refine XS.iconst X.here hx rfl (hb hby at_62) ?_
  show Steps p.tables e below (T.setTop (mkF m 63 #[.val (.int q0), .val (.int q1), .val (.int q2), .val (.int q3), .val (.int x4), .val (.int x5), .val (.int x6), .val (.int x7), .val (.int x8), .unset, .unset, .unset, .unset, .unset, .unset, .unset, .unset, .unset, .unset, .unset, .unset] [(.int (1 : Int32)), (.int ((q3.toUInt32 >>> ((1 : Int32) &&& 31).toUInt32).toInt32)), (.int (1 : Int32))])) _
  refine XS.iand X.here hx rfl (hb hby at_63) rfl ?_
  show Steps p.tables e below (T.setTop (mkF m 64 #[.val (.int q0), .val (.int q1), .val (.int q2), .val (.int q3), .val (.int x4), .val (.int x5), .val (.int x6), .val (.int x7), .val (.int x8), .unset, .unset, .unset, .unset, .unset, .unset, .unset, .unset, .unset, .unset, .unset, .unset] [(.int (((q3.toUInt32 >>> ((1 : Int32) &&& 31).toUInt32).toInt32) &&& (1 : Int32))), (.int (1 : Int32))])) _
  refine XS.iadd X.here hx rfl (hb hby at_64) rfl ?_
  exact k
set_option maxRecDepth 65536 in
theorem seg45_f {p : Program} {l : Launch} {e : Env} {R : Room} {s : State} {m : MethodId} {args : Array Value} {below : List Frame} {meth : Method} {c : Code} {T : State} {locs : List Loc} {cells slots : Nat} (X : Stand p l e R s m args below meth c T locs cells slots) (hx : p.tables.exec = Jvm.exec) (hby : c.code = code) (q0 q1 q2 q3 x4 x5 x6 x7 x8 : Int32) (hc50 : ¬ ((((q2.toUInt32 >>> ((2 : Int32) &&& 31).toUInt32).toInt32) &&& (1 : Int32)) = (0 : Int32))) {target : State} (k : Steps p.tables e below (T.setTop (mkF m 65 #[.val (.int q0), .val (.int q1), .val (.int q2), .val (.int q3), .val (.int x4), .val (.int x5), .val (.int x6), .val (.int x7), .val (.int x8), .unset, .unset, .unset, .unset, .unset, .unset, .unset, .unset, .unset, .unset, .unset, .unset] [(.int x8)])) target) : Steps p.tables e below (T.setTop (mkF m 45 #[.val (.int q0), .val (.int q1), .val (.int q2), .val (.int q3), .val (.int x4), .val (.int x5), .val (.int x6), .val (.int x7), .val (.int x8), .unset, .unset, .unset, .unset, .unset, .unset, .unset, .unset, .unset, .unset, .unset, .unset] [])) target := by
  show Steps p.tables e below (T.setTop (mkF m 45 #[.val (.int q0), .val (.int q1), .val (.int q2), .val (.int q3), .val (.int x4), .val (.int x5), .val (.int x6), .val (.int x7), .val (.int x8), .unset, .unset, .unset, .unset, .unset, .unset, .unset, .unset, .unset, .unset, .unset, .unset] [])) _
  refine XS.iloadN X.here hx rfl (hb hby at_45) rfl ?_
  show Steps p.tables e below (T.setTop (mkF m 46 #[.val (.int q0), .val (.int q1), .val (.int q2), .val (.int q3), .val (.int x4), .val (.int x5), .val (.int x6), .val (.int x7), .val (.int x8), .unset, .unset, .unset, .unset, .unset, .unset, .unset, .unset, .unset, .unset, .unset, .unset] [(.int q2)])) _
  refine XS.iconst X.here hx rfl (hb hby at_46) ?_
  show Steps p.tables e below (T.setTop (mkF m 47 #[.val (.int q0), .val (.int q1), .val (.int q2), .val (.int q3), .val (.int x4), .val (.int x5), .val (.int x6), .val (.int x7), .val (.int x8), .unset, .unset, .unset, .unset, .unset, .unset, .unset, .unset, .unset, .unset, .unset, .unset] [(.int (2 : Int32)), (.int q2)])) _
  refine XS.iushr X.here hx rfl (hb hby at_47) rfl ?_
  show Steps p.tables e below (T.setTop (mkF m 48 #[.val (.int q0), .val (.int q1), .val (.int q2), .val (.int q3), .val (.int x4), .val (.int x5), .val (.int x6), .val (.int x7), .val (.int x8), .unset, .unset, .unset, .unset, .unset, .unset, .unset, .unset, .unset, .unset, .unset, .unset] [(.int ((q2.toUInt32 >>> ((2 : Int32) &&& 31).toUInt32).toInt32))])) _
  refine XS.iconst X.here hx rfl (hb hby at_48) ?_
  show Steps p.tables e below (T.setTop (mkF m 49 #[.val (.int q0), .val (.int q1), .val (.int q2), .val (.int q3), .val (.int x4), .val (.int x5), .val (.int x6), .val (.int x7), .val (.int x8), .unset, .unset, .unset, .unset, .unset, .unset, .unset, .unset, .unset, .unset, .unset, .unset] [(.int (1 : Int32)), (.int ((q2.toUInt32 >>> ((2 : Int32) &&& 31).toUInt32).toInt32))])) _
  refine XS.iand X.here hx rfl (hb hby at_49) rfl ?_
  show Steps p.tables e below (T.setTop (mkF m 50 #[.val (.int q0), .val (.int q1), .val (.int q2), .val (.int q3), .val (.int x4), .val (.int x5), .val (.int x6), .val (.int x7), .val (.int x8), .unset, .unset, .unset, .unset, .unset, .unset, .unset, .unset, .unset, .unset, .unset, .unset] [(.int (((q2.toUInt32 >>> ((2 : Int32) &&& 31).toUInt32).toInt32) &&& (1 : Int32)))])) _
  refine XS.ifNo X.here hx rfl (hb hby at_50) rfl ((if0 _ _).trans (feq hc50).1) ?_
  show Steps p.tables e below (T.setTop (mkF m 53 #[.val (.int q0), .val (.int q1), .val (.int q2), .val (.int q3), .val (.int x4), .val (.int x5), .val (.int x6), .val (.int x7), .val (.int x8), .unset, .unset, .unset, .unset, .unset, .unset, .unset, .unset, .unset, .unset, .unset, .unset] [])) _
  refine XS.iload X.here hx rfl (hb hby at_53) rfl ?_
  show Steps p.tables e below (T.setTop (mkF m 55 #[.val (.int q0), .val (.int q1), .val (.int q2), .val (.int q3), .val (.int x4), .val (.int x5), .val (.int x6), .val (.int x7), .val (.int x8), .unset, .unset, .unset, .unset, .unset, .unset, .unset, .unset, .unset, .unset, .unset, .unset] [(.int x8)])) _
  refine XS.goto X.here hx rfl (pc0 := 55) (pc' := 65) rfl (hb hby at_55) (by decide) (by decide) ?_
  exact k
theorem seg45 {p : Program} {l : Launch} {e : Env} {R : Room} {s : State} {m : MethodId} {args : Array Value} {below : List Frame} {meth : Method} {c : Code} {T : State} {locs : List Loc} {cells slots : Nat} (X : Stand p l e R s m args below meth c T locs cells slots) (hx : p.tables.exec = Jvm.exec) (hby : c.code = code) (q0 q1 q2 q3 x4 x5 x6 x7 x8 x9 : Int32) (hv : x9 = if (((q2.toUInt32 >>> ((2 : Int32) &&& 31).toUInt32).toInt32) &&& (1 : Int32)) = (0 : Int32) then ((1 : Int32) + (((q3.toUInt32 >>> ((1 : Int32) &&& 31).toUInt32).toInt32) &&& (1 : Int32))) else x8) {target : State} (k : Steps p.tables e below (T.setTop (mkF m 65 #[.val (.int q0), .val (.int q1), .val (.int q2), .val (.int q3), .val (.int x4), .val (.int x5), .val (.int x6), .val (.int x7), .val (.int x8), .unset, .unset, .unset, .unset, .unset, .unset, .unset, .unset, .unset, .unset, .unset, .unset] [(.int x9)])) target) : Steps p.tables e below (T.setTop (mkF m 45 #[.val (.int q0), .val (.int q1), .val (.int q2), .val (.int q3), .val (.int x4), .val (.int x5), .val (.int x6), .val (.int x7), .val (.int x8), .unset, .unset, .unset, .unset, .unset, .unset, .unset, .unset, .unset, .unset, .unset, .unset] [])) target := by
  by_cases hb : (((q2.toUInt32 >>> ((2 : Int32) &&& 31).toUInt32).toInt32) &&& (1 : Int32)) = (0 : Int32)
  · rw [if_pos hb] at hv; rw [hv] at k; exact seg45_t X hx hby q0 q1 q2 q3 x4 x5 x6 x7 x8 hb k
  · rw [if_neg hb] at hv; rw [hv] at k; exact seg45_f X hx hby q0 q1 q2 q3 x4 x5 x6 x7 x8 hb k
set_option maxRecDepth 65536 in
theorem seg67_t {p : Program} {l : Launch} {e : Env} {R : Room} {s : State} {m : MethodId} {args : Array Value} {below : List Frame} {meth : Method} {c : Code} {T : State} {locs : List Loc} {cells slots : Nat} (X : Stand p l e R s m args below meth c T locs cells slots) (hx : p.tables.exec = Jvm.exec) (hby : c.code = code) (q0 q1 q2 q3 x4 x5 x6 x7 x8 x9 : Int32) (hc70 : (q2 &&& (1 : Int32)) = (0 : Int32)) {target : State} (k : Steps p.tables e below (T.setTop (mkF m 80 #[.val (.int q0), .val (.int q1), .val (.int q2), .val (.int q3), .val (.int x4), .val (.int x5), .val (.int x6), .val (.int x7), .val (.int x8), .val (.int x9), .unset, .unset, .unset, .unset, .unset, .unset, .unset, .unset, .unset, .unset, .unset] [(.int x6)])) target) : Steps p.tables e below (T.setTop (mkF m 67 #[.val (.int q0), .val (.int q1), .val (.int q2), .val (.int q3), .val (.int x4), .val (.int x5), .val (.int x6), .val (.int x7), .val (.int x8), .val (.int x9), .unset, .unset, .unset, .unset, .unset, .unset, .unset, .unset, .unset, .unset, .unset] [])) target := by
  show Steps p.tables e below (T.setTop (mkF m 67 #[.val (.int q0), .val (.int q1), .val (.int q2), .val (.int q3), .val (.int x4), .val (.int x5), .val (.int x6), .val (.int x7), .val (.int x8), .val (.int x9), .unset, .unset, .unset, .unset, .unset, .unset, .unset, .unset, .unset, .unset, .unset] [])) _
  refine XS.iloadN X.here hx rfl (hb hby at_67) rfl ?_
  show Steps p.tables e below (T.setTop (mkF m 68 #[.val (.int q0), .val (.int q1), .val (.int q2), .val (.int q3), .val (.int x4), .val (.int x5), .val (.int x6), .val (.int x7), .val (.int x8), .val (.int x9), .unset, .unset, .unset, .unset, .unset, .unset, .unset, .unset, .unset, .unset, .unset] [(.int q2)])) _
  refine XS.iconst X.here hx rfl (hb hby at_68) ?_
  show Steps p.tables e below (T.setTop (mkF m 69 #[.val (.int q0), .val (.int q1), .val (.int q2), .val (.int q3), .val (.int x4), .val (.int x5), .val (.int x6), .val (.int x7), .val (.int x8), .val (.int x9), .unset, .unset, .unset, .unset, .unset, .unset, .unset, .unset, .unset, .unset, .unset] [(.int (1 : Int32)), (.int q2)])) _
  refine XS.iand X.here hx rfl (hb hby at_69) rfl ?_
  show Steps p.tables e below (T.setTop (mkF m 70 #[.val (.int q0), .val (.int q1), .val (.int q2), .val (.int q3), .val (.int x4), .val (.int x5), .val (.int x6), .val (.int x7), .val (.int x8), .val (.int x9), .unset, .unset, .unset, .unset, .unset, .unset, .unset, .unset, .unset, .unset, .unset] [(.int (q2 &&& (1 : Int32)))])) _
  refine XS.ifYes X.here hx rfl (pc0 := 70) (pc' := 78) rfl (hb hby at_70) rfl ((if0 _ _).trans (teq hc70).1) (by decide) (by decide) ?_
  show Steps p.tables e below (T.setTop (mkF m 78 #[.val (.int q0), .val (.int q1), .val (.int q2), .val (.int q3), .val (.int x4), .val (.int x5), .val (.int x6), .val (.int x7), .val (.int x8), .val (.int x9), .unset, .unset, .unset, .unset, .unset, .unset, .unset, .unset, .unset, .unset, .unset] [])) _
  refine XS.iload X.here hx rfl (hb hby at_78) rfl ?_
  exact k
set_option maxRecDepth 65536 in
theorem seg67_f {p : Program} {l : Launch} {e : Env} {R : Room} {s : State} {m : MethodId} {args : Array Value} {below : List Frame} {meth : Method} {c : Code} {T : State} {locs : List Loc} {cells slots : Nat} (X : Stand p l e R s m args below meth c T locs cells slots) (hx : p.tables.exec = Jvm.exec) (hby : c.code = code) (q0 q1 q2 q3 x4 x5 x6 x7 x8 x9 : Int32) (hc70 : ¬ ((q2 &&& (1 : Int32)) = (0 : Int32))) {target : State} (k : Steps p.tables e below (T.setTop (mkF m 80 #[.val (.int q0), .val (.int q1), .val (.int q2), .val (.int q3), .val (.int x4), .val (.int x5), .val (.int x6), .val (.int x7), .val (.int x8), .val (.int x9), .unset, .unset, .unset, .unset, .unset, .unset, .unset, .unset, .unset, .unset, .unset] [(.int x4)])) target) : Steps p.tables e below (T.setTop (mkF m 67 #[.val (.int q0), .val (.int q1), .val (.int q2), .val (.int q3), .val (.int x4), .val (.int x5), .val (.int x6), .val (.int x7), .val (.int x8), .val (.int x9), .unset, .unset, .unset, .unset, .unset, .unset, .unset, .unset, .unset, .unset, .unset] [])) target := by
  show Steps p.tables e below (T.setTop (mkF m 67 #[.val (.int q0), .val (.int q1), .val (.int q2), .val (.int q3), .val (.int x4), .val (.int x5), .val (.int x6), .val (.int x7), .val (.int x8), .val (.int x9), .unset, .unset, .unset, .unset, .unset, .unset, .unset, .unset, .unset, .unset, .unset] [])) _
  refine XS.iloadN X.here hx rfl (hb hby at_67) rfl ?_
  show Steps p.tables e below (T.setTop (mkF m 68 #[.val (.int q0), .val (.int q1), .val (.int q2), .val (.int q3), .val (.int x4), .val (.int x5), .val (.int x6), .val (.int x7), .val (.int x8), .val (.int x9), .unset, .unset, .unset, .unset, .unset, .unset, .unset, .unset, .unset, .unset, .unset] [(.int q2)])) _
  refine XS.iconst X.here hx rfl (hb hby at_68) ?_
  show Steps p.tables e below (T.setTop (mkF m 69 #[.val (.int q0), .val (.int q1), .val (.int q2), .val (.int q3), .val (.int x4), .val (.int x5), .val (.int x6), .val (.int x7), .val (.int x8), .val (.int x9), .unset, .unset, .unset, .unset, .unset, .unset, .unset, .unset, .unset, .unset, .unset] [(.int (1 : Int32)), (.int q2)])) _
  refine XS.iand X.here hx rfl (hb hby at_69) rfl ?_
  show Steps p.tables e below (T.setTop (mkF m 70 #[.val (.int q0), .val (.int q1), .val (.int q2), .val (.int q3), .val (.int x4), .val (.int x5), .val (.int x6), .val (.int x7), .val (.int x8), .val (.int x9), .unset, .unset, .unset, .unset, .unset, .unset, .unset, .unset, .unset, .unset, .unset] [(.int (q2 &&& (1 : Int32)))])) _
  refine XS.ifNo X.here hx rfl (hb hby at_70) rfl ((if0 _ _).trans (feq hc70).1) ?_
  show Steps p.tables e below (T.setTop (mkF m 73 #[.val (.int q0), .val (.int q1), .val (.int q2), .val (.int q3), .val (.int x4), .val (.int x5), .val (.int x6), .val (.int x7), .val (.int x8), .val (.int x9), .unset, .unset, .unset, .unset, .unset, .unset, .unset, .unset, .unset, .unset, .unset] [])) _
  refine XS.iload X.here hx rfl (hb hby at_73) rfl ?_
  show Steps p.tables e below (T.setTop (mkF m 75 #[.val (.int q0), .val (.int q1), .val (.int q2), .val (.int q3), .val (.int x4), .val (.int x5), .val (.int x6), .val (.int x7), .val (.int x8), .val (.int x9), .unset, .unset, .unset, .unset, .unset, .unset, .unset, .unset, .unset, .unset, .unset] [(.int x4)])) _
  refine XS.goto X.here hx rfl (pc0 := 75) (pc' := 80) rfl (hb hby at_75) (by decide) (by decide) ?_
  exact k
theorem seg67 {p : Program} {l : Launch} {e : Env} {R : Room} {s : State} {m : MethodId} {args : Array Value} {below : List Frame} {meth : Method} {c : Code} {T : State} {locs : List Loc} {cells slots : Nat} (X : Stand p l e R s m args below meth c T locs cells slots) (hx : p.tables.exec = Jvm.exec) (hby : c.code = code) (q0 q1 q2 q3 x4 x5 x6 x7 x8 x9 x10 : Int32) (hv : x10 = if (q2 &&& (1 : Int32)) = (0 : Int32) then x6 else x4) {target : State} (k : Steps p.tables e below (T.setTop (mkF m 80 #[.val (.int q0), .val (.int q1), .val (.int q2), .val (.int q3), .val (.int x4), .val (.int x5), .val (.int x6), .val (.int x7), .val (.int x8), .val (.int x9), .unset, .unset, .unset, .unset, .unset, .unset, .unset, .unset, .unset, .unset, .unset] [(.int x10)])) target) : Steps p.tables e below (T.setTop (mkF m 67 #[.val (.int q0), .val (.int q1), .val (.int q2), .val (.int q3), .val (.int x4), .val (.int x5), .val (.int x6), .val (.int x7), .val (.int x8), .val (.int x9), .unset, .unset, .unset, .unset, .unset, .unset, .unset, .unset, .unset, .unset, .unset] [])) target := by
  by_cases hb : (q2 &&& (1 : Int32)) = (0 : Int32)
  · rw [if_pos hb] at hv; rw [hv] at k; exact seg67_t X hx hby q0 q1 q2 q3 x4 x5 x6 x7 x8 x9 hb k
  · rw [if_neg hb] at hv; rw [hv] at k; exact seg67_f X hx hby q0 q1 q2 q3 x4 x5 x6 x7 x8 x9 hb k
set_option maxRecDepth 65536 in
theorem seg82_t {p : Program} {l : Launch} {e : Env} {R : Room} {s : State} {m : MethodId} {args : Array Value} {below : List Frame} {meth : Method} {c : Code} {T : State} {locs : List Loc} {cells slots : Nat} (X : Stand p l e R s m args below meth c T locs cells slots) (hx : p.tables.exec = Jvm.exec) (hby : c.code = code) (q0 q1 q2 q3 x4 x5 x6 x7 x8 x9 x10 : Int32) (hc87 : (((q2.toUInt32 >>> ((1 : Int32) &&& 31).toUInt32).toInt32) &&& (1 : Int32)) = (0 : Int32)) {target : State} (k : Steps p.tables e below (T.setTop (mkF m 97 #[.val (.int q0), .val (.int q1), .val (.int q2), .val (.int q3), .val (.int x4), .val (.int x5), .val (.int x6), .val (.int x7), .val (.int x8), .val (.int x9), .val (.int x10), .unset, .unset, .unset, .unset, .unset, .unset, .unset, .unset, .unset, .unset] [(.int x7)])) target) : Steps p.tables e below (T.setTop (mkF m 82 #[.val (.int q0), .val (.int q1), .val (.int q2), .val (.int q3), .val (.int x4), .val (.int x5), .val (.int x6), .val (.int x7), .val (.int x8), .val (.int x9), .val (.int x10), .unset, .unset, .unset, .unset, .unset, .unset, .unset, .unset, .unset, .unset] [])) target := by
  show Steps p.tables e below (T.setTop (mkF m 82 #[.val (.int q0), .val (.int q1), .val (.int q2), .val (.int q3), .val (.int x4), .val (.int x5), .val (.int x6), .val (.int x7), .val (.int x8), .val (.int x9), .val (.int x10), .unset, .unset, .unset, .unset, .unset, .unset, .unset, .unset, .unset, .unset] [])) _
  refine XS.iloadN X.here hx rfl (hb hby at_82) rfl ?_
  show Steps p.tables e below (T.setTop (mkF m 83 #[.val (.int q0), .val (.int q1), .val (.int q2), .val (.int q3), .val (.int x4), .val (.int x5), .val (.int x6), .val (.int x7), .val (.int x8), .val (.int x9), .val (.int x10), .unset, .unset, .unset, .unset, .unset, .unset, .unset, .unset, .unset, .unset] [(.int q2)])) _
  refine XS.iconst X.here hx rfl (hb hby at_83) ?_
  show Steps p.tables e below (T.setTop (mkF m 84 #[.val (.int q0), .val (.int q1), .val (.int q2), .val (.int q3), .val (.int x4), .val (.int x5), .val (.int x6), .val (.int x7), .val (.int x8), .val (.int x9), .val (.int x10), .unset, .unset, .unset, .unset, .unset, .unset, .unset, .unset, .unset, .unset] [(.int (1 : Int32)), (.int q2)])) _
  refine XS.iushr X.here hx rfl (hb hby at_84) rfl ?_
  show Steps p.tables e below (T.setTop (mkF m 85 #[.val (.int q0), .val (.int q1), .val (.int q2), .val (.int q3), .val (.int x4), .val (.int x5), .val (.int x6), .val (.int x7), .val (.int x8), .val (.int x9), .val (.int x10), .unset, .unset, .unset, .unset, .unset, .unset, .unset, .unset, .unset, .unset] [(.int ((q2.toUInt32 >>> ((1 : Int32) &&& 31).toUInt32).toInt32))])) _
  refine XS.iconst X.here hx rfl (hb hby at_85) ?_
  show Steps p.tables e below (T.setTop (mkF m 86 #[.val (.int q0), .val (.int q1), .val (.int q2), .val (.int q3), .val (.int x4), .val (.int x5), .val (.int x6), .val (.int x7), .val (.int x8), .val (.int x9), .val (.int x10), .unset, .unset, .unset, .unset, .unset, .unset, .unset, .unset, .unset, .unset] [(.int (1 : Int32)), (.int ((q2.toUInt32 >>> ((1 : Int32) &&& 31).toUInt32).toInt32))])) _
  refine XS.iand X.here hx rfl (hb hby at_86) rfl ?_
  show Steps p.tables e below (T.setTop (mkF m 87 #[.val (.int q0), .val (.int q1), .val (.int q2), .val (.int q3), .val (.int x4), .val (.int x5), .val (.int x6), .val (.int x7), .val (.int x8), .val (.int x9), .val (.int x10), .unset, .unset, .unset, .unset, .unset, .unset, .unset, .unset, .unset, .unset] [(.int (((q2.toUInt32 >>> ((1 : Int32) &&& 31).toUInt32).toInt32) &&& (1 : Int32)))])) _
  refine XS.ifYes X.here hx rfl (pc0 := 87) (pc' := 95) rfl (hb hby at_87) rfl ((if0 _ _).trans (teq hc87).1) (by decide) (by decide) ?_
  show Steps p.tables e below (T.setTop (mkF m 95 #[.val (.int q0), .val (.int q1), .val (.int q2), .val (.int q3), .val (.int x4), .val (.int x5), .val (.int x6), .val (.int x7), .val (.int x8), .val (.int x9), .val (.int x10), .unset, .unset, .unset, .unset, .unset, .unset, .unset, .unset, .unset, .unset] [])) _
  refine XS.iload X.here hx rfl (hb hby at_95) rfl ?_
  exact k
set_option maxRecDepth 65536 in
theorem seg82_f {p : Program} {l : Launch} {e : Env} {R : Room} {s : State} {m : MethodId} {args : Array Value} {below : List Frame} {meth : Method} {c : Code} {T : State} {locs : List Loc} {cells slots : Nat} (X : Stand p l e R s m args below meth c T locs cells slots) (hx : p.tables.exec = Jvm.exec) (hby : c.code = code) (q0 q1 q2 q3 x4 x5 x6 x7 x8 x9 x10 : Int32) (hc87 : ¬ ((((q2.toUInt32 >>> ((1 : Int32) &&& 31).toUInt32).toInt32) &&& (1 : Int32)) = (0 : Int32))) {target : State} (k : Steps p.tables e below (T.setTop (mkF m 97 #[.val (.int q0), .val (.int q1), .val (.int q2), .val (.int q3), .val (.int x4), .val (.int x5), .val (.int x6), .val (.int x7), .val (.int x8), .val (.int x9), .val (.int x10), .unset, .unset, .unset, .unset, .unset, .unset, .unset, .unset, .unset, .unset] [(.int x5)])) target) : Steps p.tables e below (T.setTop (mkF m 82 #[.val (.int q0), .val (.int q1), .val (.int q2), .val (.int q3), .val (.int x4), .val (.int x5), .val (.int x6), .val (.int x7), .val (.int x8), .val (.int x9), .val (.int x10), .unset, .unset, .unset, .unset, .unset, .unset, .unset, .unset, .unset, .unset] [])) target := by
  show Steps p.tables e below (T.setTop (mkF m 82 #[.val (.int q0), .val (.int q1), .val (.int q2), .val (.int q3), .val (.int x4), .val (.int x5), .val (.int x6), .val (.int x7), .val (.int x8), .val (.int x9), .val (.int x10), .unset, .unset, .unset, .unset, .unset, .unset, .unset, .unset, .unset, .unset] [])) _
  refine XS.iloadN X.here hx rfl (hb hby at_82) rfl ?_
  show Steps p.tables e below (T.setTop (mkF m 83 #[.val (.int q0), .val (.int q1), .val (.int q2), .val (.int q3), .val (.int x4), .val (.int x5), .val (.int x6), .val (.int x7), .val (.int x8), .val (.int x9), .val (.int x10), .unset, .unset, .unset, .unset, .unset, .unset, .unset, .unset, .unset, .unset] [(.int q2)])) _
  refine XS.iconst X.here hx rfl (hb hby at_83) ?_
  show Steps p.tables e below (T.setTop (mkF m 84 #[.val (.int q0), .val (.int q1), .val (.int q2), .val (.int q3), .val (.int x4), .val (.int x5), .val (.int x6), .val (.int x7), .val (.int x8), .val (.int x9), .val (.int x10), .unset, .unset, .unset, .unset, .unset, .unset, .unset, .unset, .unset, .unset] [(.int (1 : Int32)), (.int q2)])) _
  refine XS.iushr X.here hx rfl (hb hby at_84) rfl ?_
  show Steps p.tables e below (T.setTop (mkF m 85 #[.val (.int q0), .val (.int q1), .val (.int q2), .val (.int q3), .val (.int x4), .val (.int x5), .val (.int x6), .val (.int x7), .val (.int x8), .val (.int x9), .val (.int x10), .unset, .unset, .unset, .unset, .unset, .unset, .unset, .unset, .unset, .unset] [(.int ((q2.toUInt32 >>> ((1 : Int32) &&& 31).toUInt32).toInt32))])) _
  refine XS.iconst X.here hx rfl (hb hby at_85) ?_
  show Steps p.tables e below (T.setTop (mkF m 86 #[.val (.int q0), .val (.int q1), .val (.int q2), .val (.int q3), .val (.int x4), .val (.int x5), .val (.int x6), .val (.int x7), .val (.int x8), .val (.int x9), .val (.int x10), .unset, .unset, .unset, .unset, .unset, .unset, .unset, .unset, .unset, .unset] [(.int (1 : Int32)), (.int ((q2.toUInt32 >>> ((1 : Int32) &&& 31).toUInt32).toInt32))])) _
  refine XS.iand X.here hx rfl (hb hby at_86) rfl ?_
  show Steps p.tables e below (T.setTop (mkF m 87 #[.val (.int q0), .val (.int q1), .val (.int q2), .val (.int q3), .val (.int x4), .val (.int x5), .val (.int x6), .val (.int x7), .val (.int x8), .val (.int x9), .val (.int x10), .unset, .unset, .unset, .unset, .unset, .unset, .unset, .unset, .unset, .unset] [(.int (((q2.toUInt32 >>> ((1 : Int32) &&& 31).toUInt32).toInt32) &&& (1 : Int32)))])) _
  refine XS.ifNo X.here hx rfl (hb hby at_87) rfl ((if0 _ _).trans (feq hc87).1) ?_
  show Steps p.tables e below (T.setTop (mkF m 90 #[.val (.int q0), .val (.int q1), .val (.int q2), .val (.int q3), .val (.int x4), .val (.int x5), .val (.int x6), .val (.int x7), .val (.int x8), .val (.int x9), .val (.int x10), .unset, .unset, .unset, .unset, .unset, .unset, .unset, .unset, .unset, .unset] [])) _
  refine XS.iload X.here hx rfl (hb hby at_90) rfl ?_
  show Steps p.tables e below (T.setTop (mkF m 92 #[.val (.int q0), .val (.int q1), .val (.int q2), .val (.int q3), .val (.int x4), .val (.int x5), .val (.int x6), .val (.int x7), .val (.int x8), .val (.int x9), .val (.int x10), .unset, .unset, .unset, .unset, .unset, .unset, .unset, .unset, .unset, .unset] [(.int x5)])) _
  refine XS.goto X.here hx rfl (pc0 := 92) (pc' := 97) rfl (hb hby at_92) (by decide) (by decide) ?_
  exact k
theorem seg82 {p : Program} {l : Launch} {e : Env} {R : Room} {s : State} {m : MethodId} {args : Array Value} {below : List Frame} {meth : Method} {c : Code} {T : State} {locs : List Loc} {cells slots : Nat} (X : Stand p l e R s m args below meth c T locs cells slots) (hx : p.tables.exec = Jvm.exec) (hby : c.code = code) (q0 q1 q2 q3 x4 x5 x6 x7 x8 x9 x10 x11 : Int32) (hv : x11 = if (((q2.toUInt32 >>> ((1 : Int32) &&& 31).toUInt32).toInt32) &&& (1 : Int32)) = (0 : Int32) then x7 else x5) {target : State} (k : Steps p.tables e below (T.setTop (mkF m 97 #[.val (.int q0), .val (.int q1), .val (.int q2), .val (.int q3), .val (.int x4), .val (.int x5), .val (.int x6), .val (.int x7), .val (.int x8), .val (.int x9), .val (.int x10), .unset, .unset, .unset, .unset, .unset, .unset, .unset, .unset, .unset, .unset] [(.int x11)])) target) : Steps p.tables e below (T.setTop (mkF m 82 #[.val (.int q0), .val (.int q1), .val (.int q2), .val (.int q3), .val (.int x4), .val (.int x5), .val (.int x6), .val (.int x7), .val (.int x8), .val (.int x9), .val (.int x10), .unset, .unset, .unset, .unset, .unset, .unset, .unset, .unset, .unset, .unset] [])) target := by
  by_cases hb : (((q2.toUInt32 >>> ((1 : Int32) &&& 31).toUInt32).toInt32) &&& (1 : Int32)) = (0 : Int32)
  · rw [if_pos hb] at hv; rw [hv] at k; exact seg82_t X hx hby q0 q1 q2 q3 x4 x5 x6 x7 x8 x9 x10 hb k
  · rw [if_neg hb] at hv; rw [hv] at k; exact seg82_f X hx hby q0 q1 q2 q3 x4 x5 x6 x7 x8 x9 x10 hb k
set_option maxRecDepth 65536 in
theorem seg99_t {p : Program} {l : Launch} {e : Env} {R : Room} {s : State} {m : MethodId} {args : Array Value} {below : List Frame} {meth : Method} {c : Code} {T : State} {locs : List Loc} {cells slots : Nat} (X : Stand p l e R s m args below meth c T locs cells slots) (hx : p.tables.exec = Jvm.exec) (hby : c.code = code) (q0 q1 q2 q3 x4 x5 x6 x7 x8 x9 x10 x11 : Int32) (hc104 : (((q3.toUInt32 >>> ((2 : Int32) &&& 31).toUInt32).toInt32) &&& (1 : Int32)) = (0 : Int32)) {target : State} (k : Steps p.tables e below (T.setTop (mkF m 112 #[.val (.int q0), .val (.int q1), .val (.int q2), .val (.int q3), .val (.int x4), .val (.int x5), .val (.int x6), .val (.int x7), .val (.int x8), .val (.int x9), .val (.int x10), .val (.int x11), .unset, .unset, .unset, .unset, .unset, .unset, .unset, .unset, .unset] [(.int (0 : Int32))])) target) : Steps p.tables e below (T.setTop (mkF m 99 #[.val (.int q0), .val (.int q1), .val (.int q2), .val (.int q3), .val (.int x4), .val (.int x5), .val (.int x6), .val (.int x7), .val (.int x8), .val (.int x9), .val (.int x10), .val (.int x11), .unset, .unset, .unset, .unset, .unset, .unset, .unset, .unset, .unset] [])) target := by
  show Steps p.tables e below (T.setTop (mkF m 99 #[.val (.int q0), .val (.int q1), .val (.int q2), .val (.int q3), .val (.int x4), .val (.int x5), .val (.int x6), .val (.int x7), .val (.int x8), .val (.int x9), .val (.int x10), .val (.int x11), .unset, .unset, .unset, .unset, .unset, .unset, .unset, .unset, .unset] [])) _
  refine XS.iloadN X.here hx rfl (hb hby at_99) rfl ?_
  show Steps p.tables e below (T.setTop (mkF m 100 #[.val (.int q0), .val (.int q1), .val (.int q2), .val (.int q3), .val (.int x4), .val (.int x5), .val (.int x6), .val (.int x7), .val (.int x8), .val (.int x9), .val (.int x10), .val (.int x11), .unset, .unset, .unset, .unset, .unset, .unset, .unset, .unset, .unset] [(.int q3)])) _
  refine XS.iconst X.here hx rfl (hb hby at_100) ?_
  show Steps p.tables e below (T.setTop (mkF m 101 #[.val (.int q0), .val (.int q1), .val (.int q2), .val (.int q3), .val (.int x4), .val (.int x5), .val (.int x6), .val (.int x7), .val (.int x8), .val (.int x9), .val (.int x10), .val (.int x11), .unset, .unset, .unset, .unset, .unset, .unset, .unset, .unset, .unset] [(.int (2 : Int32)), (.int q3)])) _
  refine XS.iushr X.here hx rfl (hb hby at_101) rfl ?_
  show Steps p.tables e below (T.setTop (mkF m 102 #[.val (.int q0), .val (.int q1), .val (.int q2), .val (.int q3), .val (.int x4), .val (.int x5), .val (.int x6), .val (.int x7), .val (.int x8), .val (.int x9), .val (.int x10), .val (.int x11), .unset, .unset, .unset, .unset, .unset, .unset, .unset, .unset, .unset] [(.int ((q3.toUInt32 >>> ((2 : Int32) &&& 31).toUInt32).toInt32))])) _
  refine XS.iconst X.here hx rfl (hb hby at_102) ?_
  show Steps p.tables e below (T.setTop (mkF m 103 #[.val (.int q0), .val (.int q1), .val (.int q2), .val (.int q3), .val (.int x4), .val (.int x5), .val (.int x6), .val (.int x7), .val (.int x8), .val (.int x9), .val (.int x10), .val (.int x11), .unset, .unset, .unset, .unset, .unset, .unset, .unset, .unset, .unset] [(.int (1 : Int32)), (.int ((q3.toUInt32 >>> ((2 : Int32) &&& 31).toUInt32).toInt32))])) _
  refine XS.iand X.here hx rfl (hb hby at_103) rfl ?_
  show Steps p.tables e below (T.setTop (mkF m 104 #[.val (.int q0), .val (.int q1), .val (.int q2), .val (.int q3), .val (.int x4), .val (.int x5), .val (.int x6), .val (.int x7), .val (.int x8), .val (.int x9), .val (.int x10), .val (.int x11), .unset, .unset, .unset, .unset, .unset, .unset, .unset, .unset, .unset] [(.int (((q3.toUInt32 >>> ((2 : Int32) &&& 31).toUInt32).toInt32) &&& (1 : Int32)))])) _
  refine XS.ifYes X.here hx rfl (pc0 := 104) (pc' := 111) rfl (hb hby at_104) rfl ((if0 _ _).trans (teq hc104).1) (by decide) (by decide) ?_
  show Steps p.tables e below (T.setTop (mkF m 111 #[.val (.int q0), .val (.int q1), .val (.int q2), .val (.int q3), .val (.int x4), .val (.int x5), .val (.int x6), .val (.int x7), .val (.int x8), .val (.int x9), .val (.int x10), .val (.int x11), .unset, .unset, .unset, .unset, .unset, .unset, .unset, .unset, .unset] [])) _
  refine XS.iconst X.here hx rfl (hb hby at_111) ?_
  exact k
set_option maxRecDepth 65536 in
theorem seg99_f {p : Program} {l : Launch} {e : Env} {R : Room} {s : State} {m : MethodId} {args : Array Value} {below : List Frame} {meth : Method} {c : Code} {T : State} {locs : List Loc} {cells slots : Nat} (X : Stand p l e R s m args below meth c T locs cells slots) (hx : p.tables.exec = Jvm.exec) (hby : c.code = code) (q0 q1 q2 q3 x4 x5 x6 x7 x8 x9 x10 x11 : Int32) (hc104 : ¬ ((((q3.toUInt32 >>> ((2 : Int32) &&& 31).toUInt32).toInt32) &&& (1 : Int32)) = (0 : Int32))) {target : State} (k : Steps p.tables e below (T.setTop (mkF m 112 #[.val (.int q0), .val (.int q1), .val (.int q2), .val (.int q3), .val (.int x4), .val (.int x5), .val (.int x6), .val (.int x7), .val (.int x8), .val (.int x9), .val (.int x10), .val (.int x11), .unset, .unset, .unset, .unset, .unset, .unset, .unset, .unset, .unset] [(.int (1 : Int32))])) target) : Steps p.tables e below (T.setTop (mkF m 99 #[.val (.int q0), .val (.int q1), .val (.int q2), .val (.int q3), .val (.int x4), .val (.int x5), .val (.int x6), .val (.int x7), .val (.int x8), .val (.int x9), .val (.int x10), .val (.int x11), .unset, .unset, .unset, .unset, .unset, .unset, .unset, .unset, .unset] [])) target := by
  show Steps p.tables e below (T.setTop (mkF m 99 #[.val (.int q0), .val (.int q1), .val (.int q2), .val (.int q3), .val (.int x4), .val (.int x5), .val (.int x6), .val (.int x7), .val (.int x8), .val (.int x9), .val (.int x10), .val (.int x11), .unset, .unset, .unset, .unset, .unset, .unset, .unset, .unset, .unset] [])) _
  refine XS.iloadN X.here hx rfl (hb hby at_99) rfl ?_
  show Steps p.tables e below (T.setTop (mkF m 100 #[.val (.int q0), .val (.int q1), .val (.int q2), .val (.int q3), .val (.int x4), .val (.int x5), .val (.int x6), .val (.int x7), .val (.int x8), .val (.int x9), .val (.int x10), .val (.int x11), .unset, .unset, .unset, .unset, .unset, .unset, .unset, .unset, .unset] [(.int q3)])) _
  refine XS.iconst X.here hx rfl (hb hby at_100) ?_
  show Steps p.tables e below (T.setTop (mkF m 101 #[.val (.int q0), .val (.int q1), .val (.int q2), .val (.int q3), .val (.int x4), .val (.int x5), .val (.int x6), .val (.int x7), .val (.int x8), .val (.int x9), .val (.int x10), .val (.int x11), .unset, .unset, .unset, .unset, .unset, .unset, .unset, .unset, .unset] [(.int (2 : Int32)), (.int q3)])) _
  refine XS.iushr X.here hx rfl (hb hby at_101) rfl ?_
  show Steps p.tables e below (T.setTop (mkF m 102 #[.val (.int q0), .val (.int q1), .val (.int q2), .val (.int q3), .val (.int x4), .val (.int x5), .val (.int x6), .val (.int x7), .val (.int x8), .val (.int x9), .val (.int x10), .val (.int x11), .unset, .unset, .unset, .unset, .unset, .unset, .unset, .unset, .unset] [(.int ((q3.toUInt32 >>> ((2 : Int32) &&& 31).toUInt32).toInt32))])) _
  refine XS.iconst X.here hx rfl (hb hby at_102) ?_
  show Steps p.tables e below (T.setTop (mkF m 103 #[.val (.int q0), .val (.int q1), .val (.int q2), .val (.int q3), .val (.int x4), .val (.int x5), .val (.int x6), .val (.int x7), .val (.int x8), .val (.int x9), .val (.int x10), .val (.int x11), .unset, .unset, .unset, .unset, .unset, .unset, .unset, .unset, .unset] [(.int (1 : Int32)), (.int ((q3.toUInt32 >>> ((2 : Int32) &&& 31).toUInt32).toInt32))])) _
  refine XS.iand X.here hx rfl (hb hby at_103) rfl ?_
  show Steps p.tables e below (T.setTop (mkF m 104 #[.val (.int q0), .val (.int q1), .val (.int q2), .val (.int q3), .val (.int x4), .val (.int x5), .val (.int x6), .val (.int x7), .val (.int x8), .val (.int x9), .val (.int x10), .val (.int x11), .unset, .unset, .unset, .unset, .unset, .unset, .unset, .unset, .unset] [(.int (((q3.toUInt32 >>> ((2 : Int32) &&& 31).toUInt32).toInt32) &&& (1 : Int32)))])) _
  refine XS.ifNo X.here hx rfl (hb hby at_104) rfl ((if0 _ _).trans (feq hc104).1) ?_
  show Steps p.tables e below (T.setTop (mkF m 107 #[.val (.int q0), .val (.int q1), .val (.int q2), .val (.int q3), .val (.int x4), .val (.int x5), .val (.int x6), .val (.int x7), .val (.int x8), .val (.int x9), .val (.int x10), .val (.int x11), .unset, .unset, .unset, .unset, .unset, .unset, .unset, .unset, .unset] [])) _
  refine XS.iconst X.here hx rfl (hb hby at_107) ?_
  show Steps p.tables e below (T.setTop (mkF m 108 #[.val (.int q0), .val (.int q1), .val (.int q2), .val (.int q3), .val (.int x4), .val (.int x5), .val (.int x6), .val (.int x7), .val (.int x8), .val (.int x9), .val (.int x10), .val (.int x11), .unset, .unset, .unset, .unset, .unset, .unset, .unset, .unset, .unset] [(.int (1 : Int32))])) _
  refine XS.goto X.here hx rfl (pc0 := 108) (pc' := 112) rfl (hb hby at_108) (by decide) (by decide) ?_
  exact k
theorem seg99 {p : Program} {l : Launch} {e : Env} {R : Room} {s : State} {m : MethodId} {args : Array Value} {below : List Frame} {meth : Method} {c : Code} {T : State} {locs : List Loc} {cells slots : Nat} (X : Stand p l e R s m args below meth c T locs cells slots) (hx : p.tables.exec = Jvm.exec) (hby : c.code = code) (q0 q1 q2 q3 x4 x5 x6 x7 x8 x9 x10 x11 x12 : Int32) (hv : x12 = if (((q3.toUInt32 >>> ((2 : Int32) &&& 31).toUInt32).toInt32) &&& (1 : Int32)) = (0 : Int32) then (0 : Int32) else (1 : Int32)) {target : State} (k : Steps p.tables e below (T.setTop (mkF m 112 #[.val (.int q0), .val (.int q1), .val (.int q2), .val (.int q3), .val (.int x4), .val (.int x5), .val (.int x6), .val (.int x7), .val (.int x8), .val (.int x9), .val (.int x10), .val (.int x11), .unset, .unset, .unset, .unset, .unset, .unset, .unset, .unset, .unset] [(.int x12)])) target) : Steps p.tables e below (T.setTop (mkF m 99 #[.val (.int q0), .val (.int q1), .val (.int q2), .val (.int q3), .val (.int x4), .val (.int x5), .val (.int x6), .val (.int x7), .val (.int x8), .val (.int x9), .val (.int x10), .val (.int x11), .unset, .unset, .unset, .unset, .unset, .unset, .unset, .unset, .unset] [])) target := by
  by_cases hb : (((q3.toUInt32 >>> ((2 : Int32) &&& 31).toUInt32).toInt32) &&& (1 : Int32)) = (0 : Int32)
  · rw [if_pos hb] at hv; rw [hv] at k; exact seg99_t X hx hby q0 q1 q2 q3 x4 x5 x6 x7 x8 x9 x10 x11 hb k
  · rw [if_neg hb] at hv; rw [hv] at k; exact seg99_f X hx hby q0 q1 q2 q3 x4 x5 x6 x7 x8 x9 x10 x11 hb k
set_option maxRecDepth 65536 in
theorem seg114_f {p : Program} {l : Launch} {e : Env} {R : Room} {s : State} {m : MethodId} {args : Array Value} {below : List Frame} {meth : Method} {c : Code} {T : State} {locs : List Loc} {cells slots : Nat} (X : Stand p l e R s m args below meth c T locs cells slots) (hx : p.tables.exec = Jvm.exec) (hby : c.code = code) (q0 q1 q2 q3 x4 x5 x6 x7 x8 x9 x10 x11 x12 : Int32) (hc119 : ¬ ((((q2.toUInt32 >>> ((3 : Int32) &&& 31).toUInt32).toInt32) &&& (1 : Int32)) = (0 : Int32))) {target : State} (k : Steps p.tables e below (T.setTop (mkF m 140 #[.val (.int q0), .val (.int q1), .val (.int q2), .val (.int q3), .val (.int x4), .val (.int x5), .val (.int x6), .val (.int x7), .val (.int x8), .val (.int x9), .val (.int x10), .val (.int x11), .val (.int x12), .unset, .unset, .unset, .unset, .unset, .unset, .unset, .unset] [(.int x12)])) target) : Steps p.tables e below (T.setTop (mkF m 114 #[.val (.int q0), .val (.int q1), .val (.int q2), .val (.int q3), .val (.int x4), .val (.int x5), .val (.int x6), .val (.int x7), .val (.int x8), .val (.int x9), .val (.int x10), .val (.int x11), .val (.int x12), .unset, .unset, .unset, .unset, .unset, .unset, .unset, .unset] [])) target := by
  show Steps p.tables e below (T.setTop (mkF m 114 #[.val (.int q0), .val (.int q1), .val (.int q2), .val (.int q3), .val (.int x4), .val (.int x5), .val (.int x6), .val (.int x7), .val (.int x8), .val (.int x9), .val (.int x10), .val (.int x11), .val (.int x12), .unset, .unset, .unset, .unset, .unset, .unset, .unset, .unset] [])) _
  refine XS.iloadN X.here hx rfl (hb hby at_114) rfl ?_
  show Steps p.tables e below (T.setTop (mkF m 115 #[.val (.int q0), .val (.int q1), .val (.int q2), .val (.int q3), .val (.int x4), .val (.int x5), .val (.int x6), .val (.int x7), .val (.int x8), .val (.int x9), .val (.int x10), .val (.int x11), .val (.int x12), .unset, .unset, .unset, .unset, .unset, .unset, .unset, .unset] [(.int q2)])) _
  refine XS.iconst X.here hx rfl (hb hby at_115) ?_
  show Steps p.tables e below (T.setTop (mkF m 116 #[.val (.int q0), .val (.int q1), .val (.int q2), .val (.int q3), .val (.int x4), .val (.int x5), .val (.int x6), .val (.int x7), .val (.int x8), .val (.int x9), .val (.int x10), .val (.int x11), .val (.int x12), .unset, .unset, .unset, .unset, .unset, .unset, .unset, .unset] [(.int (3 : Int32)), (.int q2)])) _
  refine XS.iushr X.here hx rfl (hb hby at_116) rfl ?_
  show Steps p.tables e below (T.setTop (mkF m 117 #[.val (.int q0), .val (.int q1), .val (.int q2), .val (.int q3), .val (.int x4), .val (.int x5), .val (.int x6), .val (.int x7), .val (.int x8), .val (.int x9), .val (.int x10), .val (.int x11), .val (.int x12), .unset, .unset, .unset, .unset, .unset, .unset, .unset, .unset] [(.int ((q2.toUInt32 >>> ((3 : Int32) &&& 31).toUInt32).toInt32))])) _
  refine XS.iconst X.here hx rfl (hb hby at_117) ?_
  show Steps p.tables e below (T.setTop (mkF m 118 #[.val (.int q0), .val (.int q1), .val (.int q2), .val (.int q3), .val (.int x4), .val (.int x5), .val (.int x6), .val (.int x7), .val (.int x8), .val (.int x9), .val (.int x10), .val (.int x11), .val (.int x12), .unset, .unset, .unset, .unset, .unset, .unset, .unset, .unset] [(.int (1 : Int32)), (.int ((q2.toUInt32 >>> ((3 : Int32) &&& 31).toUInt32).toInt32))])) _
  refine XS.iand X.here hx rfl (hb hby at_118) rfl ?_
  show Steps p.tables e below (T.setTop (mkF m 119 #[.val (.int q0), .val (.int q1), .val (.int q2), .val (.int q3), .val (.int x4), .val (.int x5), .val (.int x6), .val (.int x7), .val (.int x8), .val (.int x9), .val (.int x10), .val (.int x11), .val (.int x12), .unset, .unset, .unset, .unset, .unset, .unset, .unset, .unset] [(.int (((q2.toUInt32 >>> ((3 : Int32) &&& 31).toUInt32).toInt32) &&& (1 : Int32)))])) _
  refine XS.ifNo X.here hx rfl (hb hby at_119) rfl ((if0 _ _).trans (feq hc119).1) ?_
  show Steps p.tables e below (T.setTop (mkF m 122 #[.val (.int q0), .val (.int q1), .val (.int q2), .val (.int q3), .val (.int x4), .val (.int x5), .val (.int x6), .val (.int x7), .val (.int x8), .val (.int x9), .val (.int x10), .val (.int x11), .val (.int x12), .unset, .unset, .unset, .unset, .unset, .unset, .unset, .unset] [])) _
  refine XS.iload X.here hx rfl (hb hby at_122) rfl ?_
  show Steps p.tables e below (T.setTop (mkF m 124 #[.val (.int q0), .val (.int q1), .val (.int q2), .val (.int q3), .val (.int x4), .val (.int x5), .val (.int x6), .val (.int x7), .val (.int x8), .val (.int x9), .val (.int x10), .val (.int x11), .val (.int x12), .unset, .unset, .unset, .unset, .unset, .unset, .unset, .unset] [(.int x12)])) _
  refine XS.goto X.here hx rfl (pc0 := 124) (pc' := 140) rfl (hb hby at_124) (by decide) (by decide) ?_
  exact k
set_option maxRecDepth 65536 in
theorem seg114_tf {p : Program} {l : Launch} {e : Env} {R : Room} {s : State} {m : MethodId} {args : Array Value} {below : List Frame} {meth : Method} {c : Code} {T : State} {locs : List Loc} {cells slots : Nat} (X : Stand p l e R s m args below meth c T locs cells slots) (hx : p.tables.exec = Jvm.exec) (hby : c.code = code) (q0 q1 q2 q3 x4 x5 x6 x7 x8 x9 x10 x11 x12 : Int32) (hc119 : (((q2.toUInt32 >>> ((3 : Int32) &&& 31).toUInt32).toInt32) &&& (1 : Int32)) = (0 : Int32)) (hc132 : ¬ ((((q3.toUInt32 >>> ((3 : Int32) &&& 31).toUInt32).toInt32) &&& (1 : Int32)) = (0 : Int32))) {target : State} (k : Steps p.tables e below (T.setTop (mkF m 140 #[.val (.int q0), .val (.int q1), .val (.int q2), .val (.int q3), .val (.int x4), .val (.int x5), .val (.int x6), .val (.int x7), .val (.int x8), .val (.int x9), .val (.int x10), .val (.int x11), .val (.int x12), .unset, .unset, .unset, .unset, .unset, .unset, .unset, .unset] [(.int (1 : Int32))])) target) : Steps p.tables e below (T.setTop (mkF m 114 #[.val (.int q0), .val (.int q1), .val (.int q2), .val (.int q3), .val (.int x4), .val (.int x5), .val (.int x6), .val (.int x7), .val (.int x8), .val (.int x9), .val (.int x10), .val (.int x11), .val (.int x12), .unset, .unset, .unset, .unset, .unset, .unset, .unset, .unset] [])) target := by
  show Steps p.tables e below (T.setTop (mkF m 114 #[.val (.int q0), .val (.int q1), .val (.int q2), .val (.int q3), .val (.int x4), .val (.int x5), .val (.int x6), .val (.int x7), .val (.int x8), .val (.int x9), .val (.int x10), .val (.int x11), .val (.int x12), .unset, .unset, .unset, .unset, .unset, .unset, .unset, .unset] [])) _
  refine XS.iloadN X.here hx rfl (hb hby at_114) rfl ?_
  show Steps p.tables e below (T.setTop (mkF m 115 #[.val (.int q0), .val (.int q1), .val (.int q2), .val (.int q3), .val (.int x4), .val (.int x5), .val (.int x6), .val (.int x7), .val (.int x8), .val (.int x9), .val (.int x10), .val (.int x11), .val (.int x12), .unset, .unset, .unset, .unset, .unset, .unset, .unset, .unset] [(.int q2)])) _
  refine XS.iconst X.here hx rfl (hb hby at_115) ?_
  show Steps p.tables e below (T.setTop (mkF m 116 #[.val (.int q0), .val (.int q1), .val (.int q2), .val (.int q3), .val (.int x4), .val (.int x5), .val (.int x6), .val (.int x7), .val (.int x8), .val (.int x9), .val (.int x10), .val (.int x11), .val (.int x12), .unset, .unset, .unset, .unset, .unset, .unset, .unset, .unset] [(.int (3 : Int32)), (.int q2)])) _
  refine XS.iushr X.here hx rfl (hb hby at_116) rfl ?_
  show Steps p.tables e below (T.setTop (mkF m 117 #[.val (.int q0), .val (.int q1), .val (.int q2), .val (.int q3), .val (.int x4), .val (.int x5), .val (.int x6), .val (.int x7), .val (.int x8), .val (.int x9), .val (.int x10), .val (.int x11), .val (.int x12), .unset, .unset, .unset, .unset, .unset, .unset, .unset, .unset] [(.int ((q2.toUInt32 >>> ((3 : Int32) &&& 31).toUInt32).toInt32))])) _
  refine XS.iconst X.here hx rfl (hb hby at_117) ?_
  show Steps p.tables e below (T.setTop (mkF m 118 #[.val (.int q0), .val (.int q1), .val (.int q2), .val (.int q3), .val (.int x4), .val (.int x5), .val (.int x6), .val (.int x7), .val (.int x8), .val (.int x9), .val (.int x10), .val (.int x11), .val (.int x12), .unset, .unset, .unset, .unset, .unset, .unset, .unset, .unset] [(.int (1 : Int32)), (.int ((q2.toUInt32 >>> ((3 : Int32) &&& 31).toUInt32).toInt32))])) _
  refine XS.iand X.here hx rfl (hb hby at_118) rfl ?_
  show Steps p.tables e below (T.setTop (mkF m 119 #[.val (.int q0), .val (.int q1), .val (.int q2), .val (.int q3), .val (.int x4), .val (.int x5), .val (.int x6), .val (.int x7), .val (.int x8), .val (.int x9), .val (.int x10), .val (.int x11), .val (.int x12), .unset, .unset, .unset, .unset, .unset, .unset, .unset, .unset] [(.int (((q2.toUInt32 >>> ((3 : Int32) &&& 31).toUInt32).toInt32) &&& (1 : Int32)))])) _
  refine XS.ifYes X.here hx rfl (pc0 := 119) (pc' := 127) rfl (hb hby at_119) rfl ((if0 _ _).trans (teq hc119).1) (by decide) (by decide) ?_
  show Steps p.tables e below (T.setTop (mkF m 127 #[.val (.int q0), .val (.int q1), .val (.int q2), .val (.int q3), .val (.int x4), .val (.int x5), .val (.int x6), .val (.int x7), .val (.int x8), .val (.int x9), .val (.int x10), .val (.int x11), .val (.int x12), .unset, .unset, .unset, .unset, .unset, .unset, .unset, .unset] [])) _
  refine XS.iloadN X.here hx rfl (hb hby at_127) rfl ?_
  show Steps p.tables e below (T.setTop (mkF m 128 #[.val (.int q0), .val (.int q1), .val (.int q2), .val (.int q3), .val (.int x4), .val (.int x5), .val (.int x6), .val (.int x7), .val (.int x8), .val (.int x9), .val (.int x10), .val (.int x11), .val (.int x12), .unset, .unset, .unset, .unset, .unset, .unset, .unset, .unset] [(.int q3)])) _
  refine XS.iconst X.here hx rfl (hb hby at_128) ?_
  show Steps p.tables e below (T.setTop (mkF m 129 #[.val (.int q0), .val (.int q1), .val (.int q2), .val (.int q3), .val (.int x4), .val (.int x5), .val (.int x6), .val (.int x7), .val (.int x8), .val (.int x9), .val (.int x10), .val (.int x11), .val (.int x12), .unset, .unset, .unset, .unset, .unset, .unset, .unset, .unset] [(.int (3 : Int32)), (.int q3)])) _
  refine XS.iushr X.here hx rfl (hb hby at_129) rfl ?_
  show Steps p.tables e below (T.setTop (mkF m 130 #[.val (.int q0), .val (.int q1), .val (.int q2), .val (.int q3), .val (.int x4), .val (.int x5), .val (.int x6), .val (.int x7), .val (.int x8), .val (.int x9), .val (.int x10), .val (.int x11), .val (.int x12), .unset, .unset, .unset, .unset, .unset, .unset, .unset, .unset] [(.int ((q3.toUInt32 >>> ((3 : Int32) &&& 31).toUInt32).toInt32))])) _
  refine XS.iconst X.here hx rfl (hb hby at_130) ?_
  show Steps p.tables e below (T.setTop (mkF m 131 #[.val (.int q0), .val (.int q1), .val (.int q2), .val (.int q3), .val (.int x4), .val (.int x5), .val (.int x6), .val (.int x7), .val (.int x8), .val (.int x9), .val (.int x10), .val (.int x11), .val (.int x12), .unset, .unset, .unset, .unset, .unset, .unset, .unset, .unset] [(.int (1 : Int32)), (.int ((q3.toUInt32 >>> ((3 : Int32) &&& 31).toUInt32).toInt32))])) _
  refine XS.iand X.here hx rfl (hb hby at_131) rfl ?_
  show Steps p.tables e below (T.setTop (mkF m 132 #[.val (.int q0), .val (.int q1), .val (.int q2), .val (.int q3), .val (.int x4), .val (.int x5), .val (.int x6), .val (.int x7), .val (.int x8), .val (.int x9), .val (.int x10), .val (.int x11), .val (.int x12), .unset, .unset, .unset, .unset, .unset, .unset, .unset, .unset] [(.int (((q3.toUInt32 >>> ((3 : Int32) &&& 31).toUInt32).toInt32) &&& (1 : Int32)))])) _
  refine XS.ifNo X.here hx rfl (hb hby at_132) rfl ((if0 _ _).trans (feq hc132).1) ?_
  show Steps p.tables e below (T.setTop (mkF m 135 #[.val (.int q0), .val (.int q1), .val (.int q2), .val (.int q3), .val (.int x4), .val (.int x5), .val (.int x6), .val (.int x7), .val (.int x8), .val (.int x9), .val (.int x10), .val (.int x11), .val (.int x12), .unset, .unset, .unset, .unset, .unset, .unset, .unset, .unset] [])) _
  refine XS.iconst X.here hx rfl (hb hby at_135) ?_
  show Steps p.tables e below (T.setTop (mkF m 136 #[.val (.int q0), .val (.int q1), .val (.int q2), .val (.int q3), .val (.int x4), .val (.int x5), .val (.int x6), .val (.int x7), .val (.int x8), .val (.int x9), .val (.int x10), .val (.int x11), .val (.int x12), .unset, .unset, .unset, .unset, .unset, .unset, .unset, .unset] [(.int (1 : Int32))])) _
  refine XS.goto X.here hx rfl (pc0 := 136) (pc' := 140) rfl (hb hby at_136) (by decide) (by decide) ?_
  exact k
set_option maxRecDepth 65536 in
theorem seg114_tt {p : Program} {l : Launch} {e : Env} {R : Room} {s : State} {m : MethodId} {args : Array Value} {below : List Frame} {meth : Method} {c : Code} {T : State} {locs : List Loc} {cells slots : Nat} (X : Stand p l e R s m args below meth c T locs cells slots) (hx : p.tables.exec = Jvm.exec) (hby : c.code = code) (q0 q1 q2 q3 x4 x5 x6 x7 x8 x9 x10 x11 x12 : Int32) (hc119 : (((q2.toUInt32 >>> ((3 : Int32) &&& 31).toUInt32).toInt32) &&& (1 : Int32)) = (0 : Int32)) (hc132 : (((q3.toUInt32 >>> ((3 : Int32) &&& 31).toUInt32).toInt32) &&& (1 : Int32)) = (0 : Int32)) {target : State} (k : Steps p.tables e below (T.setTop (mkF m 140 #[.val (.int q0), .val (.int q1), .val (.int q2), .val (.int q3), .val (.int x4), .val (.int x5), .val (.int x6), .val (.int x7), .val (.int x8), .val (.int x9), .val (.int x10), .val (.int x11), .val (.int x12), .unset, .unset, .unset, .unset, .unset, .unset, .unset, .unset] [(.int (0 : Int32))])) target) : Steps p.tables e below (T.setTop (mkF m 114 #[.val (.int q0), .val (.int q1), .val (.int q2), .val (.int q3), .val (.int x4), .val (.int x5), .val (.int x6), .val (.int x7), .val (.int x8), .val (.int x9), .val (.int x10), .val (.int x11), .val (.int x12), .unset, .unset, .unset, .unset, .unset, .unset, .unset, .unset] [])) target := by
  show Steps p.tables e below (T.setTop (mkF m 114 #[.val (.int q0), .val (.int q1), .val (.int q2), .val (.int q3), .val (.int x4), .val (.int x5), .val (.int x6), .val (.int x7), .val (.int x8), .val (.int x9), .val (.int x10), .val (.int x11), .val (.int x12), .unset, .unset, .unset, .unset, .unset, .unset, .unset, .unset] [])) _
  refine XS.iloadN X.here hx rfl (hb hby at_114) rfl ?_
  show Steps p.tables e below (T.setTop (mkF m 115 #[.val (.int q0), .val (.int q1), .val (.int q2), .val (.int q3), .val (.int x4), .val (.int x5), .val (.int x6), .val (.int x7), .val (.int x8), .val (.int x9), .val (.int x10), .val (.int x11), .val (.int x12), .unset, .unset, .unset, .unset, .unset, .unset, .unset, .unset] [(.int q2)])) _
  refine XS.iconst X.here hx rfl (hb hby at_115) ?_
  show Steps p.tables e below (T.setTop (mkF m 116 #[.val (.int q0), .val (.int q1), .val (.int q2), .val (.int q3), .val (.int x4), .val (.int x5), .val (.int x6), .val (.int x7), .val (.int x8), .val (.int x9), .val (.int x10), .val (.int x11), .val (.int x12), .unset, .unset, .unset, .unset, .unset, .unset, .unset, .unset] [(.int (3 : Int32)), (.int q2)])) _
  refine XS.iushr X.here hx rfl (hb hby at_116) rfl ?_
  show Steps p.tables e below (T.setTop (mkF m 117 #[.val (.int q0), .val (.int q1), .val (.int q2), .val (.int q3), .val (.int x4), .val (.int x5), .val (.int x6), .val (.int x7), .val (.int x8), .val (.int x9), .val (.int x10), .val (.int x11), .val (.int x12), .unset, .unset, .unset, .unset, .unset, .unset, .unset, .unset] [(.int ((q2.toUInt32 >>> ((3 : Int32) &&& 31).toUInt32).toInt32))])) _
  refine XS.iconst X.here hx rfl (hb hby at_117) ?_
  show Steps p.tables e below (T.setTop (mkF m 118 #[.val (.int q0), .val (.int q1), .val (.int q2), .val (.int q3), .val (.int x4), .val (.int x5), .val (.int x6), .val (.int x7), .val (.int x8), .val (.int x9), .val (.int x10), .val (.int x11), .val (.int x12), .unset, .unset, .unset, .unset, .unset, .unset, .unset, .unset] [(.int (1 : Int32)), (.int ((q2.toUInt32 >>> ((3 : Int32) &&& 31).toUInt32).toInt32))])) _
  refine XS.iand X.here hx rfl (hb hby at_118) rfl ?_
  show Steps p.tables e below (T.setTop (mkF m 119 #[.val (.int q0), .val (.int q1), .val (.int q2), .val (.int q3), .val (.int x4), .val (.int x5), .val (.int x6), .val (.int x7), .val (.int x8), .val (.int x9), .val (.int x10), .val (.int x11), .val (.int x12), .unset, .unset, .unset, .unset, .unset, .unset, .unset, .unset] [(.int (((q2.toUInt32 >>> ((3 : Int32) &&& 31).toUInt32).toInt32) &&& (1 : Int32)))])) _
  refine XS.ifYes X.here hx rfl (pc0 := 119) (pc' := 127) rfl (hb hby at_119) rfl ((if0 _ _).trans (teq hc119).1) (by decide) (by decide) ?_
  show Steps p.tables e below (T.setTop (mkF m 127 #[.val (.int q0), .val (.int q1), .val (.int q2), .val (.int q3), .val (.int x4), .val (.int x5), .val (.int x6), .val (.int x7), .val (.int x8), .val (.int x9), .val (.int x10), .val (.int x11), .val (.int x12), .unset, .unset, .unset, .unset, .unset, .unset, .unset, .unset] [])) _
  refine XS.iloadN X.here hx rfl (hb hby at_127) rfl ?_
  show Steps p.tables e below (T.setTop (mkF m 128 #[.val (.int q0), .val (.int q1), .val (.int q2), .val (.int q3), .val (.int x4), .val (.int x5), .val (.int x6), .val (.int x7), .val (.int x8), .val (.int x9), .val (.int x10), .val (.int x11), .val (.int x12), .unset, .unset, .unset, .unset, .unset, .unset, .unset, .unset] [(.int q3)])) _
  refine XS.iconst X.here hx rfl (hb hby at_128) ?_
  show Steps p.tables e below (T.setTop (mkF m 129 #[.val (.int q0), .val (.int q1), .val (.int q2), .val (.int q3), .val (.int x4), .val (.int x5), .val (.int x6), .val (.int x7), .val (.int x8), .val (.int x9), .val (.int x10), .val (.int x11), .val (.int x12), .unset, .unset, .unset, .unset, .unset, .unset, .unset, .unset] [(.int (3 : Int32)), (.int q3)])) _
  refine XS.iushr X.here hx rfl (hb hby at_129) rfl ?_
  show Steps p.tables e below (T.setTop (mkF m 130 #[.val (.int q0), .val (.int q1), .val (.int q2), .val (.int q3), .val (.int x4), .val (.int x5), .val (.int x6), .val (.int x7), .val (.int x8), .val (.int x9), .val (.int x10), .val (.int x11), .val (.int x12), .unset, .unset, .unset, .unset, .unset, .unset, .unset, .unset] [(.int ((q3.toUInt32 >>> ((3 : Int32) &&& 31).toUInt32).toInt32))])) _
  refine XS.iconst X.here hx rfl (hb hby at_130) ?_
  show Steps p.tables e below (T.setTop (mkF m 131 #[.val (.int q0), .val (.int q1), .val (.int q2), .val (.int q3), .val (.int x4), .val (.int x5), .val (.int x6), .val (.int x7), .val (.int x8), .val (.int x9), .val (.int x10), .val (.int x11), .val (.int x12), .unset, .unset, .unset, .unset, .unset, .unset, .unset, .unset] [(.int (1 : Int32)), (.int ((q3.toUInt32 >>> ((3 : Int32) &&& 31).toUInt32).toInt32))])) _
  refine XS.iand X.here hx rfl (hb hby at_131) rfl ?_
  show Steps p.tables e below (T.setTop (mkF m 132 #[.val (.int q0), .val (.int q1), .val (.int q2), .val (.int q3), .val (.int x4), .val (.int x5), .val (.int x6), .val (.int x7), .val (.int x8), .val (.int x9), .val (.int x10), .val (.int x11), .val (.int x12), .unset, .unset, .unset, .unset, .unset, .unset, .unset, .unset] [(.int (((q3.toUInt32 >>> ((3 : Int32) &&& 31).toUInt32).toInt32) &&& (1 : Int32)))])) _
  refine XS.ifYes X.here hx rfl (pc0 := 132) (pc' := 139) rfl (hb hby at_132) rfl ((if0 _ _).trans (teq hc132).1) (by decide) (by decide) ?_
  show Steps p.tables e below (T.setTop (mkF m 139 #[.val (.int q0), .val (.int q1), .val (.int q2), .val (.int q3), .val (.int x4), .val (.int x5), .val (.int x6), .val (.int x7), .val (.int x8), .val (.int x9), .val (.int x10), .val (.int x11), .val (.int x12), .unset, .unset, .unset, .unset, .unset, .unset, .unset, .unset] [])) _
  refine XS.iconst X.here hx rfl (hb hby at_139) ?_
  exact k
theorem seg114 {p : Program} {l : Launch} {e : Env} {R : Room} {s : State} {m : MethodId} {args : Array Value} {below : List Frame} {meth : Method} {c : Code} {T : State} {locs : List Loc} {cells slots : Nat} (X : Stand p l e R s m args below meth c T locs cells slots) (hx : p.tables.exec = Jvm.exec) (hby : c.code = code) (q0 q1 q2 q3 x4 x5 x6 x7 x8 x9 x10 x11 x12 x13 : Int32) (hv : x13 = if (((q2.toUInt32 >>> ((3 : Int32) &&& 31).toUInt32).toInt32) &&& (1 : Int32)) = (0 : Int32) then (if (((q3.toUInt32 >>> ((3 : Int32) &&& 31).toUInt32).toInt32) &&& (1 : Int32)) = (0 : Int32) then (0 : Int32) else (1 : Int32)) else x12) {target : State} (k : Steps p.tables e below (T.setTop (mkF m 140 #[.val (.int q0), .val (.int q1), .val (.int q2), .val (.int q3), .val (.int x4), .val (.int x5), .val (.int x6), .val (.int x7), .val (.int x8), .val (.int x9), .val (.int x10), .val (.int x11), .val (.int x12), .unset, .unset, .unset, .unset, .unset, .unset, .unset, .unset] [(.int x13)])) target) : Steps p.tables e below (T.setTop (mkF m 114 #[.val (.int q0), .val (.int q1), .val (.int q2), .val (.int q3), .val (.int x4), .val (.int x5), .val (.int x6), .val (.int x7), .val (.int x8), .val (.int x9), .val (.int x10), .val (.int x11), .val (.int x12), .unset, .unset, .unset, .unset, .unset, .unset, .unset, .unset] [])) target := by
  by_cases hb : (((q2.toUInt32 >>> ((3 : Int32) &&& 31).toUInt32).toInt32) &&& (1 : Int32)) = (0 : Int32)
  · rw [if_pos hb] at hv
    by_cases hd : (((q3.toUInt32 >>> ((3 : Int32) &&& 31).toUInt32).toInt32) &&& (1 : Int32)) = (0 : Int32)
    · rw [if_pos hd] at hv; rw [hv] at k; exact seg114_tt X hx hby q0 q1 q2 q3 x4 x5 x6 x7 x8 x9 x10 x11 x12 hb hd k
    · rw [if_neg hd] at hv; rw [hv] at k; exact seg114_tf X hx hby q0 q1 q2 q3 x4 x5 x6 x7 x8 x9 x10 x11 x12 hb hd k
  · rw [if_neg hb] at hv; rw [hv] at k; exact seg114_f X hx hby q0 q1 q2 q3 x4 x5 x6 x7 x8 x9 x10 x11 x12 hb k
set_option maxRecDepth 65536 in
theorem seg234_a {p : Program} {l : Launch} {e : Env} {R : Room} {s : State} {m : MethodId} {args : Array Value} {below : List Frame} {meth : Method} {c : Code} {T : State} {locs : List Loc} {cells slots : Nat} (X : Stand p l e R s m args below meth c T locs cells slots) (hx : p.tables.exec = Jvm.exec) (hby : c.code = code) (q0 q1 q2 q3 x4 x5 x6 x7 x8 x9 x10 x11 x12 x13 x14 : Int32) (r15 r16 r17 r18 : Addr) (hc238 : ¬ (x8 = x9)) {target : State} (k : Steps p.tables e below (T.setTop (mkF m 266 #[.val (.int q0), .val (.int q1), .val (.int q2), .val (.int q3), .val (.int x4), .val (.int x5), .val (.int x6), .val (.int x7), .val (.int x8), .val (.int x9), .val (.int x10), .val (.int x11), .val (.int x12), .val (.int x13), .val (.int x14), .val (.ref r15), .val (.ref r16), .val (.ref r17), .val (.ref r18), .unset, .unset] [(.int (0 : Int32))])) target) : Steps p.tables e below (T.setTop (mkF m 234 #[.val (.int q0), .val (.int q1), .val (.int q2), .val (.int q3), .val (.int x4), .val (.int x5), .val (.int x6), .val (.int x7), .val (.int x8), .val (.int x9), .val (.int x10), .val (.int x11), .val (.int x12), .val (.int x13), .val (.int x14), .val (.ref r15), .val (.ref r16), .val (.ref r17), .val (.ref r18), .unset, .unset] [])) target := by
  show Steps p.tables e below (T.setTop (mkF m 234 #[.val (.int q0), .val (.int q1), .val (.int q2), .val (.int q3), .val (.int x4), .val (.int x5), .val (.int x6), .val (.int x7), .val (.int x8), .val (.int x9), .val (.int x10), .val (.int x11), .val (.int x12), .val (.int x13), .val (.int x14), .val (.ref r15), .val (.ref r16), .val (.ref r17), .val (.ref r18), .unset, .unset] [])) _
  refine XS.iload X.here hx rfl (hb hby at_234) rfl ?_
  show Steps p.tables e below (T.setTop (mkF m 236 #[.val (.int q0), .val (.int q1), .val (.int q2), .val (.int q3), .val (.int x4), .val (.int x5), .val (.int x6), .val (.int x7), .val (.int x8), .val (.int x9), .val (.int x10), .val (.int x11), .val (.int x12), .val (.int x13), .val (.int x14), .val (.ref r15), .val (.ref r16), .val (.ref r17), .val (.ref r18), .unset, .unset] [(.int x8)])) _
  refine XS.iload X.here hx rfl (hb hby at_236) rfl ?_
  show Steps p.tables e below (T.setTop (mkF m 238 #[.val (.int q0), .val (.int q1), .val (.int q2), .val (.int q3), .val (.int x4), .val (.int x5), .val (.int x6), .val (.int x7), .val (.int x8), .val (.int x9), .val (.int x10), .val (.int x11), .val (.int x12), .val (.int x13), .val (.int x14), .val (.ref r15), .val (.ref r16), .val (.ref r17), .val (.ref r18), .unset, .unset] [(.int x9), (.int x8)])) _
  refine XS.icmpYes X.here hx rfl (pc0 := 238) (pc' := 265) rfl (hb hby at_238) rfl (feq hc238).2 (by decide) (by decide) ?_
  show Steps p.tables e below (T.setTop (mkF m 265 #[.val (.int q0), .val (.int q1), .val (.int q2), .val (.int q3), .val (.int x4), .val (.int x5), .val (.int x6), .val (.int x7), .val (.int x8), .val (.int x9), .val (.int x10), .val (.int x11), .val (.int x12), .val (.int x13), .val (.int x14), .val (.ref r15), .val (.ref r16), .val (.ref r17), .val (.ref r18), .unset, .unset] [])) _
  refine XS.iconst X.here hx rfl (hb hby at_265) ?_
  exact k
set_option maxRecDepth 65536 in
theorem seg234_b {p : Program} {l : Launch} {e : Env} {R : Room} {s : State} {m : MethodId} {args : Array Value} {below : List Frame} {meth : Method} {c : Code} {T : State} {locs : List Loc} {cells slots : Nat} (X : Stand p l e R s m args below meth c T locs cells slots) (hx : p.tables.exec = Jvm.exec) (hby : c.code = code) (q0 q1 q2 q3 x4 x5 x6 x7 x8 x9 x10 x11 x12 x13 x14 : Int32) (r15 r16 r17 r18 : Addr) (hc238 : x8 = x9) (hc245 : ¬ (x4 = x10)) {target : State} (k : Steps p.tables e below (T.setTop (mkF m 266 #[.val (.int q0), .val (.int q1), .val (.int q2), .val (.int q3), .val (.int x4), .val (.int x5), .val (.int x6), .val (.int x7), .val (.int x8), .val (.int x9), .val (.int x10), .val (.int x11), .val (.int x12), .val (.int x13), .val (.int x14), .val (.ref r15), .val (.ref r16), .val (.ref r17), .val (.ref r18), .unset, .unset] [(.int (0 : Int32))])) target) : Steps p.tables e below (T.setTop (mkF m 234 #[.val (.int q0), .val (.int q1), .val (.int q2), .val (.int q3), .val (.int x4), .val (.int x5), .val (.int x6), .val (.int x7), .val (.int x8), .val (.int x9), .val (.int x10), .val (.int x11), .val (.int x12), .val (.int x13), .val (.int x14), .val (.ref r15), .val (.ref r16), .val (.ref r17), .val (.ref r18), .unset, .unset] [])) target := by
  show Steps p.tables e below (T.setTop (mkF m 234 #[.val (.int q0), .val (.int q1), .val (.int q2), .val (.int q3), .val (.int x4), .val (.int x5), .val (.int x6), .val (.int x7), .val (.int x8), .val (.int x9), .val (.int x10), .val (.int x11), .val (.int x12), .val (.int x13), .val (.int x14), .val (.ref r15), .val (.ref r16), .val (.ref r17), .val (.ref r18), .unset, .unset] [])) _
  refine XS.iload X.here hx rfl (hb hby at_234) rfl ?_
  show Steps p.tables e below (T.setTop (mkF m 236 #[.val (.int q0), .val (.int q1), .val (.int q2), .val (.int q3), .val (.int x4), .val (.int x5), .val (.int x6), .val (.int x7), .val (.int x8), .val (.int x9), .val (.int x10), .val (.int x11), .val (.int x12), .val (.int x13), .val (.int x14), .val (.ref r15), .val (.ref r16), .val (.ref r17), .val (.ref r18), .unset, .unset] [(.int x8)])) _
  refine XS.iload X.here hx rfl (hb hby at_236) rfl ?_
  show Steps p.tables e below (T.setTop (mkF m 238 #[.val (.int q0), .val (.int q1), .val (.int q2), .val (.int q3), .val (.int x4), .val (.int x5), .val (.int x6), .val (.int x7), .val (.int x8), .val (.int x9), .val (.int x10), .val (.int x11), .val (.int x12), .val (.int x13), .val (.int x14), .val (.ref r15), .val (.ref r16), .val (.ref r17), .val (.ref r18), .unset, .unset] [(.int x9), (.int x8)])) _
  refine XS.icmpNo X.here hx rfl (hb hby at_238) rfl (teq hc238).2 ?_
  show Steps p.tables e below (T.setTop (mkF m 241 #[.val (.int q0), .val (.int q1), .val (.int q2), .val (.int q3), .val (.int x4), .val (.int x5), .val (.int x6), .val (.int x7), .val (.int x8), .val (.int x9), .val (.int x10), .val (.int x11), .val (.int x12), .val (.int x13), .val (.int x14), .val (.ref r15), .val (.ref r16), .val (.ref r17), .val (.ref r18), .unset, .unset] [])) _
  refine XS.iload X.here hx rfl (hb hby at_241) rfl ?_
  show Steps p.tables e below (T.setTop (mkF m 243 #[.val (.int q0), .val (.int q1), .val (.int q2), .val (.int q3), .val (.int x4), .val (.int x5), .val (.int x6), .val (.int x7), .val (.int x8), .val (.int x9), .val (.int x10), .val (.int x11), .val (.int x12), .val (.int x13), .val (.int x14), .val (.ref r15), .val (.ref r16), .val (.ref r17), .val (.ref r18), .unset, .unset] [(.int x4)])) _
  refine XS.iload X.here hx rfl (hb hby at_243) rfl ?_
  show Steps p.tables e below (T.setTop (mkF m 245 #[.val (.int q0), .val (.int q1), .val (.int q2), .val (.int q3), .val (.int x4), .val (.int x5), .val (.int x6), .val (.int x7), .val (.int x8), .val (.int x9), .val (.int x10), .val (.int x11), .val (.int x12), .val (.int x13), .val (.int x14), .val (.ref r15), .val (.ref r16), .val (.ref r17), .val (.ref r18), .unset, .unset] [(.int x10), (.int x4)])) _
  refine XS.icmpYes X.here hx rfl (pc0 := 245) (pc' := 265) rfl (hb hby at_245) rfl (feq hc245).2 (by decide) (by decide) ?_
  show Steps p.tables e below (T.setTop (mkF m 265 #[.val (.int q0), .val (.int q1), .val (.int q2), .val (.int q3), .val (.int x4), .val (.int x5), .val (.int x6), .val (.int x7), .val (.int x8), .val (.int x9), .val (.int x10), .val (.int x11), .val (.int x12), .val (.int x13), .val (.int x14), .val (.ref r15), .val (.ref r16), .val (.ref r17), .val (.ref r18), .unset, .unset] [])) _
  refine XS.iconst X.here hx rfl (hb hby at_265) ?_
  exact k
set_option maxRecDepth 65536 in
theorem seg234_c {p : Program} {l : Launch} {e : Env} {R : Room} {s : State} {m : MethodId} {args : Array Value} {below : List Frame} {meth : Method} {c : Code} {T : State} {locs : List Loc} {cells slots : Nat} (X : Stand p l e R s m args below meth c T locs cells slots) (hx : p.tables.exec = Jvm.exec) (hby : c.code = code) (q0 q1 q2 q3 x4 x5 x6 x7 x8 x9 x10 x11 x12 x13 x14 : Int32) (r15 r16 r17 r18 : Addr) (hc238 : x8 = x9) (hc245 : x4 = x10) (hc251 : x8 = (1 : Int32)) {target : State} (k : Steps p.tables e below (T.setTop (mkF m 266 #[.val (.int q0), .val (.int q1), .val (.int q2), .val (.int q3), .val (.int x4), .val (.int x5), .val (.int x6), .val (.int x7), .val (.int x8), .val (.int x9), .val (.int x10), .val (.int x11), .val (.int x12), .val (.int x13), .val (.int x14), .val (.ref r15), .val (.ref r16), .val (.ref r17), .val (.ref r18), .unset, .unset] [(.int (1 : Int32))])) target) : Steps p.tables e below (T.setTop (mkF m 234 #[.val (.int q0), .val (.int q1), .val (.int q2), .val (.int q3), .val (.int x4), .val (.int x5), .val (.int x6), .val (.int x7), .val (.int x8), .val (.int x9), .val (.int x10), .val (.int x11), .val (.int x12), .val (.int x13), .val (.int x14), .val (.ref r15), .val (.ref r16), .val (.ref r17), .val (.ref r18), .unset, .unset] [])) target := by
  show Steps p.tables e below (T.setTop (mkF m 234 #[.val (.int q0), .val (.int q1), .val (.int q2), .val (.int q3), .val (.int x4), .val (.int x5), .val (.int x6), .val (.int x7), .val (.int x8), .val (.int x9), .val (.int x10), .val (.int x11), .val (.int x12), .val (.int x13), .val (.int x14), .val (.ref r15), .val (.ref r16), .val (.ref r17), .val (.ref r18), .unset, .unset] [])) _
  refine XS.iload X.here hx rfl (hb hby at_234) rfl ?_
  show Steps p.tables e below (T.setTop (mkF m 236 #[.val (.int q0), .val (.int q1), .val (.int q2), .val (.int q3), .val (.int x4), .val (.int x5), .val (.int x6), .val (.int x7), .val (.int x8), .val (.int x9), .val (.int x10), .val (.int x11), .val (.int x12), .val (.int x13), .val (.int x14), .val (.ref r15), .val (.ref r16), .val (.ref r17), .val (.ref r18), .unset, .unset] [(.int x8)])) _
  refine XS.iload X.here hx rfl (hb hby at_236) rfl ?_
  show Steps p.tables e below (T.setTop (mkF m 238 #[.val (.int q0), .val (.int q1), .val (.int q2), .val (.int q3), .val (.int x4), .val (.int x5), .val (.int x6), .val (.int x7), .val (.int x8), .val (.int x9), .val (.int x10), .val (.int x11), .val (.int x12), .val (.int x13), .val (.int x14), .val (.ref r15), .val (.ref r16), .val (.ref r17), .val (.ref r18), .unset, .unset] [(.int x9), (.int x8)])) _
  refine XS.icmpNo X.here hx rfl (hb hby at_238) rfl (teq hc238).2 ?_
  show Steps p.tables e below (T.setTop (mkF m 241 #[.val (.int q0), .val (.int q1), .val (.int q2), .val (.int q3), .val (.int x4), .val (.int x5), .val (.int x6), .val (.int x7), .val (.int x8), .val (.int x9), .val (.int x10), .val (.int x11), .val (.int x12), .val (.int x13), .val (.int x14), .val (.ref r15), .val (.ref r16), .val (.ref r17), .val (.ref r18), .unset, .unset] [])) _
  refine XS.iload X.here hx rfl (hb hby at_241) rfl ?_
  show Steps p.tables e below (T.setTop (mkF m 243 #[.val (.int q0), .val (.int q1), .val (.int q2), .val (.int q3), .val (.int x4), .val (.int x5), .val (.int x6), .val (.int x7), .val (.int x8), .val (.int x9), .val (.int x10), .val (.int x11), .val (.int x12), .val (.int x13), .val (.int x14), .val (.ref r15), .val (.ref r16), .val (.ref r17), .val (.ref r18), .unset, .unset] [(.int x4)])) _
  refine XS.iload X.here hx rfl (hb hby at_243) rfl ?_
  show Steps p.tables e below (T.setTop (mkF m 245 #[.val (.int q0), .val (.int q1), .val (.int q2), .val (.int q3), .val (.int x4), .val (.int x5), .val (.int x6), .val (.int x7), .val (.int x8), .val (.int x9), .val (.int x10), .val (.int x11), .val (.int x12), .val (.int x13), .val (.int x14), .val (.ref r15), .val (.ref r16), .val (.ref r17), .val (.ref r18), .unset, .unset] [(.int x10), (.int x4)])) _
  refine XS.icmpNo X.here hx rfl (hb hby at_245) rfl (teq hc245).2 ?_
  show Steps p.tables e below (T.setTop (mkF m 248 #[.val (.int q0), .val (.int q1), .val (.int q2), .val (.int q3), .val (.int x4), .val (.int x5), .val (.int x6), .val (.int x7), .val (.int x8), .val (.int x9), .val (.int x10), .val (.int x11), .val (.int x12), .val (.int x13), .val (.int x14), .val (.ref r15), .val (.ref r16), .val (.ref r17), .val (.ref r18), .unset, .unset] [])) _
  refine XS.iload X.here hx rfl (hb hby at_248) rfl ?_
  show Steps p.tables e below (T.setTop (mkF m 250 #[.val (.int q0), .val (.int q1), .val (.int q2), .val (.int q3), .val (.int x4), .val (.int x5), .val (.int x6), .val (.int x7), .val (.int x8), .val (.int x9), .val (.int x10), .val (.int x11), .val (.int x12), .val (.int x13), .val (.int x14), .val (.ref r15), .val (.ref r16), .val (.ref r17), .val (.ref r18), .unset, .unset] [(.int x8)])) _
  refine XS.iconst X.here hx rfl (hb hby at_250) ?_
  show Steps p.tables e below (T.setTop (mkF m 251 #[.val (.int q0), .val (.int q1), .val (.int q2), .val (.int q3), .val (.int x4), .val (.int x5), .val (.int x6), .val (.int x7), .val (.int x8), .val (.int x9), .val (.int x10), .val (.int x11), .val (.int x12), .val (.int x13), .val (.int x14), .val (.ref r15), .val (.ref r16), .val (.ref r17), .val (.ref r18), .unset, .unset] [(.int (1 : Int32)), (.int x8)])) _
  refine XS.icmpYes X.here hx rfl (pc0 := 251) (pc' := 261) rfl (hb hby at_251) rfl (teq hc251).1 (by decide) (by decide) ?_
  show Steps p.tables e below (T.setTop (mkF m 261 #[.val (.int q0), .val (.int q1), .val (.int q2), .val (.int q3), .val (.int x4), .val (.int x5), .val (.int x6), .val (.int x7), .val (.int x8), .val (.int x9), .val (.int x10), .val (.int x11), .val (.int x12), .val (.int x13), .val (.int x14), .val (.ref r15), .val (.ref r16), .val (.ref r17), .val (.ref r18), .unset, .unset] [])) _
  refine XS.iconst X.here hx rfl (hb hby at_261) ?_
  show Steps p.tables e below (T.setTop (mkF m 262 #[.val (.int q0), .val (.int q1), .val (.int q2), .val (.int q3), .val (.int x4), .val (.int x5), .val (.int x6), .val (.int x7), .val (.int x8), .val (.int x9), .val (.int x10), .val (.int x11), .val (.int x12), .val (.int x13), .val (.int x14), .val (.ref r15), .val (.ref r16), .val (.ref r17), .val (.ref r18), .unset, .unset] [(.int (1 : Int32))])) _
  refine XS.goto X.here hx rfl (pc0 := 262) (pc' := 266) rfl (hb hby at_262) (by decide) (by decide) ?_
  exact k
set_option maxRecDepth 65536 in
theorem seg234_d {p : Program} {l : Launch} {e : Env} {R : Room} {s : State} {m : MethodId} {args : Array Value} {below : List Frame} {meth : Method} {c : Code} {T : State} {locs : List Loc} {cells slots : Nat} (X : Stand p l e R s m args below meth c T locs cells slots) (hx : p.tables.exec = Jvm.exec) (hby : c.code = code) (q0 q1 q2 q3 x4 x5 x6 x7 x8 x9 x10 x11 x12 x13 x14 : Int32) (r15 r16 r17 r18 : Addr) (hc238 : x8 = x9) (hc245 : x4 = x10) (hc251 : ¬ (x8 = (1 : Int32))) (hc258 : x5 = x11) {target : State} (k : Steps p.tables e below (T.setTop (mkF m 266 #[.val (.int q0), .val (.int q1), .val (.int q2), .val (.int q3), .val (.int x4), .val (.int x5), .val (.int x6), .val (.int x7), .val (.int x8), .val (.int x9), .val (.int x10), .val (.int x11), .val (.int x12), .val (.int x13), .val (.int x14), .val (.ref r15), .val (.ref r16), .val (.ref r17), .val (.ref r18), .unset, .unset] [(.int (1 : Int32))])) target) : Steps p.tables e below (T.setTop (mkF m 234 #[.val (.int q0), .val (.int q1), .val (.int q2), .val (.int q3), .val (.int x4), .val (.int x5), .val (.int x6), .val (.int x7), .val (.int x8), .val (.int x9), .val (.int x10), .val (.int x11), .val (.int x12), .val (.int x13), .val (.int x14), .val (.ref r15), .val (.ref r16), .val (.ref r17), .val (.ref r18), .unset, .unset] [])) target := by
  show Steps p.tables e below (T.setTop (mkF m 234 #[.val (.int q0), .val (.int q1), .val (.int q2), .val (.int q3), .val (.int x4), .val (.int x5), .val (.int x6), .val (.int x7), .val (.int x8), .val (.int x9), .val (.int x10), .val (.int x11), .val (.int x12), .val (.int x13), .val (.int x14), .val (.ref r15), .val (.ref r16), .val (.ref r17), .val (.ref r18), .unset, .unset] [])) _
  refine XS.iload X.here hx rfl (hb hby at_234) rfl ?_
  show Steps p.tables e below (T.setTop (mkF m 236 #[.val (.int q0), .val (.int q1), .val (.int q2), .val (.int q3), .val (.int x4), .val (.int x5), .val (.int x6), .val (.int x7), .val (.int x8), .val (.int x9), .val (.int x10), .val (.int x11), .val (.int x12), .val (.int x13), .val (.int x14), .val (.ref r15), .val (.ref r16), .val (.ref r17), .val (.ref r18), .unset, .unset] [(.int x8)])) _
  refine XS.iload X.here hx rfl (hb hby at_236) rfl ?_
  show Steps p.tables e below (T.setTop (mkF m 238 #[.val (.int q0), .val (.int q1), .val (.int q2), .val (.int q3), .val (.int x4), .val (.int x5), .val (.int x6), .val (.int x7), .val (.int x8), .val (.int x9), .val (.int x10), .val (.int x11), .val (.int x12), .val (.int x13), .val (.int x14), .val (.ref r15), .val (.ref r16), .val (.ref r17), .val (.ref r18), .unset, .unset] [(.int x9), (.int x8)])) _
  refine XS.icmpNo X.here hx rfl (hb hby at_238) rfl (teq hc238).2 ?_
  show Steps p.tables e below (T.setTop (mkF m 241 #[.val (.int q0), .val (.int q1), .val (.int q2), .val (.int q3), .val (.int x4), .val (.int x5), .val (.int x6), .val (.int x7), .val (.int x8), .val (.int x9), .val (.int x10), .val (.int x11), .val (.int x12), .val (.int x13), .val (.int x14), .val (.ref r15), .val (.ref r16), .val (.ref r17), .val (.ref r18), .unset, .unset] [])) _
  refine XS.iload X.here hx rfl (hb hby at_241) rfl ?_
  show Steps p.tables e below (T.setTop (mkF m 243 #[.val (.int q0), .val (.int q1), .val (.int q2), .val (.int q3), .val (.int x4), .val (.int x5), .val (.int x6), .val (.int x7), .val (.int x8), .val (.int x9), .val (.int x10), .val (.int x11), .val (.int x12), .val (.int x13), .val (.int x14), .val (.ref r15), .val (.ref r16), .val (.ref r17), .val (.ref r18), .unset, .unset] [(.int x4)])) _
  refine XS.iload X.here hx rfl (hb hby at_243) rfl ?_
  show Steps p.tables e below (T.setTop (mkF m 245 #[.val (.int q0), .val (.int q1), .val (.int q2), .val (.int q3), .val (.int x4), .val (.int x5), .val (.int x6), .val (.int x7), .val (.int x8), .val (.int x9), .val (.int x10), .val (.int x11), .val (.int x12), .val (.int x13), .val (.int x14), .val (.ref r15), .val (.ref r16), .val (.ref r17), .val (.ref r18), .unset, .unset] [(.int x10), (.int x4)])) _
  refine XS.icmpNo X.here hx rfl (hb hby at_245) rfl (teq hc245).2 ?_
  show Steps p.tables e below (T.setTop (mkF m 248 #[.val (.int q0), .val (.int q1), .val (.int q2), .val (.int q3), .val (.int x4), .val (.int x5), .val (.int x6), .val (.int x7), .val (.int x8), .val (.int x9), .val (.int x10), .val (.int x11), .val (.int x12), .val (.int x13), .val (.int x14), .val (.ref r15), .val (.ref r16), .val (.ref r17), .val (.ref r18), .unset, .unset] [])) _
  refine XS.iload X.here hx rfl (hb hby at_248) rfl ?_
  show Steps p.tables e below (T.setTop (mkF m 250 #[.val (.int q0), .val (.int q1), .val (.int q2), .val (.int q3), .val (.int x4), .val (.int x5), .val (.int x6), .val (.int x7), .val (.int x8), .val (.int x9), .val (.int x10), .val (.int x11), .val (.int x12), .val (.int x13), .val (.int x14), .val (.ref r15), .val (.ref r16), .val (.ref r17), .val (.ref r18), .unset, .unset] [(.int x8)])) _
  refine XS.iconst X.here hx rfl (hb hby at_250) ?_
  show Steps p.tables e below (T.setTop (mkF m 251 #[.val (.int q0), .val (.int q1), .val (.int q2), .val (.int q3), .val (.int x4), .val (.int x5), .val (.int x6), .val (.int x7), .val (.int x8), .val (.int x9), .val (.int x10), .val (.int x11), .val (.int x12), .val (.int x13), .val (.int x14), .val (.ref r15), .val (.ref r16), .val (.ref r17), .val (.ref r18), .unset, .unset] [(.int (1 : Int32)), (.int x8)])) _
  refine XS.icmpNo X.here hx rfl (hb hby at_251) rfl (feq hc251).1 ?_
  show Steps p.tables e below (T.setTop (mkF m 254 #[.val (.int q0), .val (.int q1), .val (.int q2), .val (.int q3), .val (.int x4), .val (.int x5), .val (.int x6), .val (.int x7), .val (.int x8), .val (.int x9), .val (.int x10), .val (.int x11), .val (.int x12), .val (.int x13), .val (.int x14), .val (.ref r15), .val (.ref r16), .val (.ref r17), .val (.ref r18), .unset, .unset] [])) _
  refine XS.iload X.here hx rfl (hb hby at_254) rfl ?_
  show Steps p.tables e below (T.setTop (mkF m 256 #[.val (.int q0), .val (.int q1), .val (.int q2), .val (.int q3), .val (.int x4), .val (.int x5), .val (.int x6), .val (.int x7), .val (.int x8), .val (.int x9), .val (.int x10), .val (.int x11), .val (.int x12), .val (.int x13), .val (.int x14), .val (.ref r15), .val (.ref r16), .val (.ref r17), .val (.ref r18), .unset, .unset] [(.int x5)])) _
  refine XS.iload X.here hx rfl (hb hby at_256) rfl ?_
  show Steps p.tables e below (T.setTop (mkF m 258 #[.val (.int q0), .val (.int q1), .val (.int q2), .val (.int q3), .val (.int x4), .val (.int x5), .val (.int x6), .val (.int x7), .val (.int x8), .val (.int x9), .val (.int x10), .val (.int x11), .val (.int x12), .val (.int x13), .val (.int x14), .val (.ref r15), .val (.ref r16), .val (.ref r17), .val (.ref r18), .unset, .unset] [(.int x11), (.int x5)])) _
  refine XS.icmpNo X.here hx rfl (hb hby at_258) rfl (teq hc258).2 ?_
  show Steps p.tables e below (T.setTop (mkF m 261 #[.val (.int q0), .val (.int q1), .val (.int q2), .val (.int q3), .val (.int x4), .val (.int x5), .val (.int x6), .val (.int x7), .val (.int x8), .val (.int x9), .val (.int x10), .val (.int x11), .val (.int x12), .val (.int x13), .val (.int x14), .val (.ref r15), .val (.ref r16), .val (.ref r17), .val (.ref r18), .unset, .unset] [])) _
  refine XS.iconst X.here hx rfl (hb hby at_261) ?_
  show Steps p.tables e below (T.setTop (mkF m 262 #[.val (.int q0), .val (.int q1), .val (.int q2), .val (.int q3), .val (.int x4), .val (.int x5), .val (.int x6), .val (.int x7), .val (.int x8), .val (.int x9), .val (.int x10), .val (.int x11), .val (.int x12), .val (.int x13), .val (.int x14), .val (.ref r15), .val (.ref r16), .val (.ref r17), .val (.ref r18), .unset, .unset] [(.int (1 : Int32))])) _
  refine XS.goto X.here hx rfl (pc0 := 262) (pc' := 266) rfl (hb hby at_262) (by decide) (by decide) ?_
  exact k
set_option maxRecDepth 65536 in
theorem seg234_e {p : Program} {l : Launch} {e : Env} {R : Room} {s : State} {m : MethodId} {args : Array Value} {below : List Frame} {meth : Method} {c : Code} {T : State} {locs : List Loc} {cells slots : Nat} (X : Stand p l e R s m args below meth c T locs cells slots) (hx : p.tables.exec = Jvm.exec) (hby : c.code = code) (q0 q1 q2 q3 x4 x5 x6 x7 x8 x9 x10 x11 x12 x13 x14 : Int32) (r15 r16 r17 r18 : Addr) (hc238 : x8 = x9) (hc245 : x4 = x10) (hc251 : ¬ (x8 = (1 : Int32))) (hc258 : ¬ (x5 = x11)) {target : State} (k : Steps p.tables e below (T.setTop (mkF m 266 #[.val (.int q0), .val (.int q1), .val (.int q2), .val (.int q3), .val (.int x4), .val (.int x5), .val (.int x6), .val (.int x7), .val (.int x8), .val (.int x9), .val (.int x10), .val (.int x11), .val (.int x12), .val (.int x13), .val (.int x14), .val (.ref r15), .val (.ref r16), .val (.ref r17), .val (.ref r18), .unset, .unset] [(.int (0 : Int32))])) target) : Steps p.tables e below (T.setTop (mkF m 234 #[.val (.int q0), .val (.int q1), .val (.int q2), .val (.int q3), .val (.int x4), .val (.int x5), .val (.int x6), .val (.int x7), .val (.int x8), .val (.int x9), .val (.int x10), .val (.int x11), .val (.int x12), .val (.int x13), .val (.int x14), .val (.ref r15), .val (.ref r16), .val (.ref r17), .val (.ref r18), .unset, .unset] [])) target := by
  show Steps p.tables e below (T.setTop (mkF m 234 #[.val (.int q0), .val (.int q1), .val (.int q2), .val (.int q3), .val (.int x4), .val (.int x5), .val (.int x6), .val (.int x7), .val (.int x8), .val (.int x9), .val (.int x10), .val (.int x11), .val (.int x12), .val (.int x13), .val (.int x14), .val (.ref r15), .val (.ref r16), .val (.ref r17), .val (.ref r18), .unset, .unset] [])) _
  refine XS.iload X.here hx rfl (hb hby at_234) rfl ?_
  show Steps p.tables e below (T.setTop (mkF m 236 #[.val (.int q0), .val (.int q1), .val (.int q2), .val (.int q3), .val (.int x4), .val (.int x5), .val (.int x6), .val (.int x7), .val (.int x8), .val (.int x9), .val (.int x10), .val (.int x11), .val (.int x12), .val (.int x13), .val (.int x14), .val (.ref r15), .val (.ref r16), .val (.ref r17), .val (.ref r18), .unset, .unset] [(.int x8)])) _
  refine XS.iload X.here hx rfl (hb hby at_236) rfl ?_
  show Steps p.tables e below (T.setTop (mkF m 238 #[.val (.int q0), .val (.int q1), .val (.int q2), .val (.int q3), .val (.int x4), .val (.int x5), .val (.int x6), .val (.int x7), .val (.int x8), .val (.int x9), .val (.int x10), .val (.int x11), .val (.int x12), .val (.int x13), .val (.int x14), .val (.ref r15), .val (.ref r16), .val (.ref r17), .val (.ref r18), .unset, .unset] [(.int x9), (.int x8)])) _
  refine XS.icmpNo X.here hx rfl (hb hby at_238) rfl (teq hc238).2 ?_
  show Steps p.tables e below (T.setTop (mkF m 241 #[.val (.int q0), .val (.int q1), .val (.int q2), .val (.int q3), .val (.int x4), .val (.int x5), .val (.int x6), .val (.int x7), .val (.int x8), .val (.int x9), .val (.int x10), .val (.int x11), .val (.int x12), .val (.int x13), .val (.int x14), .val (.ref r15), .val (.ref r16), .val (.ref r17), .val (.ref r18), .unset, .unset] [])) _
  refine XS.iload X.here hx rfl (hb hby at_241) rfl ?_
  show Steps p.tables e below (T.setTop (mkF m 243 #[.val (.int q0), .val (.int q1), .val (.int q2), .val (.int q3), .val (.int x4), .val (.int x5), .val (.int x6), .val (.int x7), .val (.int x8), .val (.int x9), .val (.int x10), .val (.int x11), .val (.int x12), .val (.int x13), .val (.int x14), .val (.ref r15), .val (.ref r16), .val (.ref r17), .val (.ref r18), .unset, .unset] [(.int x4)])) _
  refine XS.iload X.here hx rfl (hb hby at_243) rfl ?_
  show Steps p.tables e below (T.setTop (mkF m 245 #[.val (.int q0), .val (.int q1), .val (.int q2), .val (.int q3), .val (.int x4), .val (.int x5), .val (.int x6), .val (.int x7), .val (.int x8), .val (.int x9), .val (.int x10), .val (.int x11), .val (.int x12), .val (.int x13), .val (.int x14), .val (.ref r15), .val (.ref r16), .val (.ref r17), .val (.ref r18), .unset, .unset] [(.int x10), (.int x4)])) _
  refine XS.icmpNo X.here hx rfl (hb hby at_245) rfl (teq hc245).2 ?_
  show Steps p.tables e below (T.setTop (mkF m 248 #[.val (.int q0), .val (.int q1), .val (.int q2), .val (.int q3), .val (.int x4), .val (.int x5), .val (.int x6), .val (.int x7), .val (.int x8), .val (.int x9), .val (.int x10), .val (.int x11), .val (.int x12), .val (.int x13), .val (.int x14), .val (.ref r15), .val (.ref r16), .val (.ref r17), .val (.ref r18), .unset, .unset] [])) _
  refine XS.iload X.here hx rfl (hb hby at_248) rfl ?_
  show Steps p.tables e below (T.setTop (mkF m 250 #[.val (.int q0), .val (.int q1), .val (.int q2), .val (.int q3), .val (.int x4), .val (.int x5), .val (.int x6), .val (.int x7), .val (.int x8), .val (.int x9), .val (.int x10), .val (.int x11), .val (.int x12), .val (.int x13), .val (.int x14), .val (.ref r15), .val (.ref r16), .val (.ref r17), .val (.ref r18), .unset, .unset] [(.int x8)])) _
  refine XS.iconst X.here hx rfl (hb hby at_250) ?_
  show Steps p.tables e below (T.setTop (mkF m 251 #[.val (.int q0), .val (.int q1), .val (.int q2), .val (.int q3), .val (.int x4), .val (.int x5), .val (.int x6), .val (.int x7), .val (.int x8), .val (.int x9), .val (.int x10), .val (.int x11), .val (.int x12), .val (.int x13), .val (.int x14), .val (.ref r15), .val (.ref r16), .val (.ref r17), .val (.ref r18), .unset, .unset] [(.int (1 : Int32)), (.int x8)])) _
  refine XS.icmpNo X.here hx rfl (hb hby at_251) rfl (feq hc251).1 ?_
  show Steps p.tables e below (T.setTop (mkF m 254 #[.val (.int q0), .val (.int q1), .val (.int q2), .val (.int q3), .val (.int x4), .val (.int x5), .val (.int x6), .val (.int x7), .val (.int x8), .val (.int x9), .val (.int x10), .val (.int x11), .val (.int x12), .val (.int x13), .val (.int x14), .val (.ref r15), .val (.ref r16), .val (.ref r17), .val (.ref r18), .unset, .unset] [])) _
  refine XS.iload X.here hx rfl (hb hby at_254) rfl ?_
  show Steps p.tables e below (T.setTop (mkF m 256 #[.val (.int q0), .val (.int q1), .val (.int q2), .val (.int q3), .val (.int x4), .val (.int x5), .val (.int x6), .val (.int x7), .val (.int x8), .val (.int x9), .val (.int x10), .val (.int x11), .val (.int x12), .val (.int x13), .val (.int x14), .val (.ref r15), .val (.ref r16), .val (.ref r17), .val (.ref r18), .unset, .unset] [(.int x5)])) _
  refine XS.iload X.here hx rfl (hb hby at_256) rfl ?_
  show Steps p.tables e below (T.setTop (mkF m 258 #[.val (.int q0), .val (.int q1), .val (.int q2), .val (.int q3), .val (.int x4), .val (.int x5), .val (.int x6), .val (.int x7), .val (.int x8), .val (.int x9), .val (.int x10), .val (.int x11), .val (.int x12), .val (.int x13), .val (.int x14), .val (.ref r15), .val (.ref r16), .val (.ref r17), .val (.ref r18), .unset, .unset] [(.int x11), (.int x5)])) _
  refine XS.icmpYes X.here hx rfl (pc0 := 258) (pc' := 265) rfl (hb hby at_258) rfl (feq hc258).2 (by decide) (by decide) ?_
  show Steps p.tables e below (T.setTop (mkF m 265 #[.val (.int q0), .val (.int q1), .val (.int q2), .val (.int q3), .val (.int x4), .val (.int x5), .val (.int x6), .val (.int x7), .val (.int x8), .val (.int x9), .val (.int x10), .val (.int x11), .val (.int x12), .val (.int x13), .val (.int x14), .val (.ref r15), .val (.ref r16), .val (.ref r17), .val (.ref r18), .unset, .unset] [])) _
  refine XS.iconst X.here hx rfl (hb hby at_265) ?_
  exact k
theorem seg234 {p : Program} {l : Launch} {e : Env} {R : Room} {s : State} {m : MethodId} {args : Array Value} {below : List Frame} {meth : Method} {c : Code} {T : State} {locs : List Loc} {cells slots : Nat} (X : Stand p l e R s m args below meth c T locs cells slots) (hx : p.tables.exec = Jvm.exec) (hby : c.code = code) (q0 q1 q2 q3 x4 x5 x6 x7 x8 x9 x10 x11 x12 x13 x14 x20 : Int32) (r15 r16 r17 r18 : Addr) (hv : x20 = if x8 = x9 ∧ x4 = x10 ∧ (x8 = (1 : Int32) ∨ x5 = x11) then (1 : Int32) else (0 : Int32)) {target : State} (k : Steps p.tables e below (T.setTop (mkF m 266 #[.val (.int q0), .val (.int q1), .val (.int q2), .val (.int q3), .val (.int x4), .val (.int x5), .val (.int x6), .val (.int x7), .val (.int x8), .val (.int x9), .val (.int x10), .val (.int x11), .val (.int x12), .val (.int x13), .val (.int x14), .val (.ref r15), .val (.ref r16), .val (.ref r17), .val (.ref r18), .unset, .unset] [(.int x20)])) target) : Steps p.tables e below (T.setTop (mkF m 234 #[.val (.int q0), .val (.int q1), .val (.int q2), .val (.int q3), .val (.int x4), .val (.int x5), .val (.int x6), .val (.int x7), .val (.int x8), .val (.int x9), .val (.int x10), .val (.int x11), .val (.int x12), .val (.int x13), .val (.int x14), .val (.ref r15), .val (.ref r16), .val (.ref r17), .val (.ref r18), .unset, .unset] [])) target := by
  by_cases h1 : x8 = x9
  · by_cases h2 : x4 = x10
    · by_cases h3 : x8 = (1 : Int32)
      · rw [if_pos ⟨h1, h2, Or.inl h3⟩] at hv; rw [hv] at k; exact seg234_c X hx hby q0 q1 q2 q3 x4 x5 x6 x7 x8 x9 x10 x11 x12 x13 x14 r15 r16 r17 r18 h1 h2 h3 k
      · by_cases h4 : x5 = x11
        · rw [if_pos ⟨h1, h2, Or.inr h4⟩] at hv; rw [hv] at k; exact seg234_d X hx hby q0 q1 q2 q3 x4 x5 x6 x7 x8 x9 x10 x11 x12 x13 x14 r15 r16 r17 r18 h1 h2 h3 h4 k
        · rw [if_neg (fun z => z.2.2.elim h3 h4)] at hv; rw [hv] at k; exact seg234_e X hx hby q0 q1 q2 q3 x4 x5 x6 x7 x8 x9 x10 x11 x12 x13 x14 r15 r16 r17 r18 h1 h2 h3 h4 k
    · rw [if_neg (fun z => h2 z.2.1)] at hv; rw [hv] at k; exact seg234_b X hx hby q0 q1 q2 q3 x4 x5 x6 x7 x8 x9 x10 x11 x12 x13 x14 r15 r16 r17 r18 h1 h2 k
  · rw [if_neg (fun z => h1 z.1)] at hv; rw [hv] at k; exact seg234_a X hx hby q0 q1 q2 q3 x4 x5 x6 x7 x8 x9 x10 x11 x12 x13 x14 r15 r16 r17 r18 h1 k
set_option maxRecDepth 65536 in
theorem seg268_a {p : Program} {l : Launch} {e : Env} {R : Room} {s : State} {m : MethodId} {args : Array Value} {below : List Frame} {meth : Method} {c : Code} {T : State} {locs : List Loc} {cells slots : Nat} (X : Stand p l e R s m args below meth c T locs cells slots) (hx : p.tables.exec = Jvm.exec) (hby : c.code = code) (q0 q1 q2 q3 x4 x5 x6 x7 x8 x9 x10 x11 x12 x13 x14 x20 : Int32) (r15 r16 r17 r18 : Addr) (hc270 : x20 = (0 : Int32)) {target : State} (k : Steps p.tables e below (T.setTop (mkF m 285 #[.val (.int q0), .val (.int q1), .val (.int q2), .val (.int q3), .val (.int x4), .val (.int x5), .val (.int x6), .val (.int x7), .val (.int x8), .val (.int x9), .val (.int x10), .val (.int x11), .val (.int x12), .val (.int x13), .val (.int x14), .val (.ref r15), .val (.ref r16), .val (.ref r17), .val (.ref r18), .unset, .val (.int x20)] [(.int (0 : Int32))])) target) : Steps p.tables e below (T.setTop (mkF m 268 #[.val (.int q0), .val (.int q1), .val (.int q2), .val (.int q3), .val (.int x4), .val (.int x5), .val (.int x6), .val (.int x7), .val (.int x8), .val (.int x9), .val (.int x10), .val (.int x11), .val (.int x12), .val (.int x13), .val (.int x14), .val (.ref r15), .val (.ref r16), .val (.ref r17), .val (.ref r18), .unset, .val (.int x20)] [])) target := by
  show Steps p.tables e below (T.setTop (mkF m 268 #[.val (.int q0), .val (.int q1), .val (.int q2), .val (.int q3), .val (.int x4), .val (.int x5), .val (.int x6), .val (.int x7), .val (.int x8), .val (.int x9), .val (.int x10), .val (.int x11), .val (.int x12), .val (.int x13), .val (.int x14), .val (.ref r15), .val (.ref r16), .val (.ref r17), .val (.ref r18), .unset, .val (.int x20)] [])) _
  refine XS.iload X.here hx rfl (hb hby at_268) rfl ?_
  show Steps p.tables e below (T.setTop (mkF m 270 #[.val (.int q0), .val (.int q1), .val (.int q2), .val (.int q3), .val (.int x4), .val (.int x5), .val (.int x6), .val (.int x7), .val (.int x8), .val (.int x9), .val (.int x10), .val (.int x11), .val (.int x12), .val (.int x13), .val (.int x14), .val (.ref r15), .val (.ref r16), .val (.ref r17), .val (.ref r18), .unset, .val (.int x20)] [(.int x20)])) _
  refine XS.ifYes X.here hx rfl (pc0 := 270) (pc' := 284) rfl (hb hby at_270) rfl ((if0 _ _).trans (teq hc270).1) (by decide) (by decide) ?_
  show Steps p.tables e below (T.setTop (mkF m 284 #[.val (.int q0), .val (.int q1), .val (.int q2), .val (.int q3), .val (.int x4), .val (.int x5), .val (.int x6), .val (.int x7), .val (.int x8), .val (.int x9), .val (.int x10), .val (.int x11), .val (.int x12), .val (.int x13), .val (.int x14), .val (.ref r15), .val (.ref r16), .val (.ref r17), .val (.ref r18), .unset, .val (.int x20)] [])) _
  refine XS.iconst X.here hx rfl (hb hby at_284) ?_
  exact k
set_option maxRecDepth 65536 in
theorem seg268_b {p : Program} {l : Launch} {e : Env} {R : Room} {s : State} {m : MethodId} {args : Array Value} {below : List Frame} {meth : Method} {c : Code} {T : State} {locs : List Loc} {cells slots : Nat} (X : Stand p l e R s m args below meth c T locs cells slots) (hx : p.tables.exec = Jvm.exec) (hby : c.code = code) (q0 q1 q2 q3 x4 x5 x6 x7 x8 x9 x10 x11 x12 x13 x14 x20 : Int32) (r15 r16 r17 r18 : Addr) (hc270 : ¬ (x20 = (0 : Int32))) (hc277 : ¬ (x12 = x13)) {target : State} (k : Steps p.tables e below (T.setTop (mkF m 285 #[.val (.int q0), .val (.int q1), .val (.int q2), .val (.int q3), .val (.int x4), .val (.int x5), .val (.int x6), .val (.int x7), .val (.int x8), .val (.int x9), .val (.int x10), .val (.int x11), .val (.int x12), .val (.int x13), .val (.int x14), .val (.ref r15), .val (.ref r16), .val (.ref r17), .val (.ref r18), .unset, .val (.int x20)] [(.int (0 : Int32))])) target) : Steps p.tables e below (T.setTop (mkF m 268 #[.val (.int q0), .val (.int q1), .val (.int q2), .val (.int q3), .val (.int x4), .val (.int x5), .val (.int x6), .val (.int x7), .val (.int x8), .val (.int x9), .val (.int x10), .val (.int x11), .val (.int x12), .val (.int x13), .val (.int x14), .val (.ref r15), .val (.ref r16), .val (.ref r17), .val (.ref r18), .unset, .val (.int x20)] [])) target := by
  show Steps p.tables e below (T.setTop (mkF m 268 #[.val (.int q0), .val (.int q1), .val (.int q2), .val (.int q3), .val (.int x4), .val (.int x5), .val (.int x6), .val (.int x7), .val (.int x8), .val (.int x9), .val (.int x10), .val (.int x11), .val (.int x12), .val (.int x13), .val (.int x14), .val (.ref r15), .val (.ref r16), .val (.ref r17), .val (.ref r18), .unset, .val (.int x20)] [])) _
  refine XS.iload X.here hx rfl (hb hby at_268) rfl ?_
  show Steps p.tables e below (T.setTop (mkF m 270 #[.val (.int q0), .val (.int q1), .val (.int q2), .val (.int q3), .val (.int x4), .val (.int x5), .val (.int x6), .val (.int x7), .val (.int x8), .val (.int x9), .val (.int x10), .val (.int x11), .val (.int x12), .val (.int x13), .val (.int x14), .val (.ref r15), .val (.ref r16), .val (.ref r17), .val (.ref r18), .unset, .val (.int x20)] [(.int x20)])) _
  refine XS.ifNo X.here hx rfl (hb hby at_270) rfl ((if0 _ _).trans (feq hc270).1) ?_
  show Steps p.tables e below (T.setTop (mkF m 273 #[.val (.int q0), .val (.int q1), .val (.int q2), .val (.int q3), .val (.int x4), .val (.int x5), .val (.int x6), .val (.int x7), .val (.int x8), .val (.int x9), .val (.int x10), .val (.int x11), .val (.int x12), .val (.int x13), .val (.int x14), .val (.ref r15), .val (.ref r16), .val (.ref r17), .val (.ref r18), .unset, .val (.int x20)] [])) _
  refine XS.iload X.here hx rfl (hb hby at_273) rfl ?_
  show Steps p.tables e below (T.setTop (mkF m 275 #[.val (.int q0), .val (.int q1), .val (.int q2), .val (.int q3), .val (.int x4), .val (.int x5), .val (.int x6), .val (.int x7), .val (.int x8), .val (.int x9), .val (.int x10), .val (.int x11), .val (.int x12), .val (.int x13), .val (.int x14), .val (.ref r15), .val (.ref r16), .val (.ref r17), .val (.ref r18), .unset, .val (.int x20)] [(.int x12)])) _
  refine XS.iload X.here hx rfl (hb hby at_275) rfl ?_
  show Steps p.tables e below (T.setTop (mkF m 277 #[.val (.int q0), .val (.int q1), .val (.int q2), .val (.int q3), .val (.int x4), .val (.int x5), .val (.int x6), .val (.int x7), .val (.int x8), .val (.int x9), .val (.int x10), .val (.int x11), .val (.int x12), .val (.int x13), .val (.int x14), .val (.ref r15), .val (.ref r16), .val (.ref r17), .val (.ref r18), .unset, .val (.int x20)] [(.int x13), (.int x12)])) _
  refine XS.icmpYes X.here hx rfl (pc0 := 277) (pc' := 284) rfl (hb hby at_277) rfl (feq hc277).2 (by decide) (by decide) ?_
  show Steps p.tables e below (T.setTop (mkF m 284 #[.val (.int q0), .val (.int q1), .val (.int q2), .val (.int q3), .val (.int x4), .val (.int x5), .val (.int x6), .val (.int x7), .val (.int x8), .val (.int x9), .val (.int x10), .val (.int x11), .val (.int x12), .val (.int x13), .val (.int x14), .val (.ref r15), .val (.ref r16), .val (.ref r17), .val (.ref r18), .unset, .val (.int x20)] [])) _
  refine XS.iconst X.here hx rfl (hb hby at_284) ?_
  exact k
set_option maxRecDepth 65536 in
theorem seg268_c {p : Program} {l : Launch} {e : Env} {R : Room} {s : State} {m : MethodId} {args : Array Value} {below : List Frame} {meth : Method} {c : Code} {T : State} {locs : List Loc} {cells slots : Nat} (X : Stand p l e R s m args below meth c T locs cells slots) (hx : p.tables.exec = Jvm.exec) (hby : c.code = code) (q0 q1 q2 q3 x4 x5 x6 x7 x8 x9 x10 x11 x12 x13 x14 x20 : Int32) (r15 r16 r17 r18 : Addr) (hc270 : ¬ (x20 = (0 : Int32))) (hc277 : x12 = x13) {target : State} (k : Steps p.tables e below (T.setTop (mkF m 285 #[.val (.int q0), .val (.int q1), .val (.int q2), .val (.int q3), .val (.int x4), .val (.int x5), .val (.int x6), .val (.int x7), .val (.int x8), .val (.int x9), .val (.int x10), .val (.int x11), .val (.int x12), .val (.int x13), .val (.int x14), .val (.ref r15), .val (.ref r16), .val (.ref r17), .val (.ref r18), .unset, .val (.int x20)] [(.int (1 : Int32))])) target) : Steps p.tables e below (T.setTop (mkF m 268 #[.val (.int q0), .val (.int q1), .val (.int q2), .val (.int q3), .val (.int x4), .val (.int x5), .val (.int x6), .val (.int x7), .val (.int x8), .val (.int x9), .val (.int x10), .val (.int x11), .val (.int x12), .val (.int x13), .val (.int x14), .val (.ref r15), .val (.ref r16), .val (.ref r17), .val (.ref r18), .unset, .val (.int x20)] [])) target := by
  show Steps p.tables e below (T.setTop (mkF m 268 #[.val (.int q0), .val (.int q1), .val (.int q2), .val (.int q3), .val (.int x4), .val (.int x5), .val (.int x6), .val (.int x7), .val (.int x8), .val (.int x9), .val (.int x10), .val (.int x11), .val (.int x12), .val (.int x13), .val (.int x14), .val (.ref r15), .val (.ref r16), .val (.ref r17), .val (.ref r18), .unset, .val (.int x20)] [])) _
  refine XS.iload X.here hx rfl (hb hby at_268) rfl ?_
  show Steps p.tables e below (T.setTop (mkF m 270 #[.val (.int q0), .val (.int q1), .val (.int q2), .val (.int q3), .val (.int x4), .val (.int x5), .val (.int x6), .val (.int x7), .val (.int x8), .val (.int x9), .val (.int x10), .val (.int x11), .val (.int x12), .val (.int x13), .val (.int x14), .val (.ref r15), .val (.ref r16), .val (.ref r17), .val (.ref r18), .unset, .val (.int x20)] [(.int x20)])) _
  refine XS.ifNo X.here hx rfl (hb hby at_270) rfl ((if0 _ _).trans (feq hc270).1) ?_
  show Steps p.tables e below (T.setTop (mkF m 273 #[.val (.int q0), .val (.int q1), .val (.int q2), .val (.int q3), .val (.int x4), .val (.int x5), .val (.int x6), .val (.int x7), .val (.int x8), .val (.int x9), .val (.int x10), .val (.int x11), .val (.int x12), .val (.int x13), .val (.int x14), .val (.ref r15), .val (.ref r16), .val (.ref r17), .val (.ref r18), .unset, .val (.int x20)] [])) _
  refine XS.iload X.here hx rfl (hb hby at_273) rfl ?_
  show Steps p.tables e below (T.setTop (mkF m 275 #[.val (.int q0), .val (.int q1), .val (.int q2), .val (.int q3), .val (.int x4), .val (.int x5), .val (.int x6), .val (.int x7), .val (.int x8), .val (.int x9), .val (.int x10), .val (.int x11), .val (.int x12), .val (.int x13), .val (.int x14), .val (.ref r15), .val (.ref r16), .val (.ref r17), .val (.ref r18), .unset, .val (.int x20)] [(.int x12)])) _
  refine XS.iload X.here hx rfl (hb hby at_275) rfl ?_
  show Steps p.tables e below (T.setTop (mkF m 277 #[.val (.int q0), .val (.int q1), .val (.int q2), .val (.int q3), .val (.int x4), .val (.int x5), .val (.int x6), .val (.int x7), .val (.int x8), .val (.int x9), .val (.int x10), .val (.int x11), .val (.int x12), .val (.int x13), .val (.int x14), .val (.ref r15), .val (.ref r16), .val (.ref r17), .val (.ref r18), .unset, .val (.int x20)] [(.int x13), (.int x12)])) _
  refine XS.icmpNo X.here hx rfl (hb hby at_277) rfl (teq hc277).2 ?_
  show Steps p.tables e below (T.setTop (mkF m 280 #[.val (.int q0), .val (.int q1), .val (.int q2), .val (.int q3), .val (.int x4), .val (.int x5), .val (.int x6), .val (.int x7), .val (.int x8), .val (.int x9), .val (.int x10), .val (.int x11), .val (.int x12), .val (.int x13), .val (.int x14), .val (.ref r15), .val (.ref r16), .val (.ref r17), .val (.ref r18), .unset, .val (.int x20)] [])) _
  refine XS.iconst X.here hx rfl (hb hby at_280) ?_
  show Steps p.tables e below (T.setTop (mkF m 281 #[.val (.int q0), .val (.int q1), .val (.int q2), .val (.int q3), .val (.int x4), .val (.int x5), .val (.int x6), .val (.int x7), .val (.int x8), .val (.int x9), .val (.int x10), .val (.int x11), .val (.int x12), .val (.int x13), .val (.int x14), .val (.ref r15), .val (.ref r16), .val (.ref r17), .val (.ref r18), .unset, .val (.int x20)] [(.int (1 : Int32))])) _
  refine XS.goto X.here hx rfl (pc0 := 281) (pc' := 285) rfl (hb hby at_281) (by decide) (by decide) ?_
  exact k
theorem seg268 {p : Program} {l : Launch} {e : Env} {R : Room} {s : State} {m : MethodId} {args : Array Value} {below : List Frame} {meth : Method} {c : Code} {T : State} {locs : List Loc} {cells slots : Nat} (X : Stand p l e R s m args below meth c T locs cells slots) (hx : p.tables.exec = Jvm.exec) (hby : c.code = code) (q0 q1 q2 q3 x4 x5 x6 x7 x8 x9 x10 x11 x12 x13 x14 x20 x19 : Int32) (r15 r16 r17 r18 : Addr) (hv : x19 = if x20 = (0 : Int32) then (0 : Int32) else (if x12 = x13 then (1 : Int32) else (0 : Int32))) {target : State} (k : Steps p.tables e below (T.setTop (mkF m 285 #[.val (.int q0), .val (.int q1), .val (.int q2), .val (.int q3), .val (.int x4), .val (.int x5), .val (.int x6), .val (.int x7), .val (.int x8), .val (.int x9), .val (.int x10), .val (.int x11), .val (.int x12), .val (.int x13), .val (.int x14), .val (.ref r15), .val (.ref r16), .val (.ref r17), .val (.ref r18), .unset, .val (.int x20)] [(.int x19)])) target) : Steps p.tables e below (T.setTop (mkF m 268 #[.val (.int q0), .val (.int q1), .val (.int q2), .val (.int q3), .val (.int x4), .val (.int x5), .val (.int x6), .val (.int x7), .val (.int x8), .val (.int x9), .val (.int x10), .val (.int x11), .val (.int x12), .val (.int x13), .val (.int x14), .val (.ref r15), .val (.ref r16), .val (.ref r17), .val (.ref r18), .unset, .val (.int x20)] [])) target := by
  by_cases h1 : x20 = (0 : Int32)
  · rw [if_pos h1] at hv; rw [hv] at k; exact seg268_a X hx hby q0 q1 q2 q3 x4 x5 x6 x7 x8 x9 x10 x11 x12 x13 x14 x20 r15 r16 r17 r18 h1 k
  · rw [if_neg h1] at hv
    by_cases h2 : x12 = x13
    · rw [if_pos h2] at hv; rw [hv] at k; exact seg268_c X hx hby q0 q1 q2 q3 x4 x5 x6 x7 x8 x9 x10 x11 x12 x13 x14 x20 r15 r16 r17 r18 h1 h2 k
    · rw [if_neg h2] at hv; rw [hv] at k; exact seg268_b X hx hby q0 q1 q2 q3 x4 x5 x6 x7 x8 x9 x10 x11 x12 x13 x14 x20 r15 r16 r17 r18 h1 h2 k
def Q0 (h0 : Heap) (n0 : Nat) (v : Option Value) (h : Heap) (L : List Loc) : Prop := v = some (.int (1 : Int32)) ∧ Fr n0 L
theorem pd_7 : parseMethodDescriptor "(ICC)Ljava/lang/String;" = some ⟨[.int, .char, .char], some (.object "java/lang/String")⟩ := by decide +kernel
theorem pd_8 : parseMethodDescriptor "(Ljava/lang/String;Z)V" = some ⟨[(.object "java/lang/String"), .boolean], none⟩ := by decide +kernel
theorem ef_IIII_21m (m : MethodId) (x0 : Int32) (x1 : Int32) (x2 : Int32) (x3 : Int32) : entryFrame m #[(.int x0), (.int x1), (.int x2), (.int x3)] maxLocals = mkF m 0 #[.val (.int x0), .val (.int x1), .val (.int x2), .val (.int x3), .unset, .unset, .unset, .unset, .unset, .unset, .unset, .unset, .unset, .unset, .unset, .unset, .unset, .unset, .unset, .unset, .unset] [] := by first | (simp [entryFrame, mkF, argsToLocals, Value.category, maxLocals]; done) | rfl
set_option maxRecDepth 65536 in
set_option maxHeartbeats 40000000 in
theorem rm0_2 (l : Launch) (Z : State) (a0 : Array Value) (hw : ∀ d ∈ tables_1, d.before a0 Z = true) (ws : List Jvm.Cond) (q0 q1 q2 q3 : Int32) (G1 : Int32) (x4 x5 x6 x7 x8 x9 x10 x11 x12 x13 x14 : Int32) (cs1 cs2 : List Int32) (h0 : Heap) (n0 : Nat) (O0 : Old Z n0 h0) (S_CS : Sta Z Z.heap "java/lang/String" "COMPACT_STRINGS" "Z" (.int G1)) (hG1 : ¬ (G1 = (0 : Int32))) (h9 : x9 = if (((q2.toUInt32 >>> ((2 : Int32) &&& 31).toUInt32).toInt32) &&& (1 : Int32)) = (0 : Int32) then ((1 : Int32) + (((q3.toUInt32 >>> ((1 : Int32) &&& 31).toUInt32).toInt32) &&& (1 : Int32))) else x8) (h10 : x10 = if (q2 &&& (1 : Int32)) = (0 : Int32) then x6 else x4) (h11 : x11 = if (((q2.toUInt32 >>> ((1 : Int32) &&& 31).toUInt32).toInt32) &&& (1 : Int32)) = (0 : Int32) then x7 else x5) (h12 : x12 = if (((q3.toUInt32 >>> ((2 : Int32) &&& 31).toUInt32).toInt32) &&& (1 : Int32)) = (0 : Int32) then (0 : Int32) else (1 : Int32)) (h13 : x13 = if (((q2.toUInt32 >>> ((3 : Int32) &&& 31).toUInt32).toInt32) &&& (1 : Int32)) = (0 : Int32) then (if (((q3.toUInt32 >>> ((3 : Int32) &&& 31).toUInt32).toInt32) &&& (1 : Int32)) = (0 : Int32) then (0 : Int32) else (1 : Int32)) else x12) (hcs1 : cs1 = mk x8 x4 x5) (hcs2 : cs2 = mk x9 x10 x11) (hg4 : ¬ x4 < 0 ∧ ¬ (255 : Int32) < x4) (hg5 : ¬ x5 < 0 ∧ ¬ (255 : Int32) < x5) (hg10 : ¬ x10 < 0 ∧ ¬ (255 : Int32) < x10) (hg11 : ¬ x11 < 0 ∧ ¬ (255 : Int32) < x11) (hl1 : ¬ cs1.length = 0) (hl2 : ¬ cs2.length = 0) (ha12 : (x12 &&& 1) = x12) (ha13 : (x13 &&& 1) = x13) (k2 : x14 = 2) (h4 : ((q0 &&& (255 : Int32)).toUInt32.toUInt16.toUInt32.toInt32) = x4) (h5 : ((((q0.toUInt32 >>> ((8 : Int32) &&& 31).toUInt32).toInt32) &&& (255 : Int32)).toUInt32.toUInt16.toUInt32.toInt32) = x5) (h6 : ((q1 &&& (255 : Int32)).toUInt32.toUInt16.toUInt32.toInt32) = x6) (h7 : ((((q1.toUInt32 >>> ((8 : Int32) &&& 31).toUInt32).toInt32) &&& (255 : Int32)).toUInt32.toUInt16.toUInt32.toInt32) = x7) (h8 : ((1 : Int32) + (q3 &&& (1 : Int32))) = x8) (h14 : (((q3.toUInt32 >>> ((4 : Int32) &&& 31).toUInt32).toInt32) &&& (3 : Int32)) = x14) :
    MetFree l x (head1 (Jvm.Cond.code x code maxLocals ret :: ws) room_1) (fun a_ U => a_ = #[(.int q0), (.int q1), (.int q2), (.int q3)] ∧ Z.Warmed39 U.vm ∧ U.heap = h0) (fun _ _ _ _ _ => True) (fun _ U o U' => ∃ v L, o = .returned v ∧ Q0 h0 n0 v U'.heap L ∧ FrameEnd U o U' L room_1.cells room_1.slots) := by
  refine MetFree.of_bodySF (plainFor_of_name pn_2) hisR ?_
  intro p e s m args below meth c s₁ Bd hml0 hP hK
  obtain ⟨rfl, hZ, hh⟩ := hP
  have hx := Bd.exec
  have hby := Bd.bytes
  have hml : c.maxLocals = 21 := hml0
  have hown : s.vm.findClass "com/example/exact_repository/exactrepository/OrderEqualsPinLaw" = some m.cls := findClass_of_methodNamed Bd.named
  have hnm := (name_of_methodNamed Bd.named Bd.method).1
  have X0 : Stand p l e room_1 s m #[(.int q0), (.int q1), (.int q2), (.int q3)] below meth c s₁ [] 0 0 := Stand.of_body Bd
  have e0 : s₁.heap = h0 := by rw [← hh, Bd.state]; rfl
  have N0 := Fr.nil n0
  have pre0 : ∀ tg, Steps p.tables e below (s₁.setTop (mkF m 0 #[.val (.int q0), .val (.int q1), .val (.int q2), .val (.int q3), .unset, .unset, .unset, .unset, .unset, .unset, .unset, .unset, .unset, .unset, .unset, .unset, .unset, .unset, .unset, .unset, .unset] [])) tg → Steps p.tables e below (s₁.setTop (entryFrame m #[(.int q0), (.int q1), (.int q2), (.int q3)] maxLocals)) tg := fun tg kq => castTop (ef_IIII_21m m q0 q1 q2 q3) kq
  obtain ⟨_, _, ⟨T102, L102, k102, n102⟩, -, X102, ⟨Lc102, hQ102, l102, y102, z102⟩, st102⟩ := Jvm.LawKit.callS X0 hx (y := (⟨"com/example/exact_repository/exactrepository/OrderEqualsPinLaw", "make", "(ICC)Ljava/lang/String;"⟩ : MethodName)) hown (mvT hZ (wi hw 0 rfl)) (mvT hZ (wi hw 1 rfl)) (mvT hZ (wi hw 2 rfl)) (mvT hZ (wi hw 3 rfl)) (by decide) (backOf (W := 0) (rm1 l Z a0 hw [] G1 x8 x4 x5 cs1 h0 n0 O0 S_CS hG1 hg4 hg5 hcs1) hZ (wi hw 3 rfl) (wi hw 2 rfl) (by decide) (by decide)) (g := (mkF m 155 #[.val (.int q0), .val (.int q1), .val (.int q2), .val (.int q3), .val (.int x4), .val (.int x5), .val (.int x6), .val (.int x7), .val (.int x8), .val (.int x9), .val (.int x10), .val (.int x11), .val (.int x12), .val (.int x13), .val (.int x14), .unset, .unset, .unset, .unset, .unset, .unset] [(.int x5), (.int x4), (.int x8)])) rfl (by rw [hml]; rfl) (argsL := [(.int x8), (.int x4), (.int x5)]) (rest := []) (lenOf pd_7 rfl) rfl (by show 2 * 0 + _ ≤ _; exact Nat.le_of_eq rfl) (hb hby at_155) (fun _ _ => ⟨rfl, e0, (by decide : 0 + 3 ≤ _), (by decide : 0 + 8 ≤ _)⟩)
  dsimp only [Pt.U, Pt.locs, Pt.cells, Pt.slots] at X102 l102 y102 z102 st102 hQ102
  subst l102 y102 z102
  obtain ⟨xs1, rfl, N102q, K102, szx102, T102q⟩ := hQ102
  obtain ⟨h102, e102⟩ : ∃ z, T102.heap = z := ⟨_, rfl⟩
  rw [e102] at K102 T102q
  obtain ⟨tz1, kbz1, Nz1, vsz1, sEz1, sVz1, sCz1, sKz1, scdz1, shpz1, shlz1⟩ := id T102q
  have g_xs1 : n0 ≤ xs1 := Nat.le_trans (O0.1 ▸ O0.2.1) szx102
  have sz_xs1 : h0.size ≤ xs1 := Nat.le_trans (Nat.le_refl _) szx102
  have O102 := O0.keep K102 all0
  have KK102 : Keep h0 h102 [] := (Keep.refl h0 []).trans K102 all0
  have N102 := Fr.app N0 N102q
  obtain ⟨_, _, ⟨T104, L104, k104, n104⟩, -, X104, ⟨Lc104, hQ104, l104, y104, z104⟩, st104⟩ := Jvm.LawKit.callS X102 hx (y := (⟨"com/example/exact_repository/exactrepository/OrderEqualsPinLaw", "make", "(ICC)Ljava/lang/String;"⟩ : MethodName)) hown (mvT hZ (wi hw 0 rfl)) (mvT hZ (wi hw 1 rfl)) (mvT hZ (wi hw 2 rfl)) (mvT hZ (wi hw 3 rfl)) (by decide) (backOf (W := 0) (rm1 l Z a0 hw [] G1 x9 x10 x11 cs2 h102 n0 O102 S_CS hG1 hg10 hg11 hcs2) hZ (wi hw 3 rfl) (wi hw 2 rfl) (by decide) (by decide)) (g := (mkF m 166 #[.val (.int q0), .val (.int q1), .val (.int q2), .val (.int q3), .val (.int x4), .val (.int x5), .val (.int x6), .val (.int x7), .val (.int x8), .val (.int x9), .val (.int x10), .val (.int x11), .val (.int x12), .val (.int x13), .val (.int x14), .val (.ref xs1), .unset, .unset, .unset, .unset, .unset] [(.int x11), (.int x10), (.int x9)])) rfl (by rw [hml]; rfl) (argsL := [(.int x9), (.int x10), (.int x11)]) (rest := []) (lenOf pd_7 rfl) rfl (by show 2 * 0 + _ ≤ _; exact Nat.le_of_eq rfl) (hb hby at_166) (fun _ _ => ⟨rfl, e102, (by decide : 3 + 3 ≤ _), (by decide : 8 + 8 ≤ _)⟩)
  dsimp only [Pt.U, Pt.locs, Pt.cells, Pt.slots] at X104 l104 y104 z104 st104 hQ104
  subst l104 y104 z104
  obtain ⟨xs2, rfl, N104q, K104, szx104, T104q⟩ := hQ104
  obtain ⟨h104, e104⟩ : ∃ z, T104.heap = z := ⟨_, rfl⟩
  rw [e104] at K104 T104q
  obtain ⟨tz2, kbz2, Nz2, vsz2, sEz2, sVz2, sCz2, sKz2, scdz2, shpz2, shlz2⟩ := id T104q
  have g_xs2 : n0 ≤ xs2 := Nat.le_trans (O102.1 ▸ O102.2.1) szx104
  have sz_xs2 : h0.size ≤ xs2 := Nat.le_trans KK102.1 szx104
  have O104 := O102.keep K104 all0
  have KK104 : Keep h0 h104 [] := KK102.trans K104 all0
  have N104 := Fr.app N102 N104q
  obtain ⟨T105, h105, X105, e105, E105, A105, D105, -, st105⟩ := newO X104 hx hZ hown (wi hw 48 rfl) (wi hw 49 rfl) (wi hw 50 rfl) e104 (g := (mkF m 171 #[.val (.int q0), .val (.int q1), .val (.int q2), .val (.int q3), .val (.int x4), .val (.int x5), .val (.int x6), .val (.int x7), .val (.int x8), .val (.int x9), .val (.int x10), .val (.int x11), .val (.int x12), .val (.int x13), .val (.int x14), .val (.ref xs1), .val (.ref xs2), .unset, .unset, .unset, .unset] [])) rfl (hb hby at_171) (by decide) (by decide)
  obtain ⟨b105, g105⟩ : ∃ z, z = h104.size := ⟨_, rfl⟩
  rw [← g105] at A105 D105 st105
  have g_b105 : n0 ≤ b105 := Nat.le_trans (O104.1 ▸ O104.2.1) (Nat.le_of_eq g105.symm)
  have sz_b105 : h0.size ≤ b105 := Nat.le_trans KK104.1 (Nat.le_of_eq g105.symm)
  have O105 := O104.ext E105
  have KK105 : Keep h0 h105 [] := KK104.ext E105
  have F_property_b105 : Fld Z h105 b105 "com/example/exact_repository/exactrepository/Sort$Order" "property" "Ljava/lang/String;" .null := D105 (Or.inr (wi hw 61 rfl)) (ty := (.object "java/lang/String")) (by decide)
  have F_ascending_b105 : Fld Z h105 b105 "com/example/exact_repository/exactrepository/Sort$Order" "ascending" "Z" (.int (0 : Int32)) := D105 (Or.inr (wi hw 63 rfl)) (ty := .boolean) (by decide)
  have fE_xs1_3_106 := ((sEz1.keep K104).ext E105)
  have fString_value_3_107 := ((sVz1.keep K104 nin0).ext E105)
  have fString_coder_3_108 := ((sCz1.keep K104 nin0).ext E105)
  have fV_tz1_3_109 := ((sKz1.keep K104 nin0).ext E105)
  obtain ⟨_, _, ⟨T110, L110, k110, n110⟩, -, X110, ⟨Lc110, hQ110, l110, y110, z110⟩, st110⟩ := X105.specialBack hx (y := (⟨"com/example/exact_repository/exactrepository/Sort$Order", "<init>", "(Ljava/lang/String;Z)V"⟩ : MethodName)) rfl hown (mvT hZ (wi hw 51 rfl)) (mvT hZ (wi hw 52 rfl)) (mvT hZ (wi hw 53 rfl)) (by decide) (backOf (W := 1) (rm12 l Z a0 hw [] b105 xs1 x12 cs1 h105 n0 O105 ⟨A105, F_property_b105, F_ascending_b105⟩ ⟨_, _, _, _, fE_xs1_3_106, fString_value_3_107, fString_coder_3_108, fV_tz1_3_109, scdz1, shpz1, shlz1⟩ hl1 ha12 g_b105) hZ (wi hw 53 rfl) (wi hw 50 rfl) (by decide) (by decide)) (g := (mkF m 179 #[.val (.int q0), .val (.int q1), .val (.int q2), .val (.int q3), .val (.int x4), .val (.int x5), .val (.int x6), .val (.int x7), .val (.int x8), .val (.int x9), .val (.int x10), .val (.int x11), .val (.int x12), .val (.int x13), .val (.int x14), .val (.ref xs1), .val (.ref xs2), .unset, .unset, .unset, .unset] [(.int x12), (.ref xs1), (.ref b105), (.ref b105)])) rfl (by rw [hml]; rfl) (Steps.refl _) (a := b105) (argsL := [(.ref xs1), (.int x12)]) (rest := [(.ref b105)]) (lenOf pd_8 rfl) rfl (by show 2 * 0 + _ ≤ _; exact Nat.le_of_eq rfl) (hb hby at_179) (fun _ _ => ⟨rfl, e105, (by decide : 7 + 0 ≤ _), (by decide : 18 + 0 ≤ _)⟩)
  dsimp only [Pt.U, Pt.locs, Pt.cells, Pt.slots] at X110 l110 y110 z110 st110 hQ110
  subst l110 y110 z110
  obtain ⟨rfl, N110q, K110, oE110, oP110, oA110⟩ := hQ110
  obtain ⟨h110, e110⟩ : ∃ z, T110.heap = z := ⟨_, rfl⟩
  rw [e110] at K110 oE110 oP110 oA110
  have O110 := O105.keep K110 (allS g_b105 all0)
  have KK110 : Keep h0 h110 [] := KK105.trans K110 (allS (Or.inr sz_b105) all0)
  have N110 := Fr.app N104 N110q
  obtain ⟨cq111, kq111, q111a, q111b, q111c⟩ := isOf hZ e110 oE110
  obtain ⟨_, _, ⟨T111, L111, k111, n111⟩, -, X111, ⟨Lc111, hQ111, l111, y111, z111⟩, st111⟩ := X110.virtualBack hx (y := (⟨"com/example/exact_repository/exactrepository/Sort$Order", "equals", "(Ljava/lang/Object;)Z"⟩ : MethodName)) (z := (⟨"com/example/exact_repository/exactrepository/Sort$Order", "equals", "(Ljava/lang/Object;)Z"⟩ : MethodName)) hown (mvT hZ (wi hw 64 rfl)) (mvT hZ (wi hw 65 rfl)) (notFace_of_selects (args := #[]) (mvT hZ (wi hw 67 rfl))) (mvT hZ (wi hw 67 rfl)) (mvT hZ (wi hw 66 rfl)) (by decide) (backOf (W := 0) (rm14_n l Z a0 hw [] b105 h110 n0 O110) hZ (wi hw 68 rfl) (wi hw 50 rfl) (by decide) (by decide)) q111a q111c (g := (mkF m 291 #[.val (.int q0), .val (.int q1), .val (.int q2), .val (.int q3), .val (.int x4), .val (.int x5), .val (.int x6), .val (.int x7), .val (.int x8), .val (.int x9), .val (.int x10), .val (.int x11), .val (.int x12), .val (.int x13), .val (.int x14), .val (.ref xs1), .val (.ref xs2), .val (.ref b105), .val .null, .val (.int (0 : Int32)), .unset] [.null, (.ref b105)])) rfl (by rw [hml]; rfl) (Steps.refl _) (argsL := [.null]) (rest := []) (lenOf pd_6 rfl) rfl (by show 2 * 0 + _ ≤ _; exact Nat.le_of_eq rfl) (hb hby at_291) (fun _ _ => ⟨rfl, e110, (by decide : 7 + 0 ≤ _), (by decide : 18 + 0 ≤ _)⟩)
  dsimp only [Pt.U, Pt.locs, Pt.cells, Pt.slots] at X111 l111 y111 z111 st111 hQ111
  subst l111 y111 z111
  obtain ⟨rfl, N111q, hh111⟩ := hQ111
  have e111 : T111.heap = h110 := hh111
  have N111 := Fr.app N110 N111q
  obtain ⟨fs, hr, hrun, hended, hW, hsame⟩ := X111.leave (v := some (.int (1 : Int32))) (fun h => by rw [Bd.returns] at h; cases h)
  refine ⟨_, _, pre0 _ ?_, hrun, hended, _, _, rfl, ?_, ⟨_, rfl⟩, hW, hsame.mono (by decide) (by decide)⟩
  · show Steps p.tables e below (s₁.setTop (mkF m 0 #[.val (.int q0), .val (.int q1), .val (.int q2), .val (.int q3), .unset, .unset, .unset, .unset, .unset, .unset, .unset, .unset, .unset, .unset, .unset, .unset, .unset, .unset, .unset, .unset, .unset] [])) _
    refine XS.iloadN X0.here hx rfl (hb hby at_0) rfl ?_
    show Steps p.tables e below (s₁.setTop (mkF m 1 #[.val (.int q0), .val (.int q1), .val (.int q2), .val (.int q3), .unset, .unset, .unset, .unset, .unset, .unset, .unset, .unset, .unset, .unset, .unset, .unset, .unset, .unset, .unset, .unset, .unset] [(.int q0)])) _
    refine XS.sipush X0.here hx rfl (hb hby at_1) ?_
    show Steps p.tables e below (s₁.setTop (mkF m 4 #[.val (.int q0), .val (.int q1), .val (.int q2), .val (.int q3), .unset, .unset, .unset, .unset, .unset, .unset, .unset, .unset, .unset, .unset, .unset, .unset, .unset, .unset, .unset, .unset, .unset] [(.int (255 : Int32)), (.int q0)])) _
    refine XS.iand X0.here hx rfl (hb hby at_4) rfl ?_
    show Steps p.tables e below (s₁.setTop (mkF m 5 #[.val (.int q0), .val (.int q1), .val (.int q2), .val (.int q3), .unset, .unset, .unset, .unset, .unset, .unset, .unset, .unset, .unset, .unset, .unset, .unset, .unset, .unset, .unset, .unset, .unset] [(.int (q0 &&& (255 : Int32)))])) _
    refine XS.i2c X0.here hx rfl (hb hby at_5) rfl ?_
    show Steps p.tables e below (s₁.setTop (mkF m 6 #[.val (.int q0), .val (.int q1), .val (.int q2), .val (.int q3), .unset, .unset, .unset, .unset, .unset, .unset, .unset, .unset, .unset, .unset, .unset, .unset, .unset, .unset, .unset, .unset, .unset] [(.int ((q0 &&& (255 : Int32)).toUInt32.toUInt16.toUInt32.toInt32))])) _
    rw [h4]
    show Steps p.tables e below (s₁.setTop (mkF m 6 #[.val (.int q0), .val (.int q1), .val (.int q2), .val (.int q3), .unset, .unset, .unset, .unset, .unset, .unset, .unset, .unset, .unset, .unset, .unset, .unset, .unset, .unset, .unset, .unset, .unset] [(.int x4)])) _
    refine XS.istore X0.here hx rfl (hb hby at_6) rfl (l' := #[.val (.int q0), .val (.int q1), .val (.int q2), .val (.int q3), .val (.int x4), .unset, .unset, .unset, .unset, .unset, .unset, .unset, .unset, .unset, .unset, .unset, .unset, .unset, .unset, .unset, .unset]) rfl ?_
    show Steps p.tables e below (s₁.setTop (mkF m 8 #[.val (.int q0), .val (.int q1), .val (.int q2), .val (.int q3), .val (.int x4), .unset, .unset, .unset, .unset, .unset, .unset, .unset, .unset, .unset, .unset, .unset, .unset, .unset, .unset, .unset, .unset] [])) _
    refine XS.iloadN X0.here hx rfl (hb hby at_8) rfl ?_
    show Steps p.tables e below (s₁.setTop (mkF m 9 #[.val (.int q0), .val (.int q1), .val (.int q2), .val (.int q3), .val (.int x4), .unset, .unset, .unset, .unset, .unset, .unset, .unset, .unset, .unset, .unset, .unset, .unset, .unset, .unset, .unset, .unset] [(.int q0)])) _
    refine XS.bipush X0.here hx rfl (hb hby at_9) ?_
    show Steps p.tables e below (s₁.setTop (mkF m 11 #[.val (.int q0), .val (.int q1), .val (.int q2), .val (.int q3), .val (.int x4), .unset, .unset, .unset, .unset, .unset, .unset, .unset, .unset, .unset, .unset, .unset, .unset, .unset, .unset, .unset, .unset] [(.int (8 : Int32)), (.int q0)])) _
    refine XS.iushr X0.here hx rfl (hb hby at_11) rfl ?_
    show Steps p.tables e below (s₁.setTop (mkF m 12 #[.val (.int q0), .val (.int q1), .val (.int q2), .val (.int q3), .val (.int x4), .unset, .unset, .unset, .unset, .unset, .unset, .unset, .unset, .unset, .unset, .unset, .unset, .unset, .unset, .unset, .unset] [(.int ((q0.toUInt32 >>> ((8 : Int32) &&& 31).toUInt32).toInt32))])) _
    refine XS.sipush X0.here hx rfl (hb hby at_12) ?_
    show Steps p.tables e below (s₁.setTop (mkF m 15 #[.val (.int q0), .val (.int q1), .val (.int q2), .val (.int q3), .val (.int x4), .unset, .unset, .unset, .unset, .unset, .unset, .unset, .unset, .unset, .unset, .unset, .unset, .unset, .unset, .unset, .unset] [(.int (255 : Int32)), (.int ((q0.toUInt32 >>> ((8 : Int32) &&& 31).toUInt32).toInt32))])) _
    refine XS.iand X0.here hx rfl (hb hby at_15) rfl ?_
    show Steps p.tables e below (s₁.setTop (mkF m 16 #[.val (.int q0), .val (.int q1), .val (.int q2), .val (.int q3), .val (.int x4), .unset, .unset, .unset, .unset, .unset, .unset, .unset, .unset, .unset, .unset, .unset, .unset, .unset, .unset, .unset, .unset] [(.int (((q0.toUInt32 >>> ((8 : Int32) &&& 31).toUInt32).toInt32) &&& (255 : Int32)))])) _
    refine XS.i2c X0.here hx rfl (hb hby at_16) rfl ?_
    show Steps p.tables e below (s₁.setTop (mkF m 17 #[.val (.int q0), .val (.int q1), .val (.int q2), .val (.int q3), .val (.int x4), .unset, .unset, .unset, .unset, .unset, .unset, .unset, .unset, .unset, .unset, .unset, .unset, .unset, .unset, .unset, .unset] [(.int ((((q0.toUInt32 >>> ((8 : Int32) &&& 31).toUInt32).toInt32) &&& (255 : Int32)).toUInt32.toUInt16.toUInt32.toInt32))])) _
    rw [h5]
    show Steps p.tables e below (s₁.setTop (mkF m 17 #[.val (.int q0), .val (.int q1), .val (.int q2), .val (.int q3), .val (.int x4), .unset, .unset, .unset, .unset, .unset, .unset, .unset, .unset, .unset, .unset, .unset, .unset, .unset, .unset, .unset, .unset] [(.int x5)])) _
    refine XS.istore X0.here hx rfl (hb hby at_17) rfl (l' := #[.val (.int q0), .val (.int q1), .val (.int q2), .val (.int q3), .val (.int x4), .val (.int x5), .unset, .unset, .unset, .unset, .unset, .unset, .unset, .unset, .unset, .unset, .unset, .unset, .unset, .unset, .unset]) rfl ?_
    show Steps p.tables e below (s₁.setTop (mkF m 19 #[.val (.int q0), .val (.int q1), .val (.int q2), .val (.int q3), .val (.int x4), .val (.int x5), .unset, .unset, .unset, .unset, .unset, .unset, .unset, .unset, .unset, .unset, .unset, .unset, .unset, .unset, .unset] [])) _
    refine XS.iloadN X0.here hx rfl (hb hby at_19) rfl ?_
    show Steps p.tables e below (s₁.setTop (mkF m 20 #[.val (.int q0), .val (.int q1), .val (.int q2), .val (.int q3), .val (.int x4), .val (.int x5), .unset, .unset, .unset, .unset, .unset, .unset, .unset, .unset, .unset, .unset, .unset, .unset, .unset, .unset, .unset] [(.int q1)])) _
    refine XS.sipush X0.here hx rfl (hb hby at_20) ?_
    show Steps p.tables e below (s₁.setTop (mkF m 23 #[.val (.int q0), .val (.int q1), .val (.int q2), .val (.int q3), .val (.int x4), .val (.int x5), .unset, .unset, .unset, .unset, .unset, .unset, .unset, .unset, .unset, .unset, .unset, .unset, .unset, .unset, .unset] [(.int (255 : Int32)), (.int q1)])) _
    refine XS.iand X0.here hx rfl (hb hby at_23) rfl ?_
    show Steps p.tables e below (s₁.setTop (mkF m 24 #[.val (.int q0), .val (.int q1), .val (.int q2), .val (.int q3), .val (.int x4), .val (.int x5), .unset, .unset, .unset, .unset, .unset, .unset, .unset, .unset, .unset, .unset, .unset, .unset, .unset, .unset, .unset] [(.int (q1 &&& (255 : Int32)))])) _
    refine XS.i2c X0.here hx rfl (hb hby at_24) rfl ?_
    show Steps p.tables e below (s₁.setTop (mkF m 25 #[.val (.int q0), .val (.int q1), .val (.int q2), .val (.int q3), .val (.int x4), .val (.int x5), .unset, .unset, .unset, .unset, .unset, .unset, .unset, .unset, .unset, .unset, .unset, .unset, .unset, .unset, .unset] [(.int ((q1 &&& (255 : Int32)).toUInt32.toUInt16.toUInt32.toInt32))])) _
    rw [h6]
    show Steps p.tables e below (s₁.setTop (mkF m 25 #[.val (.int q0), .val (.int q1), .val (.int q2), .val (.int q3), .val (.int x4), .val (.int x5), .unset, .unset, .unset, .unset, .unset, .unset, .unset, .unset, .unset, .unset, .unset, .unset, .unset, .unset, .unset] [(.int x6)])) _
    refine XS.istore X0.here hx rfl (hb hby at_25) rfl (l' := #[.val (.int q0), .val (.int q1), .val (.int q2), .val (.int q3), .val (.int x4), .val (.int x5), .val (.int x6), .unset, .unset, .unset, .unset, .unset, .unset, .unset, .unset, .unset, .unset, .unset, .unset, .unset, .unset]) rfl ?_
    show Steps p.tables e below (s₁.setTop (mkF m 27 #[.val (.int q0), .val (.int q1), .val (.int q2), .val (.int q3), .val (.int x4), .val (.int x5), .val (.int x6), .unset, .unset, .unset, .unset, .unset, .unset, .unset, .unset, .unset, .unset, .unset, .unset, .unset, .unset] [])) _
    refine XS.iloadN X0.here hx rfl (hb hby at_27) rfl ?_
    show Steps p.tables e below (s₁.setTop (mkF m 28 #[.val (.int q0), .val (.int q1), .val (.int q2), .val (.int q3), .val (.int x4), .val (.int x5), .val (.int x6), .unset, .unset, .unset, .unset, .unset, .unset, .unset, .unset, .unset, .unset, .unset, .unset, .unset, .unset] [(.int q1)])) _
    refine XS.bipush X0.here hx rfl (hb hby at_28) ?_
    show Steps p.tables e below (s₁.setTop (mkF m 30 #[.val (.int q0), .val (.int q1), .val (.int q2), .val (.int q3), .val (.int x4), .val (.int x5), .val (.int x6), .unset, .unset, .unset, .unset, .unset, .unset, .unset, .unset, .unset, .unset, .unset, .unset, .unset, .unset] [(.int (8 : Int32)), (.int q1)])) _
    refine XS.iushr X0.here hx rfl (hb hby at_30) rfl ?_
    show Steps p.tables e below (s₁.setTop (mkF m 31 #[.val (.int q0), .val (.int q1), .val (.int q2), .val (.int q3), .val (.int x4), .val (.int x5), .val (.int x6), .unset, .unset, .unset, .unset, .unset, .unset, .unset, .unset, .unset, .unset, .unset, .unset, .unset, .unset] [(.int ((q1.toUInt32 >>> ((8 : Int32) &&& 31).toUInt32).toInt32))])) _
    refine XS.sipush X0.here hx rfl (hb hby at_31) ?_
    show Steps p.tables e below (s₁.setTop (mkF m 34 #[.val (.int q0), .val (.int q1), .val (.int q2), .val (.int q3), .val (.int x4), .val (.int x5), .val (.int x6), .unset, .unset, .unset, .unset, .unset, .unset, .unset, .unset, .unset, .unset, .unset, .unset, .unset, .unset] [(.int (255 : Int32)), (.int ((q1.toUInt32 >>> ((8 : Int32) &&& 31).toUInt32).toInt32))])) _
    refine XS.iand X0.here hx rfl (hb hby at_34) rfl ?_
    show Steps p.tables e below (s₁.setTop (mkF m 35 #[.val (.int q0), .val (.int q1), .val (.int q2), .val (.int q3), .val (.int x4), .val (.int x5), .val (.int x6), .unset, .unset, .unset, .unset, .unset, .unset, .unset, .unset, .unset, .unset, .unset, .unset, .unset, .unset] [(.int (((q1.toUInt32 >>> ((8 : Int32) &&& 31).toUInt32).toInt32) &&& (255 : Int32)))])) _
    refine XS.i2c X0.here hx rfl (hb hby at_35) rfl ?_
    show Steps p.tables e below (s₁.setTop (mkF m 36 #[.val (.int q0), .val (.int q1), .val (.int q2), .val (.int q3), .val (.int x4), .val (.int x5), .val (.int x6), .unset, .unset, .unset, .unset, .unset, .unset, .unset, .unset, .unset, .unset, .unset, .unset, .unset, .unset] [(.int ((((q1.toUInt32 >>> ((8 : Int32) &&& 31).toUInt32).toInt32) &&& (255 : Int32)).toUInt32.toUInt16.toUInt32.toInt32))])) _
    rw [h7]
    show Steps p.tables e below (s₁.setTop (mkF m 36 #[.val (.int q0), .val (.int q1), .val (.int q2), .val (.int q3), .val (.int x4), .val (.int x5), .val (.int x6), .unset, .unset, .unset, .unset, .unset, .unset, .unset, .unset, .unset, .unset, .unset, .unset, .unset, .unset] [(.int x7)])) _
    refine XS.istore X0.here hx rfl (hb hby at_36) rfl (l' := #[.val (.int q0), .val (.int q1), .val (.int q2), .val (.int q3), .val (.int x4), .val (.int x5), .val (.int x6), .val (.int x7), .unset, .unset, .unset, .unset, .unset, .unset, .unset, .unset, .unset, .unset, .unset, .unset, .unset]) rfl ?_
    show Steps p.tables e below (s₁.setTop (mkF m 38 #[.val (.int q0), .val (.int q1), .val (.int q2), .val (.int q3), .val (.int x4), .val (.int x5), .val (.int x6), .val (.int x7), .unset, .unset, .unset, .unset, .unset, .unset, .unset, .unset, .unset, .unset, .unset, .unset, .unset] [])) _
    refine XS.iconst X0.here hx rfl (hb hby at_38) ?_
    show Steps p.tables e below (s₁.setTop (mkF m 39 #[.val (.int q0), .val (.int q1), .val (.int q2), .val (.int q3), .val (.int x4), .val (.int x5), .val (.int x6), .val (.int x7), .unset, .unset, .unset, .unset, .unset, .unset, .unset, .unset, .unset, .unset, .unset, .unset, .unset] [(.int (1 : Int32))])) _
    refine XS.iloadN X0.here hx rfl (hb hby at_39) rfl ?_
    show Steps p.tables e below (s₁.setTop (mkF m 40 #[.val (.int q0), .val (.int q1), .val (.int q2), .val (.int q3), .val (.int x4), .val (.int x5), .val (.int x6), .val (.int x7), .unset, .unset, .unset, .unset, .unset, .unset, .unset, .unset, .unset, .unset, .unset, .unset, .unset] [(.int q3), (.int (1 : Int32))])) _
    refine XS.iconst X0.here hx rfl (hb hby at_40) ?_
    show Steps p.tables e below (s₁.setTop (mkF m 41 #[.val (.int q0), .val (.int q1), .val (.int q2), .val (.int q3), .val (.int x4), .val (.int x5), .val (.int x6), .val (.int x7), .unset, .unset, .unset, .unset, .unset, .unset, .unset, .unset, .unset, .unset, .unset, .unset, .unset] [(.int (1 : Int32)), (.int q3), (.int (1 : Int32))])) _
    refine XS.iand X0.here hx rfl (hb hby at_41) rfl ?_
    show Steps p.tables e below (s₁.setTop (mkF m 42 #[.val (.int q0), .val (.int q1), .val (.int q2), .val (.int q3), .val (.int x4), .val (.int x5), .val (.int x6), .val (.int x7), .unset, .unset, .unset, .unset, .unset, .unset, .unset, .unset, .unset, .unset, .unset, .unset, .unset] [(.int (q3 &&& (1 : Int32))), (.int (1 : Int32))])) _
    refine XS.iadd X0.here hx rfl (hb hby at_42) rfl ?_
    show Steps p.tables e below (s₁.setTop (mkF m 43 #[.val (.int q0), .val (.int q1), .val (.int q2), .val (.int q3), .val (.int x4), .val (.int x5), .val (.int x6), .val (.int x7), .unset, .unset, .unset, .unset, .unset, .unset, .unset, .unset, .unset, .unset, .unset, .unset, .unset] [(.int ((1 : Int32) + (q3 &&& (1 : Int32))))])) _
    rw [h8]
    show Steps p.tables e below (s₁.setTop (mkF m 43 #[.val (.int q0), .val (.int q1), .val (.int q2), .val (.int q3), .val (.int x4), .val (.int x5), .val (.int x6), .val (.int x7), .unset, .unset, .unset, .unset, .unset, .unset, .unset, .unset, .unset, .unset, .unset, .unset, .unset] [(.int x8)])) _
    refine XS.istore X0.here hx rfl (hb hby at_43) rfl (l' := #[.val (.int q0), .val (.int q1), .val (.int q2), .val (.int q3), .val (.int x4), .val (.int x5), .val (.int x6), .val (.int x7), .val (.int x8), .unset, .unset, .unset, .unset, .unset, .unset, .unset, .unset, .unset, .unset, .unset, .unset]) rfl ?_
    show Steps p.tables e below (s₁.setTop (mkF m 45 #[.val (.int q0), .val (.int q1), .val (.int q2), .val (.int q3), .val (.int x4), .val (.int x5), .val (.int x6), .val (.int x7), .val (.int x8), .unset, .unset, .unset, .unset, .unset, .unset, .unset, .unset, .unset, .unset, .unset, .unset] [])) _
    refine seg45 X0 hx hby q0 q1 q2 q3 x4 x5 x6 x7 x8 x9 h9 ?_
    show Steps p.tables e below (s₁.setTop (mkF m 65 #[.val (.int q0), .val (.int q1), .val (.int q2), .val (.int q3), .val (.int x4), .val (.int x5), .val (.int x6), .val (.int x7), .val (.int x8), .unset, .unset, .unset, .unset, .unset, .unset, .unset, .unset, .unset, .unset, .unset, .unset] [(.int x9)])) _
    refine XS.istore X0.here hx rfl (hb hby at_65) rfl (l' := #[.val (.int q0), .val (.int q1), .val (.int q2), .val (.int q3), .val (.int x4), .val (.int x5), .val (.int x6), .val (.int x7), .val (.int x8), .val (.int x9), .unset, .unset, .unset, .unset, .unset, .unset, .unset, .unset, .unset, .unset, .unset]) rfl ?_
    show Steps p.tables e below (s₁.setTop (mkF m 67 #[.val (.int q0), .val (.int q1), .val (.int q2), .val (.int q3), .val (.int x4), .val (.int x5), .val (.int x6), .val (.int x7), .val (.int x8), .val (.int x9), .unset, .unset, .unset, .unset, .unset, .unset, .unset, .unset, .unset, .unset, .unset] [])) _
    refine seg67 X0 hx hby q0 q1 q2 q3 x4 x5 x6 x7 x8 x9 x10 h10 ?_
    show Steps p.tables e below (s₁.setTop (mkF m 80 #[.val (.int q0), .val (.int q1), .val (.int q2), .val (.int q3), .val (.int x4), .val (.int x5), .val (.int x6), .val (.int x7), .val (.int x8), .val (.int x9), .unset, .unset, .unset, .unset, .unset, .unset, .unset, .unset, .unset, .unset, .unset] [(.int x10)])) _
    refine XS.istore X0.here hx rfl (hb hby at_80) rfl (l' := #[.val (.int q0), .val (.int q1), .val (.int q2), .val (.int q3), .val (.int x4), .val (.int x5), .val (.int x6), .val (.int x7), .val (.int x8), .val (.int x9), .val (.int x10), .unset, .unset, .unset, .unset, .unset, .unset, .unset, .unset, .unset, .unset]) rfl ?_
    show Steps p.tables e below (s₁.setTop (mkF m 82 #[.val (.int q0), .val (.int q1), .val (.int q2), .val (.int q3), .val (.int x4), .val (.int x5), .val (.int x6), .val (.int x7), .val (.int x8), .val (.int x9), .val (.int x10), .unset, .unset, .unset, .unset, .unset, .unset, .unset, .unset, .unset, .unset] [])) _
    refine seg82 X0 hx hby q0 q1 q2 q3 x4 x5 x6 x7 x8 x9 x10 x11 h11 ?_
    show Steps p.tables e below (s₁.setTop (mkF m 97 #[.val (.int q0), .val (.int q1), .val (.int q2), .val (.int q3), .val (.int x4), .val (.int x5), .val (.int x6), .val (.int x7), .val (.int x8), .val (.int x9), .val (.int x10), .unset, .unset, .unset, .unset, .unset, .unset, .unset, .unset, .unset, .unset] [(.int x11)])) _
    refine XS.istore X0.here hx rfl (hb hby at_97) rfl (l' := #[.val (.int q0), .val (.int q1), .val (.int q2), .val (.int q3), .val (.int x4), .val (.int x5), .val (.int x6), .val (.int x7), .val (.int x8), .val (.int x9), .val (.int x10), .val (.int x11), .unset, .unset, .unset, .unset, .unset, .unset, .unset, .unset, .unset]) rfl ?_
    show Steps p.tables e below (s₁.setTop (mkF m 99 #[.val (.int q0), .val (.int q1), .val (.int q2), .val (.int q3), .val (.int x4), .val (.int x5), .val (.int x6), .val (.int x7), .val (.int x8), .val (.int x9), .val (.int x10), .val (.int x11), .unset, .unset, .unset, .unset, .unset, .unset, .unset, .unset, .unset] [])) _
    refine seg99 X0 hx hby q0 q1 q2 q3 x4 x5 x6 x7 x8 x9 x10 x11 x12 h12 ?_
    show Steps p.tables e below (s₁.setTop (mkF m 112 #[.val (.int q0), .val (.int q1), .val (.int q2), .val (.int q3), .val (.int x4), .val (.int x5), .val (.int x6), .val (.int x7), .val (.int x8), .val (.int x9), .val (.int x10), .val (.int x11), .unset, .unset, .unset, .unset, .unset, .unset, .unset, .unset, .unset] [(.int x12)])) _
    refine XS.istore X0.here hx rfl (hb hby at_112) rfl (l' := #[.val (.int q0), .val (.int q1), .val (.int q2), .val (.int q3), .val (.int x4), .val (.int x5), .val (.int x6), .val (.int x7), .val (.int x8), .val (.int x9), .val (.int x10), .val (.int x11), .val (.int x12), .unset, .unset, .unset, .unset, .unset, .unset, .unset, .unset]) rfl ?_
    show Steps p.tables e below (s₁.setTop (mkF m 114 #[.val (.int q0), .val (.int q1), .val (.int q2), .val (.int q3), .val (.int x4), .val (.int x5), .val (.int x6), .val (.int x7), .val (.int x8), .val (.int x9), .val (.int x10), .val (.int x11), .val (.int x12), .unset, .unset, .unset, .unset, .unset, .unset, .unset, .unset] [])) _
    refine seg114 X0 hx hby q0 q1 q2 q3 x4 x5 x6 x7 x8 x9 x10 x11 x12 x13 h13 ?_
    show Steps p.tables e below (s₁.setTop (mkF m 140 #[.val (.int q0), .val (.int q1), .val (.int q2), .val (.int q3), .val (.int x4), .val (.int x5), .val (.int x6), .val (.int x7), .val (.int x8), .val (.int x9), .val (.int x10), .val (.int x11), .val (.int x12), .unset, .unset, .unset, .unset, .unset, .unset, .unset, .unset] [(.int x13)])) _
    refine XS.istore X0.here hx rfl (hb hby at_140) rfl (l' := #[.val (.int q0), .val (.int q1), .val (.int q2), .val (.int q3), .val (.int x4), .val (.int x5), .val (.int x6), .val (.int x7), .val (.int x8), .val (.int x9), .val (.int x10), .val (.int x11), .val (.int x12), .val (.int x13), .unset, .unset, .unset, .unset, .unset, .unset, .unset]) rfl ?_
    show Steps p.tables e below (s₁.setTop (mkF m 142 #[.val (.int q0), .val (.int q1), .val (.int q2), .val (.int q3), .val (.int x4), .val (.int x5), .val (.int x6), .val (.int x7), .val (.int x8), .val (.int x9), .val (.int x10), .val (.int x11), .val (.int x12), .val (.int x13), .unset, .unset, .unset, .unset, .unset, .unset, .unset] [])) _
    refine XS.iloadN X0.here hx rfl (hb hby at_142) rfl ?_
    show Steps p.tables e below (s₁.setTop (mkF m 143 #[.val (.int q0), .val (.int q1), .val (.int q2), .val (.int q3), .val (.int x4), .val (.int x5), .val (.int x6), .val (.int x7), .val (.int x8), .val (.int x9), .val (.int x10), .val (.int x11), .val (.int x12), .val (.int x13), .unset, .unset, .unset, .unset, .unset, .unset, .unset] [(.int q3)])) _
    refine XS.iconst X0.here hx rfl (hb hby at_143) ?_
    show Steps p.tables e below (s₁.setTop (mkF m 144 #[.val (.int q0), .val (.int q1), .val (.int q2), .val (.int q3), .val (.int x4), .val (.int x5), .val (.int x6), .val (.int x7), .val (.int x8), .val (.int x9), .val (.int x10), .val (.int x11), .val (.int x12), .val (.int x13), .unset, .unset, .unset, .unset, .unset, .unset, .unset] [(.int (4 : Int32)), (.int q3)])) _
    refine XS.iushr X0.here hx rfl (hb hby at_144) rfl ?_
    show Steps p.tables e below (s₁.setTop (mkF m 145 #[.val (.int q0), .val (.int q1), .val (.int q2), .val (.int q3), .val (.int x4), .val (.int x5), .val (.int x6), .val (.int x7), .val (.int x8), .val (.int x9), .val (.int x10), .val (.int x11), .val (.int x12), .val (.int x13), .unset, .unset, .unset, .unset, .unset, .unset, .unset] [(.int ((q3.toUInt32 >>> ((4 : Int32) &&& 31).toUInt32).toInt32))])) _
    refine XS.iconst X0.here hx rfl (hb hby at_145) ?_
    show Steps p.tables e below (s₁.setTop (mkF m 146 #[.val (.int q0), .val (.int q1), .val (.int q2), .val (.int q3), .val (.int x4), .val (.int x5), .val (.int x6), .val (.int x7), .val (.int x8), .val (.int x9), .val (.int x10), .val (.int x11), .val (.int x12), .val (.int x13), .unset, .unset, .unset, .unset, .unset, .unset, .unset] [(.int (3 : Int32)), (.int ((q3.toUInt32 >>> ((4 : Int32) &&& 31).toUInt32).toInt32))])) _
    refine XS.iand X0.here hx rfl (hb hby at_146) rfl ?_
    show Steps p.tables e below (s₁.setTop (mkF m 147 #[.val (.int q0), .val (.int q1), .val (.int q2), .val (.int q3), .val (.int x4), .val (.int x5), .val (.int x6), .val (.int x7), .val (.int x8), .val (.int x9), .val (.int x10), .val (.int x11), .val (.int x12), .val (.int x13), .unset, .unset, .unset, .unset, .unset, .unset, .unset] [(.int (((q3.toUInt32 >>> ((4 : Int32) &&& 31).toUInt32).toInt32) &&& (3 : Int32)))])) _
    rw [h14]
    show Steps p.tables e below (s₁.setTop (mkF m 147 #[.val (.int q0), .val (.int q1), .val (.int q2), .val (.int q3), .val (.int x4), .val (.int x5), .val (.int x6), .val (.int x7), .val (.int x8), .val (.int x9), .val (.int x10), .val (.int x11), .val (.int x12), .val (.int x13), .unset, .unset, .unset, .unset, .unset, .unset, .unset] [(.int x14)])) _
    refine XS.istore X0.here hx rfl (hb hby at_147) rfl (l' := #[.val (.int q0), .val (.int q1), .val (.int q2), .val (.int q3), .val (.int x4), .val (.int x5), .val (.int x6), .val (.int x7), .val (.int x8), .val (.int x9), .val (.int x10), .val (.int x11), .val (.int x12), .val (.int x13), .val (.int x14), .unset, .unset, .unset, .unset, .unset, .unset]) rfl ?_
    show Steps p.tables e below (s₁.setTop (mkF m 149 #[.val (.int q0), .val (.int q1), .val (.int q2), .val (.int q3), .val (.int x4), .val (.int x5), .val (.int x6), .val (.int x7), .val (.int x8), .val (.int x9), .val (.int x10), .val (.int x11), .val (.int x12), .val (.int x13), .val (.int x14), .unset, .unset, .unset, .unset, .unset, .unset] [])) _
    refine XS.iload X0.here hx rfl (hb hby at_149) rfl ?_
    show Steps p.tables e below (s₁.setTop (mkF m 151 #[.val (.int q0), .val (.int q1), .val (.int q2), .val (.int q3), .val (.int x4), .val (.int x5), .val (.int x6), .val (.int x7), .val (.int x8), .val (.int x9), .val (.int x10), .val (.int x11), .val (.int x12), .val (.int x13), .val (.int x14), .unset, .unset, .unset, .unset, .unset, .unset] [(.int x8)])) _
    refine XS.iload X0.here hx rfl (hb hby at_151) rfl ?_
    show Steps p.tables e below (s₁.setTop (mkF m 153 #[.val (.int q0), .val (.int q1), .val (.int q2), .val (.int q3), .val (.int x4), .val (.int x5), .val (.int x6), .val (.int x7), .val (.int x8), .val (.int x9), .val (.int x10), .val (.int x11), .val (.int x12), .val (.int x13), .val (.int x14), .unset, .unset, .unset, .unset, .unset, .unset] [(.int x4), (.int x8)])) _
    refine XS.iload X0.here hx rfl (hb hby at_153) rfl ?_
    show Steps p.tables e below (s₁.setTop (mkF m 155 #[.val (.int q0), .val (.int q1), .val (.int q2), .val (.int q3), .val (.int x4), .val (.int x5), .val (.int x6), .val (.int x7), .val (.int x8), .val (.int x9), .val (.int x10), .val (.int x11), .val (.int x12), .val (.int x13), .val (.int x14), .unset, .unset, .unset, .unset, .unset, .unset] [(.int x5), (.int x4), (.int x8)])) _
    refine st102 _ ?_
    show Steps p.tables e below (T102.setTop (mkF m 158 #[.val (.int q0), .val (.int q1), .val (.int q2), .val (.int q3), .val (.int x4), .val (.int x5), .val (.int x6), .val (.int x7), .val (.int x8), .val (.int x9), .val (.int x10), .val (.int x11), .val (.int x12), .val (.int x13), .val (.int x14), .unset, .unset, .unset, .unset, .unset, .unset] [(.ref xs1)])) _
    refine XS.astore X102.here hx rfl (hb hby at_158) rfl rfl (l' := #[.val (.int q0), .val (.int q1), .val (.int q2), .val (.int q3), .val (.int x4), .val (.int x5), .val (.int x6), .val (.int x7), .val (.int x8), .val (.int x9), .val (.int x10), .val (.int x11), .val (.int x12), .val (.int x13), .val (.int x14), .val (.ref xs1), .unset, .unset, .unset, .unset, .unset]) rfl ?_
    show Steps p.tables e below (T102.setTop (mkF m 160 #[.val (.int q0), .val (.int q1), .val (.int q2), .val (.int q3), .val (.int x4), .val (.int x5), .val (.int x6), .val (.int x7), .val (.int x8), .val (.int x9), .val (.int x10), .val (.int x11), .val (.int x12), .val (.int x13), .val (.int x14), .val (.ref xs1), .unset, .unset, .unset, .unset, .unset] [])) _
    refine XS.iload X102.here hx rfl (hb hby at_160) rfl ?_
    show Steps p.tables e below (T102.setTop (mkF m 162 #[.val (.int q0), .val (.int q1), .val (.int q2), .val (.int q3), .val (.int x4), .val (.int x5), .val (.int x6), .val (.int x7), .val (.int x8), .val (.int x9), .val (.int x10), .val (.int x11), .val (.int x12), .val (.int x13), .val (.int x14), .val (.ref xs1), .unset, .unset, .unset, .unset, .unset] [(.int x9)])) _
    refine XS.iload X102.here hx rfl (hb hby at_162) rfl ?_
    show Steps p.tables e below (T102.setTop (mkF m 164 #[.val (.int q0), .val (.int q1), .val (.int q2), .val (.int q3), .val (.int x4), .val (.int x5), .val (.int x6), .val (.int x7), .val (.int x8), .val (.int x9), .val (.int x10), .val (.int x11), .val (.int x12), .val (.int x13), .val (.int x14), .val (.ref xs1), .unset, .unset, .unset, .unset, .unset] [(.int x10), (.int x9)])) _
    refine XS.iload X102.here hx rfl (hb hby at_164) rfl ?_
    show Steps p.tables e below (T102.setTop (mkF m 166 #[.val (.int q0), .val (.int q1), .val (.int q2), .val (.int q3), .val (.int x4), .val (.int x5), .val (.int x6), .val (.int x7), .val (.int x8), .val (.int x9), .val (.int x10), .val (.int x11), .val (.int x12), .val (.int x13), .val (.int x14), .val (.ref xs1), .unset, .unset, .unset, .unset, .unset] [(.int x11), (.int x10), (.int x9)])) _
    refine st104 _ ?_
    show Steps p.tables e below (T104.setTop (mkF m 169 #[.val (.int q0), .val (.int q1), .val (.int q2), .val (.int q3), .val (.int x4), .val (.int x5), .val (.int x6), .val (.int x7), .val (.int x8), .val (.int x9), .val (.int x10), .val (.int x11), .val (.int x12), .val (.int x13), .val (.int x14), .val (.ref xs1), .unset, .unset, .unset, .unset, .unset] [(.ref xs2)])) _
    refine XS.astore X104.here hx rfl (hb hby at_169) rfl rfl (l' := #[.val (.int q0), .val (.int q1), .val (.int q2), .val (.int q3), .val (.int x4), .val (.int x5), .val (.int x6), .val (.int x7), .val (.int x8), .val (.int x9), .val (.int x10), .val (.int x11), .val (.int x12), .val (.int x13), .val (.int x14), .val (.ref xs1), .val (.ref xs2), .unset, .unset, .unset, .unset]) rfl ?_
    show Steps p.tables e below (T104.setTop (mkF m 171 #[.val (.int q0), .val (.int q1), .val (.int q2), .val (.int q3), .val (.int x4), .val (.int x5), .val (.int x6), .val (.int x7), .val (.int x8), .val (.int x9), .val (.int x10), .val (.int x11), .val (.int x12), .val (.int x13), .val (.int x14), .val (.ref xs1), .val (.ref xs2), .unset, .unset, .unset, .unset] [])) _
    refine st105 _ ?_
    show Steps p.tables e below (T105.setTop (mkF m 174 #[.val (.int q0), .val (.int q1), .val (.int q2), .val (.int q3), .val (.int x4), .val (.int x5), .val (.int x6), .val (.int x7), .val (.int x8), .val (.int x9), .val (.int x10), .val (.int x11), .val (.int x12), .val (.int x13), .val (.int x14), .val (.ref xs1), .val (.ref xs2), .unset, .unset, .unset, .unset] [(.ref b105)])) _
    refine XS.dup X105.here hx rfl (hb hby at_174) rfl rfl ?_
    show Steps p.tables e below (T105.setTop (mkF m 175 #[.val (.int q0), .val (.int q1), .val (.int q2), .val (.int q3), .val (.int x4), .val (.int x5), .val (.int x6), .val (.int x7), .val (.int x8), .val (.int x9), .val (.int x10), .val (.int x11), .val (.int x12), .val (.int x13), .val (.int x14), .val (.ref xs1), .val (.ref xs2), .unset, .unset, .unset, .unset] [(.ref b105), (.ref b105)])) _
    refine XS.aload X105.here hx rfl (hb hby at_175) rfl rfl ?_
    show Steps p.tables e below (T105.setTop (mkF m 177 #[.val (.int q0), .val (.int q1), .val (.int q2), .val (.int q3), .val (.int x4), .val (.int x5), .val (.int x6), .val (.int x7), .val (.int x8), .val (.int x9), .val (.int x10), .val (.int x11), .val (.int x12), .val (.int x13), .val (.int x14), .val (.ref xs1), .val (.ref xs2), .unset, .unset, .unset, .unset] [(.ref xs1), (.ref b105), (.ref b105)])) _
    refine XS.iload X105.here hx rfl (hb hby at_177) rfl ?_
    show Steps p.tables e below (T105.setTop (mkF m 179 #[.val (.int q0), .val (.int q1), .val (.int q2), .val (.int q3), .val (.int x4), .val (.int x5), .val (.int x6), .val (.int x7), .val (.int x8), .val (.int x9), .val (.int x10), .val (.int x11), .val (.int x12), .val (.int x13), .val (.int x14), .val (.ref xs1), .val (.ref xs2), .unset, .unset, .unset, .unset] [(.int x12), (.ref xs1), (.ref b105), (.ref b105)])) _
    refine st110.trans ?_
    show Steps p.tables e below (T110.setTop (mkF m 182 #[.val (.int q0), .val (.int q1), .val (.int q2), .val (.int q3), .val (.int x4), .val (.int x5), .val (.int x6), .val (.int x7), .val (.int x8), .val (.int x9), .val (.int x10), .val (.int x11), .val (.int x12), .val (.int x13), .val (.int x14), .val (.ref xs1), .val (.ref xs2), .unset, .unset, .unset, .unset] [(.ref b105)])) _
    refine XS.astore X110.here hx rfl (hb hby at_182) rfl rfl (l' := #[.val (.int q0), .val (.int q1), .val (.int q2), .val (.int q3), .val (.int x4), .val (.int x5), .val (.int x6), .val (.int x7), .val (.int x8), .val (.int x9), .val (.int x10), .val (.int x11), .val (.int x12), .val (.int x13), .val (.int x14), .val (.ref xs1), .val (.ref xs2), .val (.ref b105), .unset, .unset, .unset]) rfl ?_
    show Steps p.tables e below (T110.setTop (mkF m 184 #[.val (.int q0), .val (.int q1), .val (.int q2), .val (.int q3), .val (.int x4), .val (.int x5), .val (.int x6), .val (.int x7), .val (.int x8), .val (.int x9), .val (.int x10), .val (.int x11), .val (.int x12), .val (.int x13), .val (.int x14), .val (.ref xs1), .val (.ref xs2), .val (.ref b105), .unset, .unset, .unset] [])) _
    refine XS.iload X110.here hx rfl (hb hby at_184) rfl ?_
    show Steps p.tables e below (T110.setTop (mkF m 186 #[.val (.int q0), .val (.int q1), .val (.int q2), .val (.int q3), .val (.int x4), .val (.int x5), .val (.int x6), .val (.int x7), .val (.int x8), .val (.int x9), .val (.int x10), .val (.int x11), .val (.int x12), .val (.int x13), .val (.int x14), .val (.ref xs1), .val (.ref xs2), .val (.ref b105), .unset, .unset, .unset] [(.int x14)])) _
    refine XS.iconst X110.here hx rfl (hb hby at_186) ?_
    show Steps p.tables e below (T110.setTop (mkF m 187 #[.val (.int q0), .val (.int q1), .val (.int q2), .val (.int q3), .val (.int x4), .val (.int x5), .val (.int x6), .val (.int x7), .val (.int x8), .val (.int x9), .val (.int x10), .val (.int x11), .val (.int x12), .val (.int x13), .val (.int x14), .val (.ref xs1), .val (.ref xs2), .val (.ref b105), .unset, .unset, .unset] [(.int (2 : Int32)), (.int x14)])) _
    refine XS.icmpNo X110.here hx rfl (hb hby at_187) rfl (teq k2).2 ?_
    show Steps p.tables e below (T110.setTop (mkF m 190 #[.val (.int q0), .val (.int q1), .val (.int q2), .val (.int q3), .val (.int x4), .val (.int x5), .val (.int x6), .val (.int x7), .val (.int x8), .val (.int x9), .val (.int x10), .val (.int x11), .val (.int x12), .val (.int x13), .val (.int x14), .val (.ref xs1), .val (.ref xs2), .val (.ref b105), .unset, .unset, .unset] [])) _
    refine XS.aconstNull X110.here hx rfl (hb hby at_190) ?_
    show Steps p.tables e below (T110.setTop (mkF m 191 #[.val (.int q0), .val (.int q1), .val (.int q2), .val (.int q3), .val (.int x4), .val (.int x5), .val (.int x6), .val (.int x7), .val (.int x8), .val (.int x9), .val (.int x10), .val (.int x11), .val (.int x12), .val (.int x13), .val (.int x14), .val (.ref xs1), .val (.ref xs2), .val (.ref b105), .unset, .unset, .unset] [.null])) _
    refine XS.astore X110.here hx rfl (hb hby at_191) rfl rfl (l' := #[.val (.int q0), .val (.int q1), .val (.int q2), .val (.int q3), .val (.int x4), .val (.int x5), .val (.int x6), .val (.int x7), .val (.int x8), .val (.int x9), .val (.int x10), .val (.int x11), .val (.int x12), .val (.int x13), .val (.int x14), .val (.ref xs1), .val (.ref xs2), .val (.ref b105), .val .null, .unset, .unset]) rfl ?_
    show Steps p.tables e below (T110.setTop (mkF m 193 #[.val (.int q0), .val (.int q1), .val (.int q2), .val (.int q3), .val (.int x4), .val (.int x5), .val (.int x6), .val (.int x7), .val (.int x8), .val (.int x9), .val (.int x10), .val (.int x11), .val (.int x12), .val (.int x13), .val (.int x14), .val (.ref xs1), .val (.ref xs2), .val (.ref b105), .val .null, .unset, .unset] [])) _
    refine XS.goto X110.here hx rfl (pc0 := 193) (pc' := 222) rfl (hb hby at_193) (by decide) (by decide) ?_
    show Steps p.tables e below (T110.setTop (mkF m 222 #[.val (.int q0), .val (.int q1), .val (.int q2), .val (.int q3), .val (.int x4), .val (.int x5), .val (.int x6), .val (.int x7), .val (.int x8), .val (.int x9), .val (.int x10), .val (.int x11), .val (.int x12), .val (.int x13), .val (.int x14), .val (.ref xs1), .val (.ref xs2), .val (.ref b105), .val .null, .unset, .unset] [])) _
    refine XS.iload X110.here hx rfl (hb hby at_222) rfl ?_
    show Steps p.tables e below (T110.setTop (mkF m 224 #[.val (.int q0), .val (.int q1), .val (.int q2), .val (.int q3), .val (.int x4), .val (.int x5), .val (.int x6), .val (.int x7), .val (.int x8), .val (.int x9), .val (.int x10), .val (.int x11), .val (.int x12), .val (.int x13), .val (.int x14), .val (.ref xs1), .val (.ref xs2), .val (.ref b105), .val .null, .unset, .unset] [(.int x14)])) _
    refine XS.iconst X110.here hx rfl (hb hby at_224) ?_
    show Steps p.tables e below (T110.setTop (mkF m 225 #[.val (.int q0), .val (.int q1), .val (.int q2), .val (.int q3), .val (.int x4), .val (.int x5), .val (.int x6), .val (.int x7), .val (.int x8), .val (.int x9), .val (.int x10), .val (.int x11), .val (.int x12), .val (.int x13), .val (.int x14), .val (.ref xs1), .val (.ref xs2), .val (.ref b105), .val .null, .unset, .unset] [(.int (2 : Int32)), (.int x14)])) _
    refine XS.icmpNo X110.here hx rfl (hb hby at_225) rfl (flt (by rw [k2]; decide)).1 ?_
    show Steps p.tables e below (T110.setTop (mkF m 228 #[.val (.int q0), .val (.int q1), .val (.int q2), .val (.int q3), .val (.int x4), .val (.int x5), .val (.int x6), .val (.int x7), .val (.int x8), .val (.int x9), .val (.int x10), .val (.int x11), .val (.int x12), .val (.int x13), .val (.int x14), .val (.ref xs1), .val (.ref xs2), .val (.ref b105), .val .null, .unset, .unset] [])) _
    refine XS.iconst X110.here hx rfl (hb hby at_228) ?_
    show Steps p.tables e below (T110.setTop (mkF m 229 #[.val (.int q0), .val (.int q1), .val (.int q2), .val (.int q3), .val (.int x4), .val (.int x5), .val (.int x6), .val (.int x7), .val (.int x8), .val (.int x9), .val (.int x10), .val (.int x11), .val (.int x12), .val (.int x13), .val (.int x14), .val (.ref xs1), .val (.ref xs2), .val (.ref b105), .val .null, .unset, .unset] [(.int (0 : Int32))])) _
    refine XS.istore X110.here hx rfl (hb hby at_229) rfl (l' := #[.val (.int q0), .val (.int q1), .val (.int q2), .val (.int q3), .val (.int x4), .val (.int x5), .val (.int x6), .val (.int x7), .val (.int x8), .val (.int x9), .val (.int x10), .val (.int x11), .val (.int x12), .val (.int x13), .val (.int x14), .val (.ref xs1), .val (.ref xs2), .val (.ref b105), .val .null, .val (.int (0 : Int32)), .unset]) rfl ?_
    show Steps p.tables e below (T110.setTop (mkF m 231 #[.val (.int q0), .val (.int q1), .val (.int q2), .val (.int q3), .val (.int x4), .val (.int x5), .val (.int x6), .val (.int x7), .val (.int x8), .val (.int x9), .val (.int x10), .val (.int x11), .val (.int x12), .val (.int x13), .val (.int x14), .val (.ref xs1), .val (.ref xs2), .val (.ref b105), .val .null, .val (.int (0 : Int32)), .unset] [])) _
    refine XS.goto X110.here hx rfl (pc0 := 231) (pc' := 287) rfl (hb hby at_231) (by decide) (by decide) ?_
    show Steps p.tables e below (T110.setTop (mkF m 287 #[.val (.int q0), .val (.int q1), .val (.int q2), .val (.int q3), .val (.int x4), .val (.int x5), .val (.int x6), .val (.int x7), .val (.int x8), .val (.int x9), .val (.int x10), .val (.int x11), .val (.int x12), .val (.int x13), .val (.int x14), .val (.ref xs1), .val (.ref xs2), .val (.ref b105), .val .null, .val (.int (0 : Int32)), .unset] [])) _
    refine XS.aload X110.here hx rfl (hb hby at_287) rfl rfl ?_
    show Steps p.tables e below (T110.setTop (mkF m 289 #[.val (.int q0), .val (.int q1), .val (.int q2), .val (.int q3), .val (.int x4), .val (.int x5), .val (.int x6), .val (.int x7), .val (.int x8), .val (.int x9), .val (.int x10), .val (.int x11), .val (.int x12), .val (.int x13), .val (.int x14), .val (.ref xs1), .val (.ref xs2), .val (.ref b105), .val .null, .val (.int (0 : Int32)), .unset] [(.ref b105)])) _
    refine XS.aload X110.here hx rfl (hb hby at_289) rfl rfl ?_
    show Steps p.tables e below (T110.setTop (mkF m 291 #[.val (.int q0), .val (.int q1), .val (.int q2), .val (.int q3), .val (.int x4), .val (.int x5), .val (.int x6), .val (.int x7), .val (.int x8), .val (.int x9), .val (.int x10), .val (.int x11), .val (.int x12), .val (.int x13), .val (.int x14), .val (.ref xs1), .val (.ref xs2), .val (.ref b105), .val .null, .val (.int (0 : Int32)), .unset] [.null, (.ref b105)])) _
    refine st111.trans ?_
    show Steps p.tables e below (T111.setTop (mkF m 294 #[.val (.int q0), .val (.int q1), .val (.int q2), .val (.int q3), .val (.int x4), .val (.int x5), .val (.int x6), .val (.int x7), .val (.int x8), .val (.int x9), .val (.int x10), .val (.int x11), .val (.int x12), .val (.int x13), .val (.int x14), .val (.ref xs1), .val (.ref xs2), .val (.ref b105), .val .null, .val (.int (0 : Int32)), .unset] [(.int (0 : Int32))])) _
    refine XS.iload X111.here hx rfl (hb hby at_294) rfl ?_
    show Steps p.tables e below (T111.setTop (mkF m 296 #[.val (.int q0), .val (.int q1), .val (.int q2), .val (.int q3), .val (.int x4), .val (.int x5), .val (.int x6), .val (.int x7), .val (.int x8), .val (.int x9), .val (.int x10), .val (.int x11), .val (.int x12), .val (.int x13), .val (.int x14), .val (.ref xs1), .val (.ref xs2), .val (.ref b105), .val .null, .val (.int (0 : Int32)), .unset] [(.int (0 : Int32)), (.int (0 : Int32))])) _
    refine XS.icmpNo X111.here hx rfl (hb hby at_296) rfl (teq (by decide : (0 : Int32) = (0 : Int32))).2 ?_
    show Steps p.tables e below (T111.setTop (mkF m 299 #[.val (.int q0), .val (.int q1), .val (.int q2), .val (.int q3), .val (.int x4), .val (.int x5), .val (.int x6), .val (.int x7), .val (.int x8), .val (.int x9), .val (.int x10), .val (.int x11), .val (.int x12), .val (.int x13), .val (.int x14), .val (.ref xs1), .val (.ref xs2), .val (.ref b105), .val .null, .val (.int (0 : Int32)), .unset] [])) _
    refine XS.iconst X111.here hx rfl (hb hby at_299) ?_
    show Steps p.tables e below (T111.setTop (mkF m 300 #[.val (.int q0), .val (.int q1), .val (.int q2), .val (.int q3), .val (.int x4), .val (.int x5), .val (.int x6), .val (.int x7), .val (.int x8), .val (.int x9), .val (.int x10), .val (.int x11), .val (.int x12), .val (.int x13), .val (.int x14), .val (.ref xs1), .val (.ref xs2), .val (.ref b105), .val .null, .val (.int (0 : Int32)), .unset] [(.int (1 : Int32))])) _
    refine XS.goto X111.here hx rfl (pc0 := 300) (pc' := 304) rfl (hb hby at_300) (by decide) (by decide) ?_
    show Steps p.tables e below (T111.setTop (mkF m 304 #[.val (.int q0), .val (.int q1), .val (.int q2), .val (.int q3), .val (.int x4), .val (.int x5), .val (.int x6), .val (.int x7), .val (.int x8), .val (.int x9), .val (.int x10), .val (.int x11), .val (.int x12), .val (.int x13), .val (.int x14), .val (.ref xs1), .val (.ref xs2), .val (.ref b105), .val .null, .val (.int (0 : Int32)), .unset] [(.int (1 : Int32))])) _
    exact retN X111 hx (t := .boolean) Bd.returns (by simp) (hb hby at_304) hr
  · show Q0 h0 n0 _ T111.heap _
    rw [e111]
    exact ⟨rfl, N111⟩
set_option maxRecDepth 65536 in
set_option maxHeartbeats 40000000 in
theorem rm0_3 (l : Launch) (Z : State) (a0 : Array Value) (hw : ∀ d ∈ tables_1, d.before a0 Z = true) (ws : List Jvm.Cond) (q0 q1 q2 q3 : Int32) (G1 : Int32) (x4 x5 x6 x7 x8 x9 x10 x11 x12 x13 x14 : Int32) (cs1 cs2 : List Int32) (h0 : Heap) (n0 : Nat) (O0 : Old Z n0 h0) (S_CS : Sta Z Z.heap "java/lang/String" "COMPACT_STRINGS" "Z" (.int G1)) (hG1 : ¬ (G1 = (0 : Int32))) (h9 : x9 = if (((q2.toUInt32 >>> ((2 : Int32) &&& 31).toUInt32).toInt32) &&& (1 : Int32)) = (0 : Int32) then ((1 : Int32) + (((q3.toUInt32 >>> ((1 : Int32) &&& 31).toUInt32).toInt32) &&& (1 : Int32))) else x8) (h10 : x10 = if (q2 &&& (1 : Int32)) = (0 : Int32) then x6 else x4) (h11 : x11 = if (((q2.toUInt32 >>> ((1 : Int32) &&& 31).toUInt32).toInt32) &&& (1 : Int32)) = (0 : Int32) then x7 else x5) (h12 : x12 = if (((q3.toUInt32 >>> ((2 : Int32) &&& 31).toUInt32).toInt32) &&& (1 : Int32)) = (0 : Int32) then (0 : Int32) else (1 : Int32)) (h13 : x13 = if (((q2.toUInt32 >>> ((3 : Int32) &&& 31).toUInt32).toInt32) &&& (1 : Int32)) = (0 : Int32) then (if (((q3.toUInt32 >>> ((3 : Int32) &&& 31).toUInt32).toInt32) &&& (1 : Int32)) = (0 : Int32) then (0 : Int32) else (1 : Int32)) else x12) (hcs1 : cs1 = mk x8 x4 x5) (hcs2 : cs2 = mk x9 x10 x11) (hg4 : ¬ x4 < 0 ∧ ¬ (255 : Int32) < x4) (hg5 : ¬ x5 < 0 ∧ ¬ (255 : Int32) < x5) (hg10 : ¬ x10 < 0 ∧ ¬ (255 : Int32) < x10) (hg11 : ¬ x11 < 0 ∧ ¬ (255 : Int32) < x11) (hl1 : ¬ cs1.length = 0) (hl2 : ¬ cs2.length = 0) (ha12 : (x12 &&& 1) = x12) (ha13 : (x13 &&& 1) = x13) (k2 : ¬ (x14 = 2)) (k3 : x14 = 3) (h4 : ((q0 &&& (255 : Int32)).toUInt32.toUInt16.toUInt32.toInt32) = x4) (h5 : ((((q0.toUInt32 >>> ((8 : Int32) &&& 31).toUInt32).toInt32) &&& (255 : Int32)).toUInt32.toUInt16.toUInt32.toInt32) = x5) (h6 : ((q1 &&& (255 : Int32)).toUInt32.toUInt16.toUInt32.toInt32) = x6) (h7 : ((((q1.toUInt32 >>> ((8 : Int32) &&& 31).toUInt32).toInt32) &&& (255 : Int32)).toUInt32.toUInt16.toUInt32.toInt32) = x7) (h8 : ((1 : Int32) + (q3 &&& (1 : Int32))) = x8) (h14 : (((q3.toUInt32 >>> ((4 : Int32) &&& 31).toUInt32).toInt32) &&& (3 : Int32)) = x14) :
    MetFree l x (head1 (Jvm.Cond.code x code maxLocals ret :: ws) room_1) (fun a_ U => a_ = #[(.int q0), (.int q1), (.int q2), (.int q3)] ∧ Z.Warmed39 U.vm ∧ U.heap = h0) (fun _ _ _ _ _ => True) (fun _ U o U' => ∃ v L, o = .returned v ∧ Q0 h0 n0 v U'.heap L ∧ FrameEnd U o U' L room_1.cells room_1.slots) := by
  refine MetFree.of_bodySF (plainFor_of_name pn_2) hisR ?_
  intro p e s m args below meth c s₁ Bd hml0 hP hK
  obtain ⟨rfl, hZ, hh⟩ := hP
  have hx := Bd.exec
  have hby := Bd.bytes
  have hml : c.maxLocals = 21 := hml0
  have hown : s.vm.findClass "com/example/exact_repository/exactrepository/OrderEqualsPinLaw" = some m.cls := findClass_of_methodNamed Bd.named
  have hnm := (name_of_methodNamed Bd.named Bd.method).1
  have X0 : Stand p l e room_1 s m #[(.int q0), (.int q1), (.int q2), (.int q3)] below meth c s₁ [] 0 0 := Stand.of_body Bd
  have e0 : s₁.heap = h0 := by rw [← hh, Bd.state]; rfl
  have N0 := Fr.nil n0
  have pre0 : ∀ tg, Steps p.tables e below (s₁.setTop (mkF m 0 #[.val (.int q0), .val (.int q1), .val (.int q2), .val (.int q3), .unset, .unset, .unset, .unset, .unset, .unset, .unset, .unset, .unset, .unset, .unset, .unset, .unset, .unset, .unset, .unset, .unset] [])) tg → Steps p.tables e below (s₁.setTop (entryFrame m #[(.int q0), (.int q1), (.int q2), (.int q3)] maxLocals)) tg := fun tg kq => castTop (ef_IIII_21m m q0 q1 q2 q3) kq
  obtain ⟨_, _, ⟨T102, L102, k102, n102⟩, -, X102, ⟨Lc102, hQ102, l102, y102, z102⟩, st102⟩ := Jvm.LawKit.callS X0 hx (y := (⟨"com/example/exact_repository/exactrepository/OrderEqualsPinLaw", "make", "(ICC)Ljava/lang/String;"⟩ : MethodName)) hown (mvT hZ (wi hw 0 rfl)) (mvT hZ (wi hw 1 rfl)) (mvT hZ (wi hw 2 rfl)) (mvT hZ (wi hw 3 rfl)) (by decide) (backOf (W := 0) (rm1 l Z a0 hw [] G1 x8 x4 x5 cs1 h0 n0 O0 S_CS hG1 hg4 hg5 hcs1) hZ (wi hw 3 rfl) (wi hw 2 rfl) (by decide) (by decide)) (g := (mkF m 155 #[.val (.int q0), .val (.int q1), .val (.int q2), .val (.int q3), .val (.int x4), .val (.int x5), .val (.int x6), .val (.int x7), .val (.int x8), .val (.int x9), .val (.int x10), .val (.int x11), .val (.int x12), .val (.int x13), .val (.int x14), .unset, .unset, .unset, .unset, .unset, .unset] [(.int x5), (.int x4), (.int x8)])) rfl (by rw [hml]; rfl) (argsL := [(.int x8), (.int x4), (.int x5)]) (rest := []) (lenOf pd_7 rfl) rfl (by show 2 * 0 + _ ≤ _; exact Nat.le_of_eq rfl) (hb hby at_155) (fun _ _ => ⟨rfl, e0, (by decide : 0 + 3 ≤ _), (by decide : 0 + 8 ≤ _)⟩)
  dsimp only [Pt.U, Pt.locs, Pt.cells, Pt.slots] at X102 l102 y102 z102 st102 hQ102
  subst l102 y102 z102
  obtain ⟨xs1, rfl, N102q, K102, szx102, T102q⟩ := hQ102
  obtain ⟨h102, e102⟩ : ∃ z, T102.heap = z := ⟨_, rfl⟩
  rw [e102] at K102 T102q
  obtain ⟨tz1, kbz1, Nz1, vsz1, sEz1, sVz1, sCz1, sKz1, scdz1, shpz1, shlz1⟩ := id T102q
  have g_xs1 : n0 ≤ xs1 := Nat.le_trans (O0.1 ▸ O0.2.1) szx102
  have sz_xs1 : h0.size ≤ xs1 := Nat.le_trans (Nat.le_refl _) szx102
  have O102 := O0.keep K102 all0
  have KK102 : Keep h0 h102 [] := (Keep.refl h0 []).trans K102 all0
  have N102 := Fr.app N0 N102q
  obtain ⟨_, _, ⟨T104, L104, k104, n104⟩, -, X104, ⟨Lc104, hQ104, l104, y104, z104⟩, st104⟩ := Jvm.LawKit.callS X102 hx (y := (⟨"com/example/exact_repository/exactrepository/OrderEqualsPinLaw", "make", "(ICC)Ljava/lang/String;"⟩ : MethodName)) hown (mvT hZ (wi hw 0 rfl)) (mvT hZ (wi hw 1 rfl)) (mvT hZ (wi hw 2 rfl)) (mvT hZ (wi hw 3 rfl)) (by decide) (backOf (W := 0) (rm1 l Z a0 hw [] G1 x9 x10 x11 cs2 h102 n0 O102 S_CS hG1 hg10 hg11 hcs2) hZ (wi hw 3 rfl) (wi hw 2 rfl) (by decide) (by decide)) (g := (mkF m 166 #[.val (.int q0), .val (.int q1), .val (.int q2), .val (.int q3), .val (.int x4), .val (.int x5), .val (.int x6), .val (.int x7), .val (.int x8), .val (.int x9), .val (.int x10), .val (.int x11), .val (.int x12), .val (.int x13), .val (.int x14), .val (.ref xs1), .unset, .unset, .unset, .unset, .unset] [(.int x11), (.int x10), (.int x9)])) rfl (by rw [hml]; rfl) (argsL := [(.int x9), (.int x10), (.int x11)]) (rest := []) (lenOf pd_7 rfl) rfl (by show 2 * 0 + _ ≤ _; exact Nat.le_of_eq rfl) (hb hby at_166) (fun _ _ => ⟨rfl, e102, (by decide : 3 + 3 ≤ _), (by decide : 8 + 8 ≤ _)⟩)
  dsimp only [Pt.U, Pt.locs, Pt.cells, Pt.slots] at X104 l104 y104 z104 st104 hQ104
  subst l104 y104 z104
  obtain ⟨xs2, rfl, N104q, K104, szx104, T104q⟩ := hQ104
  obtain ⟨h104, e104⟩ : ∃ z, T104.heap = z := ⟨_, rfl⟩
  rw [e104] at K104 T104q
  obtain ⟨tz2, kbz2, Nz2, vsz2, sEz2, sVz2, sCz2, sKz2, scdz2, shpz2, shlz2⟩ := id T104q
  have g_xs2 : n0 ≤ xs2 := Nat.le_trans (O102.1 ▸ O102.2.1) szx104
  have sz_xs2 : h0.size ≤ xs2 := Nat.le_trans KK102.1 szx104
  have O104 := O102.keep K104 all0
  have KK104 : Keep h0 h104 [] := KK102.trans K104 all0
  have N104 := Fr.app N102 N104q
  obtain ⟨T105, h105, X105, e105, E105, A105, D105, -, st105⟩ := newO X104 hx hZ hown (wi hw 48 rfl) (wi hw 49 rfl) (wi hw 50 rfl) e104 (g := (mkF m 171 #[.val (.int q0), .val (.int q1), .val (.int q2), .val (.int q3), .val (.int x4), .val (.int x5), .val (.int x6), .val (.int x7), .val (.int x8), .val (.int x9), .val (.int x10), .val (.int x11), .val (.int x12), .val (.int x13), .val (.int x14), .val (.ref xs1), .val (.ref xs2), .unset, .unset, .unset, .unset] [])) rfl (hb hby at_171) (by decide) (by decide)
  obtain ⟨b105, g105⟩ : ∃ z, z = h104.size := ⟨_, rfl⟩
  rw [← g105] at A105 D105 st105
  have g_b105 : n0 ≤ b105 := Nat.le_trans (O104.1 ▸ O104.2.1) (Nat.le_of_eq g105.symm)
  have sz_b105 : h0.size ≤ b105 := Nat.le_trans KK104.1 (Nat.le_of_eq g105.symm)
  have O105 := O104.ext E105
  have KK105 : Keep h0 h105 [] := KK104.ext E105
  have F_property_b105 : Fld Z h105 b105 "com/example/exact_repository/exactrepository/Sort$Order" "property" "Ljava/lang/String;" .null := D105 (Or.inr (wi hw 61 rfl)) (ty := (.object "java/lang/String")) (by decide)
  have F_ascending_b105 : Fld Z h105 b105 "com/example/exact_repository/exactrepository/Sort$Order" "ascending" "Z" (.int (0 : Int32)) := D105 (Or.inr (wi hw 63 rfl)) (ty := .boolean) (by decide)
  have fE_xs1_3_106 := ((sEz1.keep K104).ext E105)
  have fString_value_3_107 := ((sVz1.keep K104 nin0).ext E105)
  have fString_coder_3_108 := ((sCz1.keep K104 nin0).ext E105)
  have fV_tz1_3_109 := ((sKz1.keep K104 nin0).ext E105)
  obtain ⟨_, _, ⟨T110, L110, k110, n110⟩, -, X110, ⟨Lc110, hQ110, l110, y110, z110⟩, st110⟩ := X105.specialBack hx (y := (⟨"com/example/exact_repository/exactrepository/Sort$Order", "<init>", "(Ljava/lang/String;Z)V"⟩ : MethodName)) rfl hown (mvT hZ (wi hw 51 rfl)) (mvT hZ (wi hw 52 rfl)) (mvT hZ (wi hw 53 rfl)) (by decide) (backOf (W := 1) (rm12 l Z a0 hw [] b105 xs1 x12 cs1 h105 n0 O105 ⟨A105, F_property_b105, F_ascending_b105⟩ ⟨_, _, _, _, fE_xs1_3_106, fString_value_3_107, fString_coder_3_108, fV_tz1_3_109, scdz1, shpz1, shlz1⟩ hl1 ha12 g_b105) hZ (wi hw 53 rfl) (wi hw 50 rfl) (by decide) (by decide)) (g := (mkF m 179 #[.val (.int q0), .val (.int q1), .val (.int q2), .val (.int q3), .val (.int x4), .val (.int x5), .val (.int x6), .val (.int x7), .val (.int x8), .val (.int x9), .val (.int x10), .val (.int x11), .val (.int x12), .val (.int x13), .val (.int x14), .val (.ref xs1), .val (.ref xs2), .unset, .unset, .unset, .unset] [(.int x12), (.ref xs1), (.ref b105), (.ref b105)])) rfl (by rw [hml]; rfl) (Steps.refl _) (a := b105) (argsL := [(.ref xs1), (.int x12)]) (rest := [(.ref b105)]) (lenOf pd_8 rfl) rfl (by show 2 * 0 + _ ≤ _; exact Nat.le_of_eq rfl) (hb hby at_179) (fun _ _ => ⟨rfl, e105, (by decide : 7 + 0 ≤ _), (by decide : 18 + 0 ≤ _)⟩)
  dsimp only [Pt.U, Pt.locs, Pt.cells, Pt.slots] at X110 l110 y110 z110 st110 hQ110
  subst l110 y110 z110
  obtain ⟨rfl, N110q, K110, oE110, oP110, oA110⟩ := hQ110
  obtain ⟨h110, e110⟩ : ∃ z, T110.heap = z := ⟨_, rfl⟩
  rw [e110] at K110 oE110 oP110 oA110
  have O110 := O105.keep K110 (allS g_b105 all0)
  have KK110 : Keep h0 h110 [] := KK105.trans K110 (allS (Or.inr sz_b105) all0)
  have N110 := Fr.app N104 N110q
  have fE_xs2_4_111 := ((sEz2.ext E105).keep K110)
  obtain ⟨cq112, kq112, q112a, q112b, q112c⟩ := isOf hZ e110 oE110
  obtain ⟨_, _, ⟨T112, L112, k112, n112⟩, -, X112, ⟨Lc112, hQ112, l112, y112, z112⟩, st112⟩ := X110.virtualBack hx (y := (⟨"com/example/exact_repository/exactrepository/Sort$Order", "equals", "(Ljava/lang/Object;)Z"⟩ : MethodName)) (z := (⟨"com/example/exact_repository/exactrepository/Sort$Order", "equals", "(Ljava/lang/Object;)Z"⟩ : MethodName)) hown (mvT hZ (wi hw 64 rfl)) (mvT hZ (wi hw 65 rfl)) (notFace_of_selects (args := #[]) (mvT hZ (wi hw 67 rfl))) (mvT hZ (wi hw 67 rfl)) (mvT hZ (wi hw 66 rfl)) (by decide) (backOf (W := 0) (rm14_s l Z a0 hw [] b105 xs2 h110 n0 O110 fE_xs2_4_111) hZ (wi hw 68 rfl) (wi hw 50 rfl) (by decide) (by decide)) q112a q112c (g := (mkF m 291 #[.val (.int q0), .val (.int q1), .val (.int q2), .val (.int q3), .val (.int x4), .val (.int x5), .val (.int x6), .val (.int x7), .val (.int x8), .val (.int x9), .val (.int x10), .val (.int x11), .val (.int x12), .val (.int x13), .val (.int x14), .val (.ref xs1), .val (.ref xs2), .val (.ref b105), .val (.ref xs2), .val (.int (0 : Int32)), .unset] [(.ref xs2), (.ref b105)])) rfl (by rw [hml]; rfl) (Steps.refl _) (argsL := [(.ref xs2)]) (rest := []) (lenOf pd_6 rfl) rfl (by show 2 * 0 + _ ≤ _; exact Nat.le_of_eq rfl) (hb hby at_291) (fun _ _ => ⟨rfl, e110, (by decide : 7 + 0 ≤ _), (by decide : 18 + 0 ≤ _)⟩)
  dsimp only [Pt.U, Pt.locs, Pt.cells, Pt.slots] at X112 l112 y112 z112 st112 hQ112
  subst l112 y112 z112
  obtain ⟨rfl, N112q, hh112⟩ := hQ112
  have e112 : T112.heap = h110 := hh112
  have N112 := Fr.app N110 N112q
  obtain ⟨fs, hr, hrun, hended, hW, hsame⟩ := X112.leave (v := some (.int (1 : Int32))) (fun h => by rw [Bd.returns] at h; cases h)
  refine ⟨_, _, pre0 _ ?_, hrun, hended, _, _, rfl, ?_, ⟨_, rfl⟩, hW, hsame.mono (by decide) (by decide)⟩
  · show Steps p.tables e below (s₁.setTop (mkF m 0 #[.val (.int q0), .val (.int q1), .val (.int q2), .val (.int q3), .unset, .unset, .unset, .unset, .unset, .unset, .unset, .unset, .unset, .unset, .unset, .unset, .unset, .unset, .unset, .unset, .unset] [])) _
    refine XS.iloadN X0.here hx rfl (hb hby at_0) rfl ?_
    show Steps p.tables e below (s₁.setTop (mkF m 1 #[.val (.int q0), .val (.int q1), .val (.int q2), .val (.int q3), .unset, .unset, .unset, .unset, .unset, .unset, .unset, .unset, .unset, .unset, .unset, .unset, .unset, .unset, .unset, .unset, .unset] [(.int q0)])) _
    refine XS.sipush X0.here hx rfl (hb hby at_1) ?_
    show Steps p.tables e below (s₁.setTop (mkF m 4 #[.val (.int q0), .val (.int q1), .val (.int q2), .val (.int q3), .unset, .unset, .unset, .unset, .unset, .unset, .unset, .unset, .unset, .unset, .unset, .unset, .unset, .unset, .unset, .unset, .unset] [(.int (255 : Int32)), (.int q0)])) _
    refine XS.iand X0.here hx rfl (hb hby at_4) rfl ?_
    show Steps p.tables e below (s₁.setTop (mkF m 5 #[.val (.int q0), .val (.int q1), .val (.int q2), .val (.int q3), .unset, .unset, .unset, .unset, .unset, .unset, .unset, .unset, .unset, .unset, .unset, .unset, .unset, .unset, .unset, .unset, .unset] [(.int (q0 &&& (255 : Int32)))])) _
    refine XS.i2c X0.here hx rfl (hb hby at_5) rfl ?_
    show Steps p.tables e below (s₁.setTop (mkF m 6 #[.val (.int q0), .val (.int q1), .val (.int q2), .val (.int q3), .unset, .unset, .unset, .unset, .unset, .unset, .unset, .unset, .unset, .unset, .unset, .unset, .unset, .unset, .unset, .unset, .unset] [(.int ((q0 &&& (255 : Int32)).toUInt32.toUInt16.toUInt32.toInt32))])) _
    rw [h4]
    show Steps p.tables e below (s₁.setTop (mkF m 6 #[.val (.int q0), .val (.int q1), .val (.int q2), .val (.int q3), .unset, .unset, .unset, .unset, .unset, .unset, .unset, .unset, .unset, .unset, .unset, .unset, .unset, .unset, .unset, .unset, .unset] [(.int x4)])) _
    refine XS.istore X0.here hx rfl (hb hby at_6) rfl (l' := #[.val (.int q0), .val (.int q1), .val (.int q2), .val (.int q3), .val (.int x4), .unset, .unset, .unset, .unset, .unset, .unset, .unset, .unset, .unset, .unset, .unset, .unset, .unset, .unset, .unset, .unset]) rfl ?_
    show Steps p.tables e below (s₁.setTop (mkF m 8 #[.val (.int q0), .val (.int q1), .val (.int q2), .val (.int q3), .val (.int x4), .unset, .unset, .unset, .unset, .unset, .unset, .unset, .unset, .unset, .unset, .unset, .unset, .unset, .unset, .unset, .unset] [])) _
    refine XS.iloadN X0.here hx rfl (hb hby at_8) rfl ?_
    show Steps p.tables e below (s₁.setTop (mkF m 9 #[.val (.int q0), .val (.int q1), .val (.int q2), .val (.int q3), .val (.int x4), .unset, .unset, .unset, .unset, .unset, .unset, .unset, .unset, .unset, .unset, .unset, .unset, .unset, .unset, .unset, .unset] [(.int q0)])) _
    refine XS.bipush X0.here hx rfl (hb hby at_9) ?_
    show Steps p.tables e below (s₁.setTop (mkF m 11 #[.val (.int q0), .val (.int q1), .val (.int q2), .val (.int q3), .val (.int x4), .unset, .unset, .unset, .unset, .unset, .unset, .unset, .unset, .unset, .unset, .unset, .unset, .unset, .unset, .unset, .unset] [(.int (8 : Int32)), (.int q0)])) _
    refine XS.iushr X0.here hx rfl (hb hby at_11) rfl ?_
    show Steps p.tables e below (s₁.setTop (mkF m 12 #[.val (.int q0), .val (.int q1), .val (.int q2), .val (.int q3), .val (.int x4), .unset, .unset, .unset, .unset, .unset, .unset, .unset, .unset, .unset, .unset, .unset, .unset, .unset, .unset, .unset, .unset] [(.int ((q0.toUInt32 >>> ((8 : Int32) &&& 31).toUInt32).toInt32))])) _
    refine XS.sipush X0.here hx rfl (hb hby at_12) ?_
    show Steps p.tables e below (s₁.setTop (mkF m 15 #[.val (.int q0), .val (.int q1), .val (.int q2), .val (.int q3), .val (.int x4), .unset, .unset, .unset, .unset, .unset, .unset, .unset, .unset, .unset, .unset, .unset, .unset, .unset, .unset, .unset, .unset] [(.int (255 : Int32)), (.int ((q0.toUInt32 >>> ((8 : Int32) &&& 31).toUInt32).toInt32))])) _
    refine XS.iand X0.here hx rfl (hb hby at_15) rfl ?_
    show Steps p.tables e below (s₁.setTop (mkF m 16 #[.val (.int q0), .val (.int q1), .val (.int q2), .val (.int q3), .val (.int x4), .unset, .unset, .unset, .unset, .unset, .unset, .unset, .unset, .unset, .unset, .unset, .unset, .unset, .unset, .unset, .unset] [(.int (((q0.toUInt32 >>> ((8 : Int32) &&& 31).toUInt32).toInt32) &&& (255 : Int32)))])) _
    refine XS.i2c X0.here hx rfl (hb hby at_16) rfl ?_
    show Steps p.tables e below (s₁.setTop (mkF m 17 #[.val (.int q0), .val (.int q1), .val (.int q2), .val (.int q3), .val (.int x4), .unset, .unset, .unset, .unset, .unset, .unset, .unset, .unset, .unset, .unset, .unset, .unset, .unset, .unset, .unset, .unset] [(.int ((((q0.toUInt32 >>> ((8 : Int32) &&& 31).toUInt32).toInt32) &&& (255 : Int32)).toUInt32.toUInt16.toUInt32.toInt32))])) _
    rw [h5]
    show Steps p.tables e below (s₁.setTop (mkF m 17 #[.val (.int q0), .val (.int q1), .val (.int q2), .val (.int q3), .val (.int x4), .unset, .unset, .unset, .unset, .unset, .unset, .unset, .unset, .unset, .unset, .unset, .unset, .unset, .unset, .unset, .unset] [(.int x5)])) _
    refine XS.istore X0.here hx rfl (hb hby at_17) rfl (l' := #[.val (.int q0), .val (.int q1), .val (.int q2), .val (.int q3), .val (.int x4), .val (.int x5), .unset, .unset, .unset, .unset, .unset, .unset, .unset, .unset, .unset, .unset, .unset, .unset, .unset, .unset, .unset]) rfl ?_
    show Steps p.tables e below (s₁.setTop (mkF m 19 #[.val (.int q0), .val (.int q1), .val (.int q2), .val (.int q3), .val (.int x4), .val (.int x5), .unset, .unset, .unset, .unset, .unset, .unset, .unset, .unset, .unset, .unset, .unset, .unset, .unset, .unset, .unset] [])) _
    refine XS.iloadN X0.here hx rfl (hb hby at_19) rfl ?_
    show Steps p.tables e below (s₁.setTop (mkF m 20 #[.val (.int q0), .val (.int q1), .val (.int q2), .val (.int q3), .val (.int x4), .val (.int x5), .unset, .unset, .unset, .unset, .unset, .unset, .unset, .unset, .unset, .unset, .unset, .unset, .unset, .unset, .unset] [(.int q1)])) _
    refine XS.sipush X0.here hx rfl (hb hby at_20) ?_
    show Steps p.tables e below (s₁.setTop (mkF m 23 #[.val (.int q0), .val (.int q1), .val (.int q2), .val (.int q3), .val (.int x4), .val (.int x5), .unset, .unset, .unset, .unset, .unset, .unset, .unset, .unset, .unset, .unset, .unset, .unset, .unset, .unset, .unset] [(.int (255 : Int32)), (.int q1)])) _
    refine XS.iand X0.here hx rfl (hb hby at_23) rfl ?_
    show Steps p.tables e below (s₁.setTop (mkF m 24 #[.val (.int q0), .val (.int q1), .val (.int q2), .val (.int q3), .val (.int x4), .val (.int x5), .unset, .unset, .unset, .unset, .unset, .unset, .unset, .unset, .unset, .unset, .unset, .unset, .unset, .unset, .unset] [(.int (q1 &&& (255 : Int32)))])) _
    refine XS.i2c X0.here hx rfl (hb hby at_24) rfl ?_
    show Steps p.tables e below (s₁.setTop (mkF m 25 #[.val (.int q0), .val (.int q1), .val (.int q2), .val (.int q3), .val (.int x4), .val (.int x5), .unset, .unset, .unset, .unset, .unset, .unset, .unset, .unset, .unset, .unset, .unset, .unset, .unset, .unset, .unset] [(.int ((q1 &&& (255 : Int32)).toUInt32.toUInt16.toUInt32.toInt32))])) _
    rw [h6]
    show Steps p.tables e below (s₁.setTop (mkF m 25 #[.val (.int q0), .val (.int q1), .val (.int q2), .val (.int q3), .val (.int x4), .val (.int x5), .unset, .unset, .unset, .unset, .unset, .unset, .unset, .unset, .unset, .unset, .unset, .unset, .unset, .unset, .unset] [(.int x6)])) _
    refine XS.istore X0.here hx rfl (hb hby at_25) rfl (l' := #[.val (.int q0), .val (.int q1), .val (.int q2), .val (.int q3), .val (.int x4), .val (.int x5), .val (.int x6), .unset, .unset, .unset, .unset, .unset, .unset, .unset, .unset, .unset, .unset, .unset, .unset, .unset, .unset]) rfl ?_
    show Steps p.tables e below (s₁.setTop (mkF m 27 #[.val (.int q0), .val (.int q1), .val (.int q2), .val (.int q3), .val (.int x4), .val (.int x5), .val (.int x6), .unset, .unset, .unset, .unset, .unset, .unset, .unset, .unset, .unset, .unset, .unset, .unset, .unset, .unset] [])) _
    refine XS.iloadN X0.here hx rfl (hb hby at_27) rfl ?_
    show Steps p.tables e below (s₁.setTop (mkF m 28 #[.val (.int q0), .val (.int q1), .val (.int q2), .val (.int q3), .val (.int x4), .val (.int x5), .val (.int x6), .unset, .unset, .unset, .unset, .unset, .unset, .unset, .unset, .unset, .unset, .unset, .unset, .unset, .unset] [(.int q1)])) _
    refine XS.bipush X0.here hx rfl (hb hby at_28) ?_
    show Steps p.tables e below (s₁.setTop (mkF m 30 #[.val (.int q0), .val (.int q1), .val (.int q2), .val (.int q3), .val (.int x4), .val (.int x5), .val (.int x6), .unset, .unset, .unset, .unset, .unset, .unset, .unset, .unset, .unset, .unset, .unset, .unset, .unset, .unset] [(.int (8 : Int32)), (.int q1)])) _
    refine XS.iushr X0.here hx rfl (hb hby at_30) rfl ?_
    show Steps p.tables e below (s₁.setTop (mkF m 31 #[.val (.int q0), .val (.int q1), .val (.int q2), .val (.int q3), .val (.int x4), .val (.int x5), .val (.int x6), .unset, .unset, .unset, .unset, .unset, .unset, .unset, .unset, .unset, .unset, .unset, .unset, .unset, .unset] [(.int ((q1.toUInt32 >>> ((8 : Int32) &&& 31).toUInt32).toInt32))])) _
    refine XS.sipush X0.here hx rfl (hb hby at_31) ?_
    show Steps p.tables e below (s₁.setTop (mkF m 34 #[.val (.int q0), .val (.int q1), .val (.int q2), .val (.int q3), .val (.int x4), .val (.int x5), .val (.int x6), .unset, .unset, .unset, .unset, .unset, .unset, .unset, .unset, .unset, .unset, .unset, .unset, .unset, .unset] [(.int (255 : Int32)), (.int ((q1.toUInt32 >>> ((8 : Int32) &&& 31).toUInt32).toInt32))])) _
    refine XS.iand X0.here hx rfl (hb hby at_34) rfl ?_
    show Steps p.tables e below (s₁.setTop (mkF m 35 #[.val (.int q0), .val (.int q1), .val (.int q2), .val (.int q3), .val (.int x4), .val (.int x5), .val (.int x6), .unset, .unset, .unset, .unset, .unset, .unset, .unset, .unset, .unset, .unset, .unset, .unset, .unset, .unset] [(.int (((q1.toUInt32 >>> ((8 : Int32) &&& 31).toUInt32).toInt32) &&& (255 : Int32)))])) _
    refine XS.i2c X0.here hx rfl (hb hby at_35) rfl ?_
    show Steps p.tables e below (s₁.setTop (mkF m 36 #[.val (.int q0), .val (.int q1), .val (.int q2), .val (.int q3), .val (.int x4), .val (.int x5), .val (.int x6), .unset, .unset, .unset, .unset, .unset, .unset, .unset, .unset, .unset, .unset, .unset, .unset, .unset, .unset] [(.int ((((q1.toUInt32 >>> ((8 : Int32) &&& 31).toUInt32).toInt32) &&& (255 : Int32)).toUInt32.toUInt16.toUInt32.toInt32))])) _
    rw [h7]
    show Steps p.tables e below (s₁.setTop (mkF m 36 #[.val (.int q0), .val (.int q1), .val (.int q2), .val (.int q3), .val (.int x4), .val (.int x5), .val (.int x6), .unset, .unset, .unset, .unset, .unset, .unset, .unset, .unset, .unset, .unset, .unset, .unset, .unset, .unset] [(.int x7)])) _
    refine XS.istore X0.here hx rfl (hb hby at_36) rfl (l' := #[.val (.int q0), .val (.int q1), .val (.int q2), .val (.int q3), .val (.int x4), .val (.int x5), .val (.int x6), .val (.int x7), .unset, .unset, .unset, .unset, .unset, .unset, .unset, .unset, .unset, .unset, .unset, .unset, .unset]) rfl ?_
    show Steps p.tables e below (s₁.setTop (mkF m 38 #[.val (.int q0), .val (.int q1), .val (.int q2), .val (.int q3), .val (.int x4), .val (.int x5), .val (.int x6), .val (.int x7), .unset, .unset, .unset, .unset, .unset, .unset, .unset, .unset, .unset, .unset, .unset, .unset, .unset] [])) _
    refine XS.iconst X0.here hx rfl (hb hby at_38) ?_
    show Steps p.tables e below (s₁.setTop (mkF m 39 #[.val (.int q0), .val (.int q1), .val (.int q2), .val (.int q3), .val (.int x4), .val (.int x5), .val (.int x6), .val (.int x7), .unset, .unset, .unset, .unset, .unset, .unset, .unset, .unset, .unset, .unset, .unset, .unset, .unset] [(.int (1 : Int32))])) _
    refine XS.iloadN X0.here hx rfl (hb hby at_39) rfl ?_
    show Steps p.tables e below (s₁.setTop (mkF m 40 #[.val (.int q0), .val (.int q1), .val (.int q2), .val (.int q3), .val (.int x4), .val (.int x5), .val (.int x6), .val (.int x7), .unset, .unset, .unset, .unset, .unset, .unset, .unset, .unset, .unset, .unset, .unset, .unset, .unset] [(.int q3), (.int (1 : Int32))])) _
    refine XS.iconst X0.here hx rfl (hb hby at_40) ?_
    show Steps p.tables e below (s₁.setTop (mkF m 41 #[.val (.int q0), .val (.int q1), .val (.int q2), .val (.int q3), .val (.int x4), .val (.int x5), .val (.int x6), .val (.int x7), .unset, .unset, .unset, .unset, .unset, .unset, .unset, .unset, .unset, .unset, .unset, .unset, .unset] [(.int (1 : Int32)), (.int q3), (.int (1 : Int32))])) _
    refine XS.iand X0.here hx rfl (hb hby at_41) rfl ?_
    show Steps p.tables e below (s₁.setTop (mkF m 42 #[.val (.int q0), .val (.int q1), .val (.int q2), .val (.int q3), .val (.int x4), .val (.int x5), .val (.int x6), .val (.int x7), .unset, .unset, .unset, .unset, .unset, .unset, .unset, .unset, .unset, .unset, .unset, .unset, .unset] [(.int (q3 &&& (1 : Int32))), (.int (1 : Int32))])) _
    refine XS.iadd X0.here hx rfl (hb hby at_42) rfl ?_
    show Steps p.tables e below (s₁.setTop (mkF m 43 #[.val (.int q0), .val (.int q1), .val (.int q2), .val (.int q3), .val (.int x4), .val (.int x5), .val (.int x6), .val (.int x7), .unset, .unset, .unset, .unset, .unset, .unset, .unset, .unset, .unset, .unset, .unset, .unset, .unset] [(.int ((1 : Int32) + (q3 &&& (1 : Int32))))])) _
    rw [h8]
    show Steps p.tables e below (s₁.setTop (mkF m 43 #[.val (.int q0), .val (.int q1), .val (.int q2), .val (.int q3), .val (.int x4), .val (.int x5), .val (.int x6), .val (.int x7), .unset, .unset, .unset, .unset, .unset, .unset, .unset, .unset, .unset, .unset, .unset, .unset, .unset] [(.int x8)])) _
    refine XS.istore X0.here hx rfl (hb hby at_43) rfl (l' := #[.val (.int q0), .val (.int q1), .val (.int q2), .val (.int q3), .val (.int x4), .val (.int x5), .val (.int x6), .val (.int x7), .val (.int x8), .unset, .unset, .unset, .unset, .unset, .unset, .unset, .unset, .unset, .unset, .unset, .unset]) rfl ?_
    show Steps p.tables e below (s₁.setTop (mkF m 45 #[.val (.int q0), .val (.int q1), .val (.int q2), .val (.int q3), .val (.int x4), .val (.int x5), .val (.int x6), .val (.int x7), .val (.int x8), .unset, .unset, .unset, .unset, .unset, .unset, .unset, .unset, .unset, .unset, .unset, .unset] [])) _
    refine seg45 X0 hx hby q0 q1 q2 q3 x4 x5 x6 x7 x8 x9 h9 ?_
    show Steps p.tables e below (s₁.setTop (mkF m 65 #[.val (.int q0), .val (.int q1), .val (.int q2), .val (.int q3), .val (.int x4), .val (.int x5), .val (.int x6), .val (.int x7), .val (.int x8), .unset, .unset, .unset, .unset, .unset, .unset, .unset, .unset, .unset, .unset, .unset, .unset] [(.int x9)])) _
    refine XS.istore X0.here hx rfl (hb hby at_65) rfl (l' := #[.val (.int q0), .val (.int q1), .val (.int q2), .val (.int q3), .val (.int x4), .val (.int x5), .val (.int x6), .val (.int x7), .val (.int x8), .val (.int x9), .unset, .unset, .unset, .unset, .unset, .unset, .unset, .unset, .unset, .unset, .unset]) rfl ?_
    show Steps p.tables e below (s₁.setTop (mkF m 67 #[.val (.int q0), .val (.int q1), .val (.int q2), .val (.int q3), .val (.int x4), .val (.int x5), .val (.int x6), .val (.int x7), .val (.int x8), .val (.int x9), .unset, .unset, .unset, .unset, .unset, .unset, .unset, .unset, .unset, .unset, .unset] [])) _
    refine seg67 X0 hx hby q0 q1 q2 q3 x4 x5 x6 x7 x8 x9 x10 h10 ?_
    show Steps p.tables e below (s₁.setTop (mkF m 80 #[.val (.int q0), .val (.int q1), .val (.int q2), .val (.int q3), .val (.int x4), .val (.int x5), .val (.int x6), .val (.int x7), .val (.int x8), .val (.int x9), .unset, .unset, .unset, .unset, .unset, .unset, .unset, .unset, .unset, .unset, .unset] [(.int x10)])) _
    refine XS.istore X0.here hx rfl (hb hby at_80) rfl (l' := #[.val (.int q0), .val (.int q1), .val (.int q2), .val (.int q3), .val (.int x4), .val (.int x5), .val (.int x6), .val (.int x7), .val (.int x8), .val (.int x9), .val (.int x10), .unset, .unset, .unset, .unset, .unset, .unset, .unset, .unset, .unset, .unset]) rfl ?_
    show Steps p.tables e below (s₁.setTop (mkF m 82 #[.val (.int q0), .val (.int q1), .val (.int q2), .val (.int q3), .val (.int x4), .val (.int x5), .val (.int x6), .val (.int x7), .val (.int x8), .val (.int x9), .val (.int x10), .unset, .unset, .unset, .unset, .unset, .unset, .unset, .unset, .unset, .unset] [])) _
    refine seg82 X0 hx hby q0 q1 q2 q3 x4 x5 x6 x7 x8 x9 x10 x11 h11 ?_
    show Steps p.tables e below (s₁.setTop (mkF m 97 #[.val (.int q0), .val (.int q1), .val (.int q2), .val (.int q3), .val (.int x4), .val (.int x5), .val (.int x6), .val (.int x7), .val (.int x8), .val (.int x9), .val (.int x10), .unset, .unset, .unset, .unset, .unset, .unset, .unset, .unset, .unset, .unset] [(.int x11)])) _
    refine XS.istore X0.here hx rfl (hb hby at_97) rfl (l' := #[.val (.int q0), .val (.int q1), .val (.int q2), .val (.int q3), .val (.int x4), .val (.int x5), .val (.int x6), .val (.int x7), .val (.int x8), .val (.int x9), .val (.int x10), .val (.int x11), .unset, .unset, .unset, .unset, .unset, .unset, .unset, .unset, .unset]) rfl ?_
    show Steps p.tables e below (s₁.setTop (mkF m 99 #[.val (.int q0), .val (.int q1), .val (.int q2), .val (.int q3), .val (.int x4), .val (.int x5), .val (.int x6), .val (.int x7), .val (.int x8), .val (.int x9), .val (.int x10), .val (.int x11), .unset, .unset, .unset, .unset, .unset, .unset, .unset, .unset, .unset] [])) _
    refine seg99 X0 hx hby q0 q1 q2 q3 x4 x5 x6 x7 x8 x9 x10 x11 x12 h12 ?_
    show Steps p.tables e below (s₁.setTop (mkF m 112 #[.val (.int q0), .val (.int q1), .val (.int q2), .val (.int q3), .val (.int x4), .val (.int x5), .val (.int x6), .val (.int x7), .val (.int x8), .val (.int x9), .val (.int x10), .val (.int x11), .unset, .unset, .unset, .unset, .unset, .unset, .unset, .unset, .unset] [(.int x12)])) _
    refine XS.istore X0.here hx rfl (hb hby at_112) rfl (l' := #[.val (.int q0), .val (.int q1), .val (.int q2), .val (.int q3), .val (.int x4), .val (.int x5), .val (.int x6), .val (.int x7), .val (.int x8), .val (.int x9), .val (.int x10), .val (.int x11), .val (.int x12), .unset, .unset, .unset, .unset, .unset, .unset, .unset, .unset]) rfl ?_
    show Steps p.tables e below (s₁.setTop (mkF m 114 #[.val (.int q0), .val (.int q1), .val (.int q2), .val (.int q3), .val (.int x4), .val (.int x5), .val (.int x6), .val (.int x7), .val (.int x8), .val (.int x9), .val (.int x10), .val (.int x11), .val (.int x12), .unset, .unset, .unset, .unset, .unset, .unset, .unset, .unset] [])) _
    refine seg114 X0 hx hby q0 q1 q2 q3 x4 x5 x6 x7 x8 x9 x10 x11 x12 x13 h13 ?_
    show Steps p.tables e below (s₁.setTop (mkF m 140 #[.val (.int q0), .val (.int q1), .val (.int q2), .val (.int q3), .val (.int x4), .val (.int x5), .val (.int x6), .val (.int x7), .val (.int x8), .val (.int x9), .val (.int x10), .val (.int x11), .val (.int x12), .unset, .unset, .unset, .unset, .unset, .unset, .unset, .unset] [(.int x13)])) _
    refine XS.istore X0.here hx rfl (hb hby at_140) rfl (l' := #[.val (.int q0), .val (.int q1), .val (.int q2), .val (.int q3), .val (.int x4), .val (.int x5), .val (.int x6), .val (.int x7), .val (.int x8), .val (.int x9), .val (.int x10), .val (.int x11), .val (.int x12), .val (.int x13), .unset, .unset, .unset, .unset, .unset, .unset, .unset]) rfl ?_
    show Steps p.tables e below (s₁.setTop (mkF m 142 #[.val (.int q0), .val (.int q1), .val (.int q2), .val (.int q3), .val (.int x4), .val (.int x5), .val (.int x6), .val (.int x7), .val (.int x8), .val (.int x9), .val (.int x10), .val (.int x11), .val (.int x12), .val (.int x13), .unset, .unset, .unset, .unset, .unset, .unset, .unset] [])) _
    refine XS.iloadN X0.here hx rfl (hb hby at_142) rfl ?_
    show Steps p.tables e below (s₁.setTop (mkF m 143 #[.val (.int q0), .val (.int q1), .val (.int q2), .val (.int q3), .val (.int x4), .val (.int x5), .val (.int x6), .val (.int x7), .val (.int x8), .val (.int x9), .val (.int x10), .val (.int x11), .val (.int x12), .val (.int x13), .unset, .unset, .unset, .unset, .unset, .unset, .unset] [(.int q3)])) _
    refine XS.iconst X0.here hx rfl (hb hby at_143) ?_
    show Steps p.tables e below (s₁.setTop (mkF m 144 #[.val (.int q0), .val (.int q1), .val (.int q2), .val (.int q3), .val (.int x4), .val (.int x5), .val (.int x6), .val (.int x7), .val (.int x8), .val (.int x9), .val (.int x10), .val (.int x11), .val (.int x12), .val (.int x13), .unset, .unset, .unset, .unset, .unset, .unset, .unset] [(.int (4 : Int32)), (.int q3)])) _
    refine XS.iushr X0.here hx rfl (hb hby at_144) rfl ?_
    show Steps p.tables e below (s₁.setTop (mkF m 145 #[.val (.int q0), .val (.int q1), .val (.int q2), .val (.int q3), .val (.int x4), .val (.int x5), .val (.int x6), .val (.int x7), .val (.int x8), .val (.int x9), .val (.int x10), .val (.int x11), .val (.int x12), .val (.int x13), .unset, .unset, .unset, .unset, .unset, .unset, .unset] [(.int ((q3.toUInt32 >>> ((4 : Int32) &&& 31).toUInt32).toInt32))])) _
    refine XS.iconst X0.here hx rfl (hb hby at_145) ?_
    show Steps p.tables e below (s₁.setTop (mkF m 146 #[.val (.int q0), .val (.int q1), .val (.int q2), .val (.int q3), .val (.int x4), .val (.int x5), .val (.int x6), .val (.int x7), .val (.int x8), .val (.int x9), .val (.int x10), .val (.int x11), .val (.int x12), .val (.int x13), .unset, .unset, .unset, .unset, .unset, .unset, .unset] [(.int (3 : Int32)), (.int ((q3.toUInt32 >>> ((4 : Int32) &&& 31).toUInt32).toInt32))])) _
    refine XS.iand X0.here hx rfl (hb hby at_146) rfl ?_
    show Steps p.tables e below (s₁.setTop (mkF m 147 #[.val (.int q0), .val (.int q1), .val (.int q2), .val (.int q3), .val (.int x4), .val (.int x5), .val (.int x6), .val (.int x7), .val (.int x8), .val (.int x9), .val (.int x10), .val (.int x11), .val (.int x12), .val (.int x13), .unset, .unset, .unset, .unset, .unset, .unset, .unset] [(.int (((q3.toUInt32 >>> ((4 : Int32) &&& 31).toUInt32).toInt32) &&& (3 : Int32)))])) _
    rw [h14]
    show Steps p.tables e below (s₁.setTop (mkF m 147 #[.val (.int q0), .val (.int q1), .val (.int q2), .val (.int q3), .val (.int x4), .val (.int x5), .val (.int x6), .val (.int x7), .val (.int x8), .val (.int x9), .val (.int x10), .val (.int x11), .val (.int x12), .val (.int x13), .unset, .unset, .unset, .unset, .unset, .unset, .unset] [(.int x14)])) _
    refine XS.istore X0.here hx rfl (hb hby at_147) rfl (l' := #[.val (.int q0), .val (.int q1), .val (.int q2), .val (.int q3), .val (.int x4), .val (.int x5), .val (.int x6), .val (.int x7), .val (.int x8), .val (.int x9), .val (.int x10), .val (.int x11), .val (.int x12), .val (.int x13), .val (.int x14), .unset, .unset, .unset, .unset, .unset, .unset]) rfl ?_
    show Steps p.tables e below (s₁.setTop (mkF m 149 #[.val (.int q0), .val (.int q1), .val (.int q2), .val (.int q3), .val (.int x4), .val (.int x5), .val (.int x6), .val (.int x7), .val (.int x8), .val (.int x9), .val (.int x10), .val (.int x11), .val (.int x12), .val (.int x13), .val (.int x14), .unset, .unset, .unset, .unset, .unset, .unset] [])) _
    refine XS.iload X0.here hx rfl (hb hby at_149) rfl ?_
    show Steps p.tables e below (s₁.setTop (mkF m 151 #[.val (.int q0), .val (.int q1), .val (.int q2), .val (.int q3), .val (.int x4), .val (.int x5), .val (.int x6), .val (.int x7), .val (.int x8), .val (.int x9), .val (.int x10), .val (.int x11), .val (.int x12), .val (.int x13), .val (.int x14), .unset, .unset, .unset, .unset, .unset, .unset] [(.int x8)])) _
    refine XS.iload X0.here hx rfl (hb hby at_151) rfl ?_
    show Steps p.tables e below (s₁.setTop (mkF m 153 #[.val (.int q0), .val (.int q1), .val (.int q2), .val (.int q3), .val (.int x4), .val (.int x5), .val (.int x6), .val (.int x7), .val (.int x8), .val (.int x9), .val (.int x10), .val (.int x11), .val (.int x12), .val (.int x13), .val (.int x14), .unset, .unset, .unset, .unset, .unset, .unset] [(.int x4), (.int x8)])) _
    refine XS.iload X0.here hx rfl (hb hby at_153) rfl ?_
    show Steps p.tables e below (s₁.setTop (mkF m 155 #[.val (.int q0), .val (.int q1), .val (.int q2), .val (.int q3), .val (.int x4), .val (.int x5), .val (.int x6), .val (.int x7), .val (.int x8), .val (.int x9), .val (.int x10), .val (.int x11), .val (.int x12), .val (.int x13), .val (.int x14), .unset, .unset, .unset, .unset, .unset, .unset] [(.int x5), (.int x4), (.int x8)])) _
    refine st102 _ ?_
    show Steps p.tables e below (T102.setTop (mkF m 158 #[.val (.int q0), .val (.int q1), .val (.int q2), .val (.int q3), .val (.int x4), .val (.int x5), .val (.int x6), .val (.int x7), .val (.int x8), .val (.int x9), .val (.int x10), .val (.int x11), .val (.int x12), .val (.int x13), .val (.int x14), .unset, .unset, .unset, .unset, .unset, .unset] [(.ref xs1)])) _
    refine XS.astore X102.here hx rfl (hb hby at_158) rfl rfl (l' := #[.val (.int q0), .val (.int q1), .val (.int q2), .val (.int q3), .val (.int x4), .val (.int x5), .val (.int x6), .val (.int x7), .val (.int x8), .val (.int x9), .val (.int x10), .val (.int x11), .val (.int x12), .val (.int x13), .val (.int x14), .val (.ref xs1), .unset, .unset, .unset, .unset, .unset]) rfl ?_
    show Steps p.tables e below (T102.setTop (mkF m 160 #[.val (.int q0), .val (.int q1), .val (.int q2), .val (.int q3), .val (.int x4), .val (.int x5), .val (.int x6), .val (.int x7), .val (.int x8), .val (.int x9), .val (.int x10), .val (.int x11), .val (.int x12), .val (.int x13), .val (.int x14), .val (.ref xs1), .unset, .unset, .unset, .unset, .unset] [])) _
    refine XS.iload X102.here hx rfl (hb hby at_160) rfl ?_
    show Steps p.tables e below (T102.setTop (mkF m 162 #[.val (.int q0), .val (.int q1), .val (.int q2), .val (.int q3), .val (.int x4), .val (.int x5), .val (.int x6), .val (.int x7), .val (.int x8), .val (.int x9), .val (.int x10), .val (.int x11), .val (.int x12), .val (.int x13), .val (.int x14), .val (.ref xs1), .unset, .unset, .unset, .unset, .unset] [(.int x9)])) _
    refine XS.iload X102.here hx rfl (hb hby at_162) rfl ?_
    show Steps p.tables e below (T102.setTop (mkF m 164 #[.val (.int q0), .val (.int q1), .val (.int q2), .val (.int q3), .val (.int x4), .val (.int x5), .val (.int x6), .val (.int x7), .val (.int x8), .val (.int x9), .val (.int x10), .val (.int x11), .val (.int x12), .val (.int x13), .val (.int x14), .val (.ref xs1), .unset, .unset, .unset, .unset, .unset] [(.int x10), (.int x9)])) _
    refine XS.iload X102.here hx rfl (hb hby at_164) rfl ?_
    show Steps p.tables e below (T102.setTop (mkF m 166 #[.val (.int q0), .val (.int q1), .val (.int q2), .val (.int q3), .val (.int x4), .val (.int x5), .val (.int x6), .val (.int x7), .val (.int x8), .val (.int x9), .val (.int x10), .val (.int x11), .val (.int x12), .val (.int x13), .val (.int x14), .val (.ref xs1), .unset, .unset, .unset, .unset, .unset] [(.int x11), (.int x10), (.int x9)])) _
    refine st104 _ ?_
    show Steps p.tables e below (T104.setTop (mkF m 169 #[.val (.int q0), .val (.int q1), .val (.int q2), .val (.int q3), .val (.int x4), .val (.int x5), .val (.int x6), .val (.int x7), .val (.int x8), .val (.int x9), .val (.int x10), .val (.int x11), .val (.int x12), .val (.int x13), .val (.int x14), .val (.ref xs1), .unset, .unset, .unset, .unset, .unset] [(.ref xs2)])) _
    refine XS.astore X104.here hx rfl (hb hby at_169) rfl rfl (l' := #[.val (.int q0), .val (.int q1), .val (.int q2), .val (.int q3), .val (.int x4), .val (.int x5), .val (.int x6), .val (.int x7), .val (.int x8), .val (.int x9), .val (.int x10), .val (.int x11), .val (.int x12), .val (.int x13), .val (.int x14), .val (.ref xs1), .val (.ref xs2), .unset, .unset, .unset, .unset]) rfl ?_
    show Steps p.tables e below (T104.setTop (mkF m 171 #[.val (.int q0), .val (.int q1), .val (.int q2), .val (.int q3), .val (.int x4), .val (.int x5), .val (.int x6), .val (.int x7), .val (.int x8), .val (.int x9), .val (.int x10), .val (.int x11), .val (.int x12), .val (.int x13), .val (.int x14), .val (.ref xs1), .val (.ref xs2), .unset, .unset, .unset, .unset] [])) _
    refine st105 _ ?_
    show Steps p.tables e below (T105.setTop (mkF m 174 #[.val (.int q0), .val (.int q1), .val (.int q2), .val (.int q3), .val (.int x4), .val (.int x5), .val (.int x6), .val (.int x7), .val (.int x8), .val (.int x9), .val (.int x10), .val (.int x11), .val (.int x12), .val (.int x13), .val (.int x14), .val (.ref xs1), .val (.ref xs2), .unset, .unset, .unset, .unset] [(.ref b105)])) _
    refine XS.dup X105.here hx rfl (hb hby at_174) rfl rfl ?_
    show Steps p.tables e below (T105.setTop (mkF m 175 #[.val (.int q0), .val (.int q1), .val (.int q2), .val (.int q3), .val (.int x4), .val (.int x5), .val (.int x6), .val (.int x7), .val (.int x8), .val (.int x9), .val (.int x10), .val (.int x11), .val (.int x12), .val (.int x13), .val (.int x14), .val (.ref xs1), .val (.ref xs2), .unset, .unset, .unset, .unset] [(.ref b105), (.ref b105)])) _
    refine XS.aload X105.here hx rfl (hb hby at_175) rfl rfl ?_
    show Steps p.tables e below (T105.setTop (mkF m 177 #[.val (.int q0), .val (.int q1), .val (.int q2), .val (.int q3), .val (.int x4), .val (.int x5), .val (.int x6), .val (.int x7), .val (.int x8), .val (.int x9), .val (.int x10), .val (.int x11), .val (.int x12), .val (.int x13), .val (.int x14), .val (.ref xs1), .val (.ref xs2), .unset, .unset, .unset, .unset] [(.ref xs1), (.ref b105), (.ref b105)])) _
    refine XS.iload X105.here hx rfl (hb hby at_177) rfl ?_
    show Steps p.tables e below (T105.setTop (mkF m 179 #[.val (.int q0), .val (.int q1), .val (.int q2), .val (.int q3), .val (.int x4), .val (.int x5), .val (.int x6), .val (.int x7), .val (.int x8), .val (.int x9), .val (.int x10), .val (.int x11), .val (.int x12), .val (.int x13), .val (.int x14), .val (.ref xs1), .val (.ref xs2), .unset, .unset, .unset, .unset] [(.int x12), (.ref xs1), (.ref b105), (.ref b105)])) _
    refine st110.trans ?_
    show Steps p.tables e below (T110.setTop (mkF m 182 #[.val (.int q0), .val (.int q1), .val (.int q2), .val (.int q3), .val (.int x4), .val (.int x5), .val (.int x6), .val (.int x7), .val (.int x8), .val (.int x9), .val (.int x10), .val (.int x11), .val (.int x12), .val (.int x13), .val (.int x14), .val (.ref xs1), .val (.ref xs2), .unset, .unset, .unset, .unset] [(.ref b105)])) _
    refine XS.astore X110.here hx rfl (hb hby at_182) rfl rfl (l' := #[.val (.int q0), .val (.int q1), .val (.int q2), .val (.int q3), .val (.int x4), .val (.int x5), .val (.int x6), .val (.int x7), .val (.int x8), .val (.int x9), .val (.int x10), .val (.int x11), .val (.int x12), .val (.int x13), .val (.int x14), .val (.ref xs1), .val (.ref xs2), .val (.ref b105), .unset, .unset, .unset]) rfl ?_
    show Steps p.tables e below (T110.setTop (mkF m 184 #[.val (.int q0), .val (.int q1), .val (.int q2), .val (.int q3), .val (.int x4), .val (.int x5), .val (.int x6), .val (.int x7), .val (.int x8), .val (.int x9), .val (.int x10), .val (.int x11), .val (.int x12), .val (.int x13), .val (.int x14), .val (.ref xs1), .val (.ref xs2), .val (.ref b105), .unset, .unset, .unset] [])) _
    refine XS.iload X110.here hx rfl (hb hby at_184) rfl ?_
    show Steps p.tables e below (T110.setTop (mkF m 186 #[.val (.int q0), .val (.int q1), .val (.int q2), .val (.int q3), .val (.int x4), .val (.int x5), .val (.int x6), .val (.int x7), .val (.int x8), .val (.int x9), .val (.int x10), .val (.int x11), .val (.int x12), .val (.int x13), .val (.int x14), .val (.ref xs1), .val (.ref xs2), .val (.ref b105), .unset, .unset, .unset] [(.int x14)])) _
    refine XS.iconst X110.here hx rfl (hb hby at_186) ?_
    show Steps p.tables e below (T110.setTop (mkF m 187 #[.val (.int q0), .val (.int q1), .val (.int q2), .val (.int q3), .val (.int x4), .val (.int x5), .val (.int x6), .val (.int x7), .val (.int x8), .val (.int x9), .val (.int x10), .val (.int x11), .val (.int x12), .val (.int x13), .val (.int x14), .val (.ref xs1), .val (.ref xs2), .val (.ref b105), .unset, .unset, .unset] [(.int (2 : Int32)), (.int x14)])) _
    refine XS.icmpYes X110.here hx rfl (pc0 := 187) (pc' := 196) rfl (hb hby at_187) rfl (feq k2).2 (by decide) (by decide) ?_
    show Steps p.tables e below (T110.setTop (mkF m 196 #[.val (.int q0), .val (.int q1), .val (.int q2), .val (.int q3), .val (.int x4), .val (.int x5), .val (.int x6), .val (.int x7), .val (.int x8), .val (.int x9), .val (.int x10), .val (.int x11), .val (.int x12), .val (.int x13), .val (.int x14), .val (.ref xs1), .val (.ref xs2), .val (.ref b105), .unset, .unset, .unset] [])) _
    refine XS.iload X110.here hx rfl (hb hby at_196) rfl ?_
    show Steps p.tables e below (T110.setTop (mkF m 198 #[.val (.int q0), .val (.int q1), .val (.int q2), .val (.int q3), .val (.int x4), .val (.int x5), .val (.int x6), .val (.int x7), .val (.int x8), .val (.int x9), .val (.int x10), .val (.int x11), .val (.int x12), .val (.int x13), .val (.int x14), .val (.ref xs1), .val (.ref xs2), .val (.ref b105), .unset, .unset, .unset] [(.int x14)])) _
    refine XS.iconst X110.here hx rfl (hb hby at_198) ?_
    show Steps p.tables e below (T110.setTop (mkF m 199 #[.val (.int q0), .val (.int q1), .val (.int q2), .val (.int q3), .val (.int x4), .val (.int x5), .val (.int x6), .val (.int x7), .val (.int x8), .val (.int x9), .val (.int x10), .val (.int x11), .val (.int x12), .val (.int x13), .val (.int x14), .val (.ref xs1), .val (.ref xs2), .val (.ref b105), .unset, .unset, .unset] [(.int (3 : Int32)), (.int x14)])) _
    refine XS.icmpNo X110.here hx rfl (hb hby at_199) rfl (teq k3).2 ?_
    show Steps p.tables e below (T110.setTop (mkF m 202 #[.val (.int q0), .val (.int q1), .val (.int q2), .val (.int q3), .val (.int x4), .val (.int x5), .val (.int x6), .val (.int x7), .val (.int x8), .val (.int x9), .val (.int x10), .val (.int x11), .val (.int x12), .val (.int x13), .val (.int x14), .val (.ref xs1), .val (.ref xs2), .val (.ref b105), .unset, .unset, .unset] [])) _
    refine XS.aload X110.here hx rfl (hb hby at_202) rfl rfl ?_
    show Steps p.tables e below (T110.setTop (mkF m 204 #[.val (.int q0), .val (.int q1), .val (.int q2), .val (.int q3), .val (.int x4), .val (.int x5), .val (.int x6), .val (.int x7), .val (.int x8), .val (.int x9), .val (.int x10), .val (.int x11), .val (.int x12), .val (.int x13), .val (.int x14), .val (.ref xs1), .val (.ref xs2), .val (.ref b105), .unset, .unset, .unset] [(.ref xs2)])) _
    refine XS.astore X110.here hx rfl (hb hby at_204) rfl rfl (l' := #[.val (.int q0), .val (.int q1), .val (.int q2), .val (.int q3), .val (.int x4), .val (.int x5), .val (.int x6), .val (.int x7), .val (.int x8), .val (.int x9), .val (.int x10), .val (.int x11), .val (.int x12), .val (.int x13), .val (.int x14), .val (.ref xs1), .val (.ref xs2), .val (.ref b105), .val (.ref xs2), .unset, .unset]) rfl ?_
    show Steps p.tables e below (T110.setTop (mkF m 206 #[.val (.int q0), .val (.int q1), .val (.int q2), .val (.int q3), .val (.int x4), .val (.int x5), .val (.int x6), .val (.int x7), .val (.int x8), .val (.int x9), .val (.int x10), .val (.int x11), .val (.int x12), .val (.int x13), .val (.int x14), .val (.ref xs1), .val (.ref xs2), .val (.ref b105), .val (.ref xs2), .unset, .unset] [])) _
    refine XS.goto X110.here hx rfl (pc0 := 206) (pc' := 222) rfl (hb hby at_206) (by decide) (by decide) ?_
    show Steps p.tables e below (T110.setTop (mkF m 222 #[.val (.int q0), .val (.int q1), .val (.int q2), .val (.int q3), .val (.int x4), .val (.int x5), .val (.int x6), .val (.int x7), .val (.int x8), .val (.int x9), .val (.int x10), .val (.int x11), .val (.int x12), .val (.int x13), .val (.int x14), .val (.ref xs1), .val (.ref xs2), .val (.ref b105), .val (.ref xs2), .unset, .unset] [])) _
    refine XS.iload X110.here hx rfl (hb hby at_222) rfl ?_
    show Steps p.tables e below (T110.setTop (mkF m 224 #[.val (.int q0), .val (.int q1), .val (.int q2), .val (.int q3), .val (.int x4), .val (.int x5), .val (.int x6), .val (.int x7), .val (.int x8), .val (.int x9), .val (.int x10), .val (.int x11), .val (.int x12), .val (.int x13), .val (.int x14), .val (.ref xs1), .val (.ref xs2), .val (.ref b105), .val (.ref xs2), .unset, .unset] [(.int x14)])) _
    refine XS.iconst X110.here hx rfl (hb hby at_224) ?_
    show Steps p.tables e below (T110.setTop (mkF m 225 #[.val (.int q0), .val (.int q1), .val (.int q2), .val (.int q3), .val (.int x4), .val (.int x5), .val (.int x6), .val (.int x7), .val (.int x8), .val (.int x9), .val (.int x10), .val (.int x11), .val (.int x12), .val (.int x13), .val (.int x14), .val (.ref xs1), .val (.ref xs2), .val (.ref b105), .val (.ref xs2), .unset, .unset] [(.int (2 : Int32)), (.int x14)])) _
    refine XS.icmpNo X110.here hx rfl (hb hby at_225) rfl (flt (by rw [k3]; decide)).1 ?_
    show Steps p.tables e below (T110.setTop (mkF m 228 #[.val (.int q0), .val (.int q1), .val (.int q2), .val (.int q3), .val (.int x4), .val (.int x5), .val (.int x6), .val (.int x7), .val (.int x8), .val (.int x9), .val (.int x10), .val (.int x11), .val (.int x12), .val (.int x13), .val (.int x14), .val (.ref xs1), .val (.ref xs2), .val (.ref b105), .val (.ref xs2), .unset, .unset] [])) _
    refine XS.iconst X110.here hx rfl (hb hby at_228) ?_
    show Steps p.tables e below (T110.setTop (mkF m 229 #[.val (.int q0), .val (.int q1), .val (.int q2), .val (.int q3), .val (.int x4), .val (.int x5), .val (.int x6), .val (.int x7), .val (.int x8), .val (.int x9), .val (.int x10), .val (.int x11), .val (.int x12), .val (.int x13), .val (.int x14), .val (.ref xs1), .val (.ref xs2), .val (.ref b105), .val (.ref xs2), .unset, .unset] [(.int (0 : Int32))])) _
    refine XS.istore X110.here hx rfl (hb hby at_229) rfl (l' := #[.val (.int q0), .val (.int q1), .val (.int q2), .val (.int q3), .val (.int x4), .val (.int x5), .val (.int x6), .val (.int x7), .val (.int x8), .val (.int x9), .val (.int x10), .val (.int x11), .val (.int x12), .val (.int x13), .val (.int x14), .val (.ref xs1), .val (.ref xs2), .val (.ref b105), .val (.ref xs2), .val (.int (0 : Int32)), .unset]) rfl ?_
    show Steps p.tables e below (T110.setTop (mkF m 231 #[.val (.int q0), .val (.int q1), .val (.int q2), .val (.int q3), .val (.int x4), .val (.int x5), .val (.int x6), .val (.int x7), .val (.int x8), .val (.int x9), .val (.int x10), .val (.int x11), .val (.int x12), .val (.int x13), .val (.int x14), .val (.ref xs1), .val (.ref xs2), .val (.ref b105), .val (.ref xs2), .val (.int (0 : Int32)), .unset] [])) _
    refine XS.goto X110.here hx rfl (pc0 := 231) (pc' := 287) rfl (hb hby at_231) (by decide) (by decide) ?_
    show Steps p.tables e below (T110.setTop (mkF m 287 #[.val (.int q0), .val (.int q1), .val (.int q2), .val (.int q3), .val (.int x4), .val (.int x5), .val (.int x6), .val (.int x7), .val (.int x8), .val (.int x9), .val (.int x10), .val (.int x11), .val (.int x12), .val (.int x13), .val (.int x14), .val (.ref xs1), .val (.ref xs2), .val (.ref b105), .val (.ref xs2), .val (.int (0 : Int32)), .unset] [])) _
    refine XS.aload X110.here hx rfl (hb hby at_287) rfl rfl ?_
    show Steps p.tables e below (T110.setTop (mkF m 289 #[.val (.int q0), .val (.int q1), .val (.int q2), .val (.int q3), .val (.int x4), .val (.int x5), .val (.int x6), .val (.int x7), .val (.int x8), .val (.int x9), .val (.int x10), .val (.int x11), .val (.int x12), .val (.int x13), .val (.int x14), .val (.ref xs1), .val (.ref xs2), .val (.ref b105), .val (.ref xs2), .val (.int (0 : Int32)), .unset] [(.ref b105)])) _
    refine XS.aload X110.here hx rfl (hb hby at_289) rfl rfl ?_
    show Steps p.tables e below (T110.setTop (mkF m 291 #[.val (.int q0), .val (.int q1), .val (.int q2), .val (.int q3), .val (.int x4), .val (.int x5), .val (.int x6), .val (.int x7), .val (.int x8), .val (.int x9), .val (.int x10), .val (.int x11), .val (.int x12), .val (.int x13), .val (.int x14), .val (.ref xs1), .val (.ref xs2), .val (.ref b105), .val (.ref xs2), .val (.int (0 : Int32)), .unset] [(.ref xs2), (.ref b105)])) _
    refine st112.trans ?_
    show Steps p.tables e below (T112.setTop (mkF m 294 #[.val (.int q0), .val (.int q1), .val (.int q2), .val (.int q3), .val (.int x4), .val (.int x5), .val (.int x6), .val (.int x7), .val (.int x8), .val (.int x9), .val (.int x10), .val (.int x11), .val (.int x12), .val (.int x13), .val (.int x14), .val (.ref xs1), .val (.ref xs2), .val (.ref b105), .val (.ref xs2), .val (.int (0 : Int32)), .unset] [(.int (0 : Int32))])) _
    refine XS.iload X112.here hx rfl (hb hby at_294) rfl ?_
    show Steps p.tables e below (T112.setTop (mkF m 296 #[.val (.int q0), .val (.int q1), .val (.int q2), .val (.int q3), .val (.int x4), .val (.int x5), .val (.int x6), .val (.int x7), .val (.int x8), .val (.int x9), .val (.int x10), .val (.int x11), .val (.int x12), .val (.int x13), .val (.int x14), .val (.ref xs1), .val (.ref xs2), .val (.ref b105), .val (.ref xs2), .val (.int (0 : Int32)), .unset] [(.int (0 : Int32)), (.int (0 : Int32))])) _
    refine XS.icmpNo X112.here hx rfl (hb hby at_296) rfl (teq (by decide : (0 : Int32) = (0 : Int32))).2 ?_
    show Steps p.tables e below (T112.setTop (mkF m 299 #[.val (.int q0), .val (.int q1), .val (.int q2), .val (.int q3), .val (.int x4), .val (.int x5), .val (.int x6), .val (.int x7), .val (.int x8), .val (.int x9), .val (.int x10), .val (.int x11), .val (.int x12), .val (.int x13), .val (.int x14), .val (.ref xs1), .val (.ref xs2), .val (.ref b105), .val (.ref xs2), .val (.int (0 : Int32)), .unset] [])) _
    refine XS.iconst X112.here hx rfl (hb hby at_299) ?_
    show Steps p.tables e below (T112.setTop (mkF m 300 #[.val (.int q0), .val (.int q1), .val (.int q2), .val (.int q3), .val (.int x4), .val (.int x5), .val (.int x6), .val (.int x7), .val (.int x8), .val (.int x9), .val (.int x10), .val (.int x11), .val (.int x12), .val (.int x13), .val (.int x14), .val (.ref xs1), .val (.ref xs2), .val (.ref b105), .val (.ref xs2), .val (.int (0 : Int32)), .unset] [(.int (1 : Int32))])) _
    refine XS.goto X112.here hx rfl (pc0 := 300) (pc' := 304) rfl (hb hby at_300) (by decide) (by decide) ?_
    show Steps p.tables e below (T112.setTop (mkF m 304 #[.val (.int q0), .val (.int q1), .val (.int q2), .val (.int q3), .val (.int x4), .val (.int x5), .val (.int x6), .val (.int x7), .val (.int x8), .val (.int x9), .val (.int x10), .val (.int x11), .val (.int x12), .val (.int x13), .val (.int x14), .val (.ref xs1), .val (.ref xs2), .val (.ref b105), .val (.ref xs2), .val (.int (0 : Int32)), .unset] [(.int (1 : Int32))])) _
    exact retN X112 hx (t := .boolean) Bd.returns (by simp) (hb hby at_304) hr
  · show Q0 h0 n0 _ T112.heap _
    rw [e112]
    exact ⟨rfl, N112⟩
set_option maxRecDepth 65536 in
set_option maxHeartbeats 40000000 in
theorem rm0_0 (l : Launch) (Z : State) (a0 : Array Value) (hw : ∀ d ∈ tables_1, d.before a0 Z = true) (ws : List Jvm.Cond) (q0 q1 q2 q3 : Int32) (G1 : Int32) (x4 x5 x6 x7 x8 x9 x10 x11 x12 x13 x14 : Int32) (cs1 cs2 : List Int32) (x19 x20 : Int32) (h0 : Heap) (n0 : Nat) (O0 : Old Z n0 h0) (S_CS : Sta Z Z.heap "java/lang/String" "COMPACT_STRINGS" "Z" (.int G1)) (hG1 : ¬ (G1 = (0 : Int32))) (h9 : x9 = if (((q2.toUInt32 >>> ((2 : Int32) &&& 31).toUInt32).toInt32) &&& (1 : Int32)) = (0 : Int32) then ((1 : Int32) + (((q3.toUInt32 >>> ((1 : Int32) &&& 31).toUInt32).toInt32) &&& (1 : Int32))) else x8) (h10 : x10 = if (q2 &&& (1 : Int32)) = (0 : Int32) then x6 else x4) (h11 : x11 = if (((q2.toUInt32 >>> ((1 : Int32) &&& 31).toUInt32).toInt32) &&& (1 : Int32)) = (0 : Int32) then x7 else x5) (h12 : x12 = if (((q3.toUInt32 >>> ((2 : Int32) &&& 31).toUInt32).toInt32) &&& (1 : Int32)) = (0 : Int32) then (0 : Int32) else (1 : Int32)) (h13 : x13 = if (((q2.toUInt32 >>> ((3 : Int32) &&& 31).toUInt32).toInt32) &&& (1 : Int32)) = (0 : Int32) then (if (((q3.toUInt32 >>> ((3 : Int32) &&& 31).toUInt32).toInt32) &&& (1 : Int32)) = (0 : Int32) then (0 : Int32) else (1 : Int32)) else x12) (hcs1 : cs1 = mk x8 x4 x5) (hcs2 : cs2 = mk x9 x10 x11) (hg4 : ¬ x4 < 0 ∧ ¬ (255 : Int32) < x4) (hg5 : ¬ x5 < 0 ∧ ¬ (255 : Int32) < x5) (hg10 : ¬ x10 < 0 ∧ ¬ (255 : Int32) < x10) (hg11 : ¬ x11 < 0 ∧ ¬ (255 : Int32) < x11) (hl1 : ¬ cs1.length = 0) (hl2 : ¬ cs2.length = 0) (ha12 : (x12 &&& 1) = x12) (ha13 : (x13 &&& 1) = x13) (k2 : ¬ (x14 = 2)) (k3 : ¬ (x14 = 3)) (kl : x14 < 2) (h20 : x20 = if x8 = x9 ∧ x4 = x10 ∧ (x8 = (1 : Int32) ∨ x5 = x11) then (1 : Int32) else (0 : Int32)) (h19 : x19 = if x20 = (0 : Int32) then (0 : Int32) else (if x12 = x13 then (1 : Int32) else (0 : Int32))) (hE : x19 = if cs1 = cs2 ∧ x12 = x13 then 1 else 0) (h4 : ((q0 &&& (255 : Int32)).toUInt32.toUInt16.toUInt32.toInt32) = x4) (h5 : ((((q0.toUInt32 >>> ((8 : Int32) &&& 31).toUInt32).toInt32) &&& (255 : Int32)).toUInt32.toUInt16.toUInt32.toInt32) = x5) (h6 : ((q1 &&& (255 : Int32)).toUInt32.toUInt16.toUInt32.toInt32) = x6) (h7 : ((((q1.toUInt32 >>> ((8 : Int32) &&& 31).toUInt32).toInt32) &&& (255 : Int32)).toUInt32.toUInt16.toUInt32.toInt32) = x7) (h8 : ((1 : Int32) + (q3 &&& (1 : Int32))) = x8) (h14 : (((q3.toUInt32 >>> ((4 : Int32) &&& 31).toUInt32).toInt32) &&& (3 : Int32)) = x14) :
    MetFree l x (head1 (Jvm.Cond.code x code maxLocals ret :: ws) room_1) (fun a_ U => a_ = #[(.int q0), (.int q1), (.int q2), (.int q3)] ∧ Z.Warmed39 U.vm ∧ U.heap = h0) (fun _ _ _ _ _ => True) (fun _ U o U' => ∃ v L, o = .returned v ∧ Q0 h0 n0 v U'.heap L ∧ FrameEnd U o U' L room_1.cells room_1.slots) := by
  refine MetFree.of_bodySF (plainFor_of_name pn_2) hisR ?_
  intro p e s m args below meth c s₁ Bd hml0 hP hK
  obtain ⟨rfl, hZ, hh⟩ := hP
  have hx := Bd.exec
  have hby := Bd.bytes
  have hml : c.maxLocals = 21 := hml0
  have hown : s.vm.findClass "com/example/exact_repository/exactrepository/OrderEqualsPinLaw" = some m.cls := findClass_of_methodNamed Bd.named
  have hnm := (name_of_methodNamed Bd.named Bd.method).1
  have X0 : Stand p l e room_1 s m #[(.int q0), (.int q1), (.int q2), (.int q3)] below meth c s₁ [] 0 0 := Stand.of_body Bd
  have e0 : s₁.heap = h0 := by rw [← hh, Bd.state]; rfl
  have N0 := Fr.nil n0
  have pre0 : ∀ tg, Steps p.tables e below (s₁.setTop (mkF m 0 #[.val (.int q0), .val (.int q1), .val (.int q2), .val (.int q3), .unset, .unset, .unset, .unset, .unset, .unset, .unset, .unset, .unset, .unset, .unset, .unset, .unset, .unset, .unset, .unset, .unset] [])) tg → Steps p.tables e below (s₁.setTop (entryFrame m #[(.int q0), (.int q1), (.int q2), (.int q3)] maxLocals)) tg := fun tg kq => castTop (ef_IIII_21m m q0 q1 q2 q3) kq
  obtain ⟨_, _, ⟨T102, L102, k102, n102⟩, -, X102, ⟨Lc102, hQ102, l102, y102, z102⟩, st102⟩ := Jvm.LawKit.callS X0 hx (y := (⟨"com/example/exact_repository/exactrepository/OrderEqualsPinLaw", "make", "(ICC)Ljava/lang/String;"⟩ : MethodName)) hown (mvT hZ (wi hw 0 rfl)) (mvT hZ (wi hw 1 rfl)) (mvT hZ (wi hw 2 rfl)) (mvT hZ (wi hw 3 rfl)) (by decide) (backOf (W := 0) (rm1 l Z a0 hw [] G1 x8 x4 x5 cs1 h0 n0 O0 S_CS hG1 hg4 hg5 hcs1) hZ (wi hw 3 rfl) (wi hw 2 rfl) (by decide) (by decide)) (g := (mkF m 155 #[.val (.int q0), .val (.int q1), .val (.int q2), .val (.int q3), .val (.int x4), .val (.int x5), .val (.int x6), .val (.int x7), .val (.int x8), .val (.int x9), .val (.int x10), .val (.int x11), .val (.int x12), .val (.int x13), .val (.int x14), .unset, .unset, .unset, .unset, .unset, .unset] [(.int x5), (.int x4), (.int x8)])) rfl (by rw [hml]; rfl) (argsL := [(.int x8), (.int x4), (.int x5)]) (rest := []) (lenOf pd_7 rfl) rfl (by show 2 * 0 + _ ≤ _; exact Nat.le_of_eq rfl) (hb hby at_155) (fun _ _ => ⟨rfl, e0, (by decide : 0 + 3 ≤ _), (by decide : 0 + 8 ≤ _)⟩)
  dsimp only [Pt.U, Pt.locs, Pt.cells, Pt.slots] at X102 l102 y102 z102 st102 hQ102
  subst l102 y102 z102
  obtain ⟨xs1, rfl, N102q, K102, szx102, T102q⟩ := hQ102
  obtain ⟨h102, e102⟩ : ∃ z, T102.heap = z := ⟨_, rfl⟩
  rw [e102] at K102 T102q
  obtain ⟨tz1, kbz1, Nz1, vsz1, sEz1, sVz1, sCz1, sKz1, scdz1, shpz1, shlz1⟩ := id T102q
  have g_xs1 : n0 ≤ xs1 := Nat.le_trans (O0.1 ▸ O0.2.1) szx102
  have sz_xs1 : h0.size ≤ xs1 := Nat.le_trans (Nat.le_refl _) szx102
  have O102 := O0.keep K102 all0
  have KK102 : Keep h0 h102 [] := (Keep.refl h0 []).trans K102 all0
  have N102 := Fr.app N0 N102q
  obtain ⟨_, _, ⟨T104, L104, k104, n104⟩, -, X104, ⟨Lc104, hQ104, l104, y104, z104⟩, st104⟩ := Jvm.LawKit.callS X102 hx (y := (⟨"com/example/exact_repository/exactrepository/OrderEqualsPinLaw", "make", "(ICC)Ljava/lang/String;"⟩ : MethodName)) hown (mvT hZ (wi hw 0 rfl)) (mvT hZ (wi hw 1 rfl)) (mvT hZ (wi hw 2 rfl)) (mvT hZ (wi hw 3 rfl)) (by decide) (backOf (W := 0) (rm1 l Z a0 hw [] G1 x9 x10 x11 cs2 h102 n0 O102 S_CS hG1 hg10 hg11 hcs2) hZ (wi hw 3 rfl) (wi hw 2 rfl) (by decide) (by decide)) (g := (mkF m 166 #[.val (.int q0), .val (.int q1), .val (.int q2), .val (.int q3), .val (.int x4), .val (.int x5), .val (.int x6), .val (.int x7), .val (.int x8), .val (.int x9), .val (.int x10), .val (.int x11), .val (.int x12), .val (.int x13), .val (.int x14), .val (.ref xs1), .unset, .unset, .unset, .unset, .unset] [(.int x11), (.int x10), (.int x9)])) rfl (by rw [hml]; rfl) (argsL := [(.int x9), (.int x10), (.int x11)]) (rest := []) (lenOf pd_7 rfl) rfl (by show 2 * 0 + _ ≤ _; exact Nat.le_of_eq rfl) (hb hby at_166) (fun _ _ => ⟨rfl, e102, (by decide : 3 + 3 ≤ _), (by decide : 8 + 8 ≤ _)⟩)
  dsimp only [Pt.U, Pt.locs, Pt.cells, Pt.slots] at X104 l104 y104 z104 st104 hQ104
  subst l104 y104 z104
  obtain ⟨xs2, rfl, N104q, K104, szx104, T104q⟩ := hQ104
  obtain ⟨h104, e104⟩ : ∃ z, T104.heap = z := ⟨_, rfl⟩
  rw [e104] at K104 T104q
  obtain ⟨tz2, kbz2, Nz2, vsz2, sEz2, sVz2, sCz2, sKz2, scdz2, shpz2, shlz2⟩ := id T104q
  have g_xs2 : n0 ≤ xs2 := Nat.le_trans (O102.1 ▸ O102.2.1) szx104
  have sz_xs2 : h0.size ≤ xs2 := Nat.le_trans KK102.1 szx104
  have O104 := O102.keep K104 all0
  have KK104 : Keep h0 h104 [] := KK102.trans K104 all0
  have N104 := Fr.app N102 N104q
  obtain ⟨T105, h105, X105, e105, E105, A105, D105, -, st105⟩ := newO X104 hx hZ hown (wi hw 48 rfl) (wi hw 49 rfl) (wi hw 50 rfl) e104 (g := (mkF m 171 #[.val (.int q0), .val (.int q1), .val (.int q2), .val (.int q3), .val (.int x4), .val (.int x5), .val (.int x6), .val (.int x7), .val (.int x8), .val (.int x9), .val (.int x10), .val (.int x11), .val (.int x12), .val (.int x13), .val (.int x14), .val (.ref xs1), .val (.ref xs2), .unset, .unset, .unset, .unset] [])) rfl (hb hby at_171) (by decide) (by decide)
  obtain ⟨b105, g105⟩ : ∃ z, z = h104.size := ⟨_, rfl⟩
  rw [← g105] at A105 D105 st105
  have g_b105 : n0 ≤ b105 := Nat.le_trans (O104.1 ▸ O104.2.1) (Nat.le_of_eq g105.symm)
  have sz_b105 : h0.size ≤ b105 := Nat.le_trans KK104.1 (Nat.le_of_eq g105.symm)
  have O105 := O104.ext E105
  have KK105 : Keep h0 h105 [] := KK104.ext E105
  have F_property_b105 : Fld Z h105 b105 "com/example/exact_repository/exactrepository/Sort$Order" "property" "Ljava/lang/String;" .null := D105 (Or.inr (wi hw 61 rfl)) (ty := (.object "java/lang/String")) (by decide)
  have F_ascending_b105 : Fld Z h105 b105 "com/example/exact_repository/exactrepository/Sort$Order" "ascending" "Z" (.int (0 : Int32)) := D105 (Or.inr (wi hw 63 rfl)) (ty := .boolean) (by decide)
  have fE_xs1_3_106 := ((sEz1.keep K104).ext E105)
  have fString_value_3_107 := ((sVz1.keep K104 nin0).ext E105)
  have fString_coder_3_108 := ((sCz1.keep K104 nin0).ext E105)
  have fV_tz1_3_109 := ((sKz1.keep K104 nin0).ext E105)
  obtain ⟨_, _, ⟨T110, L110, k110, n110⟩, -, X110, ⟨Lc110, hQ110, l110, y110, z110⟩, st110⟩ := X105.specialBack hx (y := (⟨"com/example/exact_repository/exactrepository/Sort$Order", "<init>", "(Ljava/lang/String;Z)V"⟩ : MethodName)) rfl hown (mvT hZ (wi hw 51 rfl)) (mvT hZ (wi hw 52 rfl)) (mvT hZ (wi hw 53 rfl)) (by decide) (backOf (W := 1) (rm12 l Z a0 hw [] b105 xs1 x12 cs1 h105 n0 O105 ⟨A105, F_property_b105, F_ascending_b105⟩ ⟨_, _, _, _, fE_xs1_3_106, fString_value_3_107, fString_coder_3_108, fV_tz1_3_109, scdz1, shpz1, shlz1⟩ hl1 ha12 g_b105) hZ (wi hw 53 rfl) (wi hw 50 rfl) (by decide) (by decide)) (g := (mkF m 179 #[.val (.int q0), .val (.int q1), .val (.int q2), .val (.int q3), .val (.int x4), .val (.int x5), .val (.int x6), .val (.int x7), .val (.int x8), .val (.int x9), .val (.int x10), .val (.int x11), .val (.int x12), .val (.int x13), .val (.int x14), .val (.ref xs1), .val (.ref xs2), .unset, .unset, .unset, .unset] [(.int x12), (.ref xs1), (.ref b105), (.ref b105)])) rfl (by rw [hml]; rfl) (Steps.refl _) (a := b105) (argsL := [(.ref xs1), (.int x12)]) (rest := [(.ref b105)]) (lenOf pd_8 rfl) rfl (by show 2 * 0 + _ ≤ _; exact Nat.le_of_eq rfl) (hb hby at_179) (fun _ _ => ⟨rfl, e105, (by decide : 7 + 0 ≤ _), (by decide : 18 + 0 ≤ _)⟩)
  dsimp only [Pt.U, Pt.locs, Pt.cells, Pt.slots] at X110 l110 y110 z110 st110 hQ110
  subst l110 y110 z110
  obtain ⟨rfl, N110q, K110, oE110, oP110, oA110⟩ := hQ110
  obtain ⟨h110, e110⟩ : ∃ z, T110.heap = z := ⟨_, rfl⟩
  rw [e110] at K110 oE110 oP110 oA110
  have O110 := O105.keep K110 (allS g_b105 all0)
  have KK110 : Keep h0 h110 [] := KK105.trans K110 (allS (Or.inr sz_b105) all0)
  have N110 := Fr.app N104 N110q
  obtain ⟨T111, h111, X111, e111, E111, A111, D111, -, st111⟩ := newO X110 hx hZ hown (wi hw 48 rfl) (wi hw 49 rfl) (wi hw 50 rfl) e110 (g := (mkF m 209 #[.val (.int q0), .val (.int q1), .val (.int q2), .val (.int q3), .val (.int x4), .val (.int x5), .val (.int x6), .val (.int x7), .val (.int x8), .val (.int x9), .val (.int x10), .val (.int x11), .val (.int x12), .val (.int x13), .val (.int x14), .val (.ref xs1), .val (.ref xs2), .val (.ref b105), .unset, .unset, .unset] [])) rfl (hb hby at_209) (by decide) (by decide)
  obtain ⟨b111, g111⟩ : ∃ z, z = h110.size := ⟨_, rfl⟩
  rw [← g111] at A111 D111 st111
  have g_b111 : n0 ≤ b111 := Nat.le_trans (O110.1 ▸ O110.2.1) (Nat.le_of_eq g111.symm)
  have sz_b111 : h0.size ≤ b111 := Nat.le_trans KK110.1 (Nat.le_of_eq g111.symm)
  have O111 := O110.ext E111
  have KK111 : Keep h0 h111 [] := KK110.ext E111
  have F_property_b111 : Fld Z h111 b111 "com/example/exact_repository/exactrepository/Sort$Order" "property" "Ljava/lang/String;" .null := D111 (Or.inr (wi hw 61 rfl)) (ty := (.object "java/lang/String")) (by decide)
  have F_ascending_b111 : Fld Z h111 b111 "com/example/exact_repository/exactrepository/Sort$Order" "ascending" "Z" (.int (0 : Int32)) := D111 (Or.inr (wi hw 63 rfl)) (ty := .boolean) (by decide)
  have fE_xs2_5_112 := (((sEz2.ext E105).keep K110).ext E111)
  have fString_value_5_113 := (((sVz2.ext E105).keep K110 (ninS (Nat.ne_of_lt (Nat.lt_of_lt_of_le sEz2.lt (Nat.le_of_eq g105.symm))) nin0)).ext E111)
  have fString_coder_5_114 := (((sCz2.ext E105).keep K110 (ninS (Nat.ne_of_lt (Nat.lt_of_lt_of_le sEz2.lt (Nat.le_of_eq g105.symm))) nin0)).ext E111)
  have fV_tz2_5_115 := (((sKz2.ext E105).keep K110 (ninS (Nat.ne_of_lt (Nat.lt_of_lt_of_le sKz2.lt (Nat.le_of_eq g105.symm))) nin0)).ext E111)
  obtain ⟨_, _, ⟨T116, L116, k116, n116⟩, -, X116, ⟨Lc116, hQ116, l116, y116, z116⟩, st116⟩ := X111.specialBack hx (y := (⟨"com/example/exact_repository/exactrepository/Sort$Order", "<init>", "(Ljava/lang/String;Z)V"⟩ : MethodName)) rfl hown (mvT hZ (wi hw 51 rfl)) (mvT hZ (wi hw 52 rfl)) (mvT hZ (wi hw 53 rfl)) (by decide) (backOf (W := 1) (rm12 l Z a0 hw [] b111 xs2 x13 cs2 h111 n0 O111 ⟨A111, F_property_b111, F_ascending_b111⟩ ⟨_, _, _, _, fE_xs2_5_112, fString_value_5_113, fString_coder_5_114, fV_tz2_5_115, scdz2, shpz2, shlz2⟩ hl2 ha13 g_b111) hZ (wi hw 53 rfl) (wi hw 50 rfl) (by decide) (by decide)) (g := (mkF m 217 #[.val (.int q0), .val (.int q1), .val (.int q2), .val (.int q3), .val (.int x4), .val (.int x5), .val (.int x6), .val (.int x7), .val (.int x8), .val (.int x9), .val (.int x10), .val (.int x11), .val (.int x12), .val (.int x13), .val (.int x14), .val (.ref xs1), .val (.ref xs2), .val (.ref b105), .unset, .unset, .unset] [(.int x13), (.ref xs2), (.ref b111), (.ref b111)])) rfl (by rw [hml]; rfl) (Steps.refl _) (a := b111) (argsL := [(.ref xs2), (.int x13)]) (rest := [(.ref b111)]) (lenOf pd_8 rfl) rfl (by show 2 * 0 + _ ≤ _; exact Nat.le_of_eq rfl) (hb hby at_217) (fun _ _ => ⟨rfl, e111, (by decide : 8 + 0 ≤ _), (by decide : 20 + 0 ≤ _)⟩)
  dsimp only [Pt.U, Pt.locs, Pt.cells, Pt.slots] at X116 l116 y116 z116 st116 hQ116
  subst l116 y116 z116
  obtain ⟨rfl, N116q, K116, oE116, oP116, oA116⟩ := hQ116
  obtain ⟨h116, e116⟩ : ∃ z, T116.heap = z := ⟨_, rfl⟩
  rw [e116] at K116 oE116 oP116 oA116
  have O116 := O111.keep K116 (allS g_b111 all0)
  have KK116 : Keep h0 h116 [] := KK111.trans K116 (allS (Or.inr sz_b111) all0)
  have N116 := Fr.app N110 N116q
  have fE_b105_6_117 := ((oE110.ext E111).keep K116)
  have fSort_Order_property_6_118 := ((oP110.ext E111).keep K116 (ninS (Nat.ne_of_lt (Nat.lt_of_lt_of_le oE110.lt (Nat.le_of_eq g111.symm))) nin0))
  have fSort_Order_ascending_6_119 := ((oA110.ext E111).keep K116 (ninS (Nat.ne_of_lt (Nat.lt_of_lt_of_le oE110.lt (Nat.le_of_eq g111.symm))) nin0))
  have fE_xs1_6_120 := (((fE_xs1_3_106.keep K110).ext E111).keep K116)
  have fString_value_6_121 := (((fString_value_3_107.keep K110 (ninS (Nat.ne_of_lt (Nat.lt_of_lt_of_le (sEz1.keep K104).lt (Nat.le_of_eq g105.symm))) nin0)).ext E111).keep K116 (ninS (Nat.ne_of_lt (Nat.lt_of_lt_of_le (fE_xs1_3_106.keep K110).lt (Nat.le_of_eq g111.symm))) nin0))
  have fString_coder_6_122 := (((fString_coder_3_108.keep K110 (ninS (Nat.ne_of_lt (Nat.lt_of_lt_of_le (sEz1.keep K104).lt (Nat.le_of_eq g105.symm))) nin0)).ext E111).keep K116 (ninS (Nat.ne_of_lt (Nat.lt_of_lt_of_le (fE_xs1_3_106.keep K110).lt (Nat.le_of_eq g111.symm))) nin0))
  have fV_tz1_6_123 := (((fV_tz1_3_109.keep K110 (ninS (Nat.ne_of_lt (Nat.lt_of_lt_of_le (sKz1.keep K104 nin0).lt (Nat.le_of_eq g105.symm))) nin0)).ext E111).keep K116 (ninS (Nat.ne_of_lt (Nat.lt_of_lt_of_le (fV_tz1_3_109.keep K110 (ninS (Nat.ne_of_lt (Nat.lt_of_lt_of_le (sKz1.keep K104 nin0).lt (Nat.le_of_eq g105.symm))) nin0)).lt (Nat.le_of_eq g111.symm))) nin0))
  have fE_xs2_6_124 := (fE_xs2_5_112.keep K116)
  have fString_value_6_125 := (fString_value_5_113.keep K116 (ninS (Nat.ne_of_lt (Nat.lt_of_lt_of_le ((sEz2.ext E105).keep K110).lt (Nat.le_of_eq g111.symm))) nin0))
  have fString_coder_6_126 := (fString_coder_5_114.keep K116 (ninS (Nat.ne_of_lt (Nat.lt_of_lt_of_le ((sEz2.ext E105).keep K110).lt (Nat.le_of_eq g111.symm))) nin0))
  have fV_tz2_6_127 := (fV_tz2_5_115.keep K116 (ninS (Nat.ne_of_lt (Nat.lt_of_lt_of_le ((sKz2.ext E105).keep K110 (ninS (Nat.ne_of_lt (Nat.lt_of_lt_of_le sKz2.lt (Nat.le_of_eq g105.symm))) nin0)).lt (Nat.le_of_eq g111.symm))) nin0))
  obtain ⟨cq128, kq128, q128a, q128b, q128c⟩ := isOf hZ e116 fE_b105_6_117
  obtain ⟨_, _, ⟨T128, L128, k128, n128⟩, -, X128, ⟨Lc128, hQ128, l128, y128, z128⟩, st128⟩ := X116.virtualBack hx (y := (⟨"com/example/exact_repository/exactrepository/Sort$Order", "equals", "(Ljava/lang/Object;)Z"⟩ : MethodName)) (z := (⟨"com/example/exact_repository/exactrepository/Sort$Order", "equals", "(Ljava/lang/Object;)Z"⟩ : MethodName)) hown (mvT hZ (wi hw 64 rfl)) (mvT hZ (wi hw 65 rfl)) (notFace_of_selects (args := #[]) (mvT hZ (wi hw 67 rfl))) (mvT hZ (wi hw 67 rfl)) (mvT hZ (wi hw 66 rfl)) (by decide) (backOf (W := 0) (rm14 l Z a0 hw [] G1 b105 b111 xs1 xs2 x12 x13 cs1 cs2 x19 h116 n0 O116 S_CS hG1 ⟨fE_b105_6_117, fSort_Order_property_6_118, fSort_Order_ascending_6_119⟩ ⟨oE116, oP116, oA116⟩ ⟨_, _, _, _, fE_xs1_6_120, fString_value_6_121, fString_coder_6_122, fV_tz1_6_123, scdz1, shpz1, shlz1⟩ ⟨_, _, _, _, fE_xs2_6_124, fString_value_6_125, fString_coder_6_126, fV_tz2_6_127, scdz2, shpz2, shlz2⟩ hE) hZ (wi hw 68 rfl) (wi hw 50 rfl) (by decide) (by decide)) q128a q128c (g := (mkF m 291 #[.val (.int q0), .val (.int q1), .val (.int q2), .val (.int q3), .val (.int x4), .val (.int x5), .val (.int x6), .val (.int x7), .val (.int x8), .val (.int x9), .val (.int x10), .val (.int x11), .val (.int x12), .val (.int x13), .val (.int x14), .val (.ref xs1), .val (.ref xs2), .val (.ref b105), .val (.ref b111), .val (.int x19), .val (.int x20)] [(.ref b111), (.ref b105)])) rfl (by rw [hml]; rfl) (Steps.refl _) (argsL := [(.ref b111)]) (rest := []) (lenOf pd_6 rfl) rfl (by show 2 * 0 + _ ≤ _; exact Nat.le_of_eq rfl) (hb hby at_291) (fun _ _ => ⟨rfl, e116, (by decide : 8 + 0 ≤ _), (by decide : 20 + 0 ≤ _)⟩)
  dsimp only [Pt.U, Pt.locs, Pt.cells, Pt.slots] at X128 l128 y128 z128 st128 hQ128
  subst l128 y128 z128
  obtain ⟨rfl, N128q, hh128⟩ := hQ128
  have e128 : T128.heap = h116 := hh128
  have N128 := Fr.app N116 N128q
  obtain ⟨fs, hr, hrun, hended, hW, hsame⟩ := X128.leave (v := some (.int (1 : Int32))) (fun h => by rw [Bd.returns] at h; cases h)
  refine ⟨_, _, pre0 _ ?_, hrun, hended, _, _, rfl, ?_, ⟨_, rfl⟩, hW, hsame.mono (by decide) (by decide)⟩
  · show Steps p.tables e below (s₁.setTop (mkF m 0 #[.val (.int q0), .val (.int q1), .val (.int q2), .val (.int q3), .unset, .unset, .unset, .unset, .unset, .unset, .unset, .unset, .unset, .unset, .unset, .unset, .unset, .unset, .unset, .unset, .unset] [])) _
    refine XS.iloadN X0.here hx rfl (hb hby at_0) rfl ?_
    show Steps p.tables e below (s₁.setTop (mkF m 1 #[.val (.int q0), .val (.int q1), .val (.int q2), .val (.int q3), .unset, .unset, .unset, .unset, .unset, .unset, .unset, .unset, .unset, .unset, .unset, .unset, .unset, .unset, .unset, .unset, .unset] [(.int q0)])) _
    refine XS.sipush X0.here hx rfl (hb hby at_1) ?_
    show Steps p.tables e below (s₁.setTop (mkF m 4 #[.val (.int q0), .val (.int q1), .val (.int q2), .val (.int q3), .unset, .unset, .unset, .unset, .unset, .unset, .unset, .unset, .unset, .unset, .unset, .unset, .unset, .unset, .unset, .unset, .unset] [(.int (255 : Int32)), (.int q0)])) _
    refine XS.iand X0.here hx rfl (hb hby at_4) rfl ?_
    show Steps p.tables e below (s₁.setTop (mkF m 5 #[.val (.int q0), .val (.int q1), .val (.int q2), .val (.int q3), .unset, .unset, .unset, .unset, .unset, .unset, .unset, .unset, .unset, .unset, .unset, .unset, .unset, .unset, .unset, .unset, .unset] [(.int (q0 &&& (255 : Int32)))])) _
    refine XS.i2c X0.here hx rfl (hb hby at_5) rfl ?_
    show Steps p.tables e below (s₁.setTop (mkF m 6 #[.val (.int q0), .val (.int q1), .val (.int q2), .val (.int q3), .unset, .unset, .unset, .unset, .unset, .unset, .unset, .unset, .unset, .unset, .unset, .unset, .unset, .unset, .unset, .unset, .unset] [(.int ((q0 &&& (255 : Int32)).toUInt32.toUInt16.toUInt32.toInt32))])) _
    rw [h4]
    show Steps p.tables e below (s₁.setTop (mkF m 6 #[.val (.int q0), .val (.int q1), .val (.int q2), .val (.int q3), .unset, .unset, .unset, .unset, .unset, .unset, .unset, .unset, .unset, .unset, .unset, .unset, .unset, .unset, .unset, .unset, .unset] [(.int x4)])) _
    refine XS.istore X0.here hx rfl (hb hby at_6) rfl (l' := #[.val (.int q0), .val (.int q1), .val (.int q2), .val (.int q3), .val (.int x4), .unset, .unset, .unset, .unset, .unset, .unset, .unset, .unset, .unset, .unset, .unset, .unset, .unset, .unset, .unset, .unset]) rfl ?_
    show Steps p.tables e below (s₁.setTop (mkF m 8 #[.val (.int q0), .val (.int q1), .val (.int q2), .val (.int q3), .val (.int x4), .unset, .unset, .unset, .unset, .unset, .unset, .unset, .unset, .unset, .unset, .unset, .unset, .unset, .unset, .unset, .unset] [])) _
    refine XS.iloadN X0.here hx rfl (hb hby at_8) rfl ?_
    show Steps p.tables e below (s₁.setTop (mkF m 9 #[.val (.int q0), .val (.int q1), .val (.int q2), .val (.int q3), .val (.int x4), .unset, .unset, .unset, .unset, .unset, .unset, .unset, .unset, .unset, .unset, .unset, .unset, .unset, .unset, .unset, .unset] [(.int q0)])) _
    refine XS.bipush X0.here hx rfl (hb hby at_9) ?_
    show Steps p.tables e below (s₁.setTop (mkF m 11 #[.val (.int q0), .val (.int q1), .val (.int q2), .val (.int q3), .val (.int x4), .unset, .unset, .unset, .unset, .unset, .unset, .unset, .unset, .unset, .unset, .unset, .unset, .unset, .unset, .unset, .unset] [(.int (8 : Int32)), (.int q0)])) _
    refine XS.iushr X0.here hx rfl (hb hby at_11) rfl ?_
    show Steps p.tables e below (s₁.setTop (mkF m 12 #[.val (.int q0), .val (.int q1), .val (.int q2), .val (.int q3), .val (.int x4), .unset, .unset, .unset, .unset, .unset, .unset, .unset, .unset, .unset, .unset, .unset, .unset, .unset, .unset, .unset, .unset] [(.int ((q0.toUInt32 >>> ((8 : Int32) &&& 31).toUInt32).toInt32))])) _
    refine XS.sipush X0.here hx rfl (hb hby at_12) ?_
    show Steps p.tables e below (s₁.setTop (mkF m 15 #[.val (.int q0), .val (.int q1), .val (.int q2), .val (.int q3), .val (.int x4), .unset, .unset, .unset, .unset, .unset, .unset, .unset, .unset, .unset, .unset, .unset, .unset, .unset, .unset, .unset, .unset] [(.int (255 : Int32)), (.int ((q0.toUInt32 >>> ((8 : Int32) &&& 31).toUInt32).toInt32))])) _
    refine XS.iand X0.here hx rfl (hb hby at_15) rfl ?_
    show Steps p.tables e below (s₁.setTop (mkF m 16 #[.val (.int q0), .val (.int q1), .val (.int q2), .val (.int q3), .val (.int x4), .unset, .unset, .unset, .unset, .unset, .unset, .unset, .unset, .unset, .unset, .unset, .unset, .unset, .unset, .unset, .unset] [(.int (((q0.toUInt32 >>> ((8 : Int32) &&& 31).toUInt32).toInt32) &&& (255 : Int32)))])) _
    refine XS.i2c X0.here hx rfl (hb hby at_16) rfl ?_
    show Steps p.tables e below (s₁.setTop (mkF m 17 #[.val (.int q0), .val (.int q1), .val (.int q2), .val (.int q3), .val (.int x4), .unset, .unset, .unset, .unset, .unset, .unset, .unset, .unset, .unset, .unset, .unset, .unset, .unset, .unset, .unset, .unset] [(.int ((((q0.toUInt32 >>> ((8 : Int32) &&& 31).toUInt32).toInt32) &&& (255 : Int32)).toUInt32.toUInt16.toUInt32.toInt32))])) _
    rw [h5]
    show Steps p.tables e below (s₁.setTop (mkF m 17 #[.val (.int q0), .val (.int q1), .val (.int q2), .val (.int q3), .val (.int x4), .unset, .unset, .unset, .unset, .unset, .unset, .unset, .unset, .unset, .unset, .unset, .unset, .unset, .unset, .unset, .unset] [(.int x5)])) _
    refine XS.istore X0.here hx rfl (hb hby at_17) rfl (l' := #[.val (.int q0), .val (.int q1), .val (.int q2), .val (.int q3), .val (.int x4), .val (.int x5), .unset, .unset, .unset, .unset, .unset, .unset, .unset, .unset, .unset, .unset, .unset, .unset, .unset, .unset, .unset]) rfl ?_
    show Steps p.tables e below (s₁.setTop (mkF m 19 #[.val (.int q0), .val (.int q1), .val (.int q2), .val (.int q3), .val (.int x4), .val (.int x5), .unset, .unset, .unset, .unset, .unset, .unset, .unset, .unset, .unset, .unset, .unset, .unset, .unset, .unset, .unset] [])) _
    refine XS.iloadN X0.here hx rfl (hb hby at_19) rfl ?_
    show Steps p.tables e below (s₁.setTop (mkF m 20 #[.val (.int q0), .val (.int q1), .val (.int q2), .val (.int q3), .val (.int x4), .val (.int x5), .unset, .unset, .unset, .unset, .unset, .unset, .unset, .unset, .unset, .unset, .unset, .unset, .unset, .unset, .unset] [(.int q1)])) _
    refine XS.sipush X0.here hx rfl (hb hby at_20) ?_
    show Steps p.tables e below (s₁.setTop (mkF m 23 #[.val (.int q0), .val (.int q1), .val (.int q2), .val (.int q3), .val (.int x4), .val (.int x5), .unset, .unset, .unset, .unset, .unset, .unset, .unset, .unset, .unset, .unset, .unset, .unset, .unset, .unset, .unset] [(.int (255 : Int32)), (.int q1)])) _
    refine XS.iand X0.here hx rfl (hb hby at_23) rfl ?_
    show Steps p.tables e below (s₁.setTop (mkF m 24 #[.val (.int q0), .val (.int q1), .val (.int q2), .val (.int q3), .val (.int x4), .val (.int x5), .unset, .unset, .unset, .unset, .unset, .unset, .unset, .unset, .unset, .unset, .unset, .unset, .unset, .unset, .unset] [(.int (q1 &&& (255 : Int32)))])) _
    refine XS.i2c X0.here hx rfl (hb hby at_24) rfl ?_
    show Steps p.tables e below (s₁.setTop (mkF m 25 #[.val (.int q0), .val (.int q1), .val (.int q2), .val (.int q3), .val (.int x4), .val (.int x5), .unset, .unset, .unset, .unset, .unset, .unset, .unset, .unset, .unset, .unset, .unset, .unset, .unset, .unset, .unset] [(.int ((q1 &&& (255 : Int32)).toUInt32.toUInt16.toUInt32.toInt32))])) _
    rw [h6]
    show Steps p.tables e below (s₁.setTop (mkF m 25 #[.val (.int q0), .val (.int q1), .val (.int q2), .val (.int q3), .val (.int x4), .val (.int x5), .unset, .unset, .unset, .unset, .unset, .unset, .unset, .unset, .unset, .unset, .unset, .unset, .unset, .unset, .unset] [(.int x6)])) _
    refine XS.istore X0.here hx rfl (hb hby at_25) rfl (l' := #[.val (.int q0), .val (.int q1), .val (.int q2), .val (.int q3), .val (.int x4), .val (.int x5), .val (.int x6), .unset, .unset, .unset, .unset, .unset, .unset, .unset, .unset, .unset, .unset, .unset, .unset, .unset, .unset]) rfl ?_
    show Steps p.tables e below (s₁.setTop (mkF m 27 #[.val (.int q0), .val (.int q1), .val (.int q2), .val (.int q3), .val (.int x4), .val (.int x5), .val (.int x6), .unset, .unset, .unset, .unset, .unset, .unset, .unset, .unset, .unset, .unset, .unset, .unset, .unset, .unset] [])) _
    refine XS.iloadN X0.here hx rfl (hb hby at_27) rfl ?_
    show Steps p.tables e below (s₁.setTop (mkF m 28 #[.val (.int q0), .val (.int q1), .val (.int q2), .val (.int q3), .val (.int x4), .val (.int x5), .val (.int x6), .unset, .unset, .unset, .unset, .unset, .unset, .unset, .unset, .unset, .unset, .unset, .unset, .unset, .unset] [(.int q1)])) _
    refine XS.bipush X0.here hx rfl (hb hby at_28) ?_
    show Steps p.tables e below (s₁.setTop (mkF m 30 #[.val (.int q0), .val (.int q1), .val (.int q2), .val (.int q3), .val (.int x4), .val (.int x5), .val (.int x6), .unset, .unset, .unset, .unset, .unset, .unset, .unset, .unset, .unset, .unset, .unset, .unset, .unset, .unset] [(.int (8 : Int32)), (.int q1)])) _
    refine XS.iushr X0.here hx rfl (hb hby at_30) rfl ?_
    show Steps p.tables e below (s₁.setTop (mkF m 31 #[.val (.int q0), .val (.int q1), .val (.int q2), .val (.int q3), .val (.int x4), .val (.int x5), .val (.int x6), .unset, .unset, .unset, .unset, .unset, .unset, .unset, .unset, .unset, .unset, .unset, .unset, .unset, .unset] [(.int ((q1.toUInt32 >>> ((8 : Int32) &&& 31).toUInt32).toInt32))])) _
    refine XS.sipush X0.here hx rfl (hb hby at_31) ?_
    show Steps p.tables e below (s₁.setTop (mkF m 34 #[.val (.int q0), .val (.int q1), .val (.int q2), .val (.int q3), .val (.int x4), .val (.int x5), .val (.int x6), .unset, .unset, .unset, .unset, .unset, .unset, .unset, .unset, .unset, .unset, .unset, .unset, .unset, .unset] [(.int (255 : Int32)), (.int ((q1.toUInt32 >>> ((8 : Int32) &&& 31).toUInt32).toInt32))])) _
    refine XS.iand X0.here hx rfl (hb hby at_34) rfl ?_
    show Steps p.tables e below (s₁.setTop (mkF m 35 #[.val (.int q0), .val (.int q1), .val (.int q2), .val (.int q3), .val (.int x4), .val (.int x5), .val (.int x6), .unset, .unset, .unset, .unset, .unset, .unset, .unset, .unset, .unset, .unset, .unset, .unset, .unset, .unset] [(.int (((q1.toUInt32 >>> ((8 : Int32) &&& 31).toUInt32).toInt32) &&& (255 : Int32)))])) _
    refine XS.i2c X0.here hx rfl (hb hby at_35) rfl ?_
    show Steps p.tables e below (s₁.setTop (mkF m 36 #[.val (.int q0), .val (.int q1), .val (.int q2), .val (.int q3), .val (.int x4), .val (.int x5), .val (.int x6), .unset, .unset, .unset, .unset, .unset, .unset, .unset, .unset, .unset, .unset, .unset, .unset, .unset, .unset] [(.int ((((q1.toUInt32 >>> ((8 : Int32) &&& 31).toUInt32).toInt32) &&& (255 : Int32)).toUInt32.toUInt16.toUInt32.toInt32))])) _
    rw [h7]
    show Steps p.tables e below (s₁.setTop (mkF m 36 #[.val (.int q0), .val (.int q1), .val (.int q2), .val (.int q3), .val (.int x4), .val (.int x5), .val (.int x6), .unset, .unset, .unset, .unset, .unset, .unset, .unset, .unset, .unset, .unset, .unset, .unset, .unset, .unset] [(.int x7)])) _
    refine XS.istore X0.here hx rfl (hb hby at_36) rfl (l' := #[.val (.int q0), .val (.int q1), .val (.int q2), .val (.int q3), .val (.int x4), .val (.int x5), .val (.int x6), .val (.int x7), .unset, .unset, .unset, .unset, .unset, .unset, .unset, .unset, .unset, .unset, .unset, .unset, .unset]) rfl ?_
    show Steps p.tables e below (s₁.setTop (mkF m 38 #[.val (.int q0), .val (.int q1), .val (.int q2), .val (.int q3), .val (.int x4), .val (.int x5), .val (.int x6), .val (.int x7), .unset, .unset, .unset, .unset, .unset, .unset, .unset, .unset, .unset, .unset, .unset, .unset, .unset] [])) _
    refine XS.iconst X0.here hx rfl (hb hby at_38) ?_
    show Steps p.tables e below (s₁.setTop (mkF m 39 #[.val (.int q0), .val (.int q1), .val (.int q2), .val (.int q3), .val (.int x4), .val (.int x5), .val (.int x6), .val (.int x7), .unset, .unset, .unset, .unset, .unset, .unset, .unset, .unset, .unset, .unset, .unset, .unset, .unset] [(.int (1 : Int32))])) _
    refine XS.iloadN X0.here hx rfl (hb hby at_39) rfl ?_
    show Steps p.tables e below (s₁.setTop (mkF m 40 #[.val (.int q0), .val (.int q1), .val (.int q2), .val (.int q3), .val (.int x4), .val (.int x5), .val (.int x6), .val (.int x7), .unset, .unset, .unset, .unset, .unset, .unset, .unset, .unset, .unset, .unset, .unset, .unset, .unset] [(.int q3), (.int (1 : Int32))])) _
    refine XS.iconst X0.here hx rfl (hb hby at_40) ?_
    show Steps p.tables e below (s₁.setTop (mkF m 41 #[.val (.int q0), .val (.int q1), .val (.int q2), .val (.int q3), .val (.int x4), .val (.int x5), .val (.int x6), .val (.int x7), .unset, .unset, .unset, .unset, .unset, .unset, .unset, .unset, .unset, .unset, .unset, .unset, .unset] [(.int (1 : Int32)), (.int q3), (.int (1 : Int32))])) _
    refine XS.iand X0.here hx rfl (hb hby at_41) rfl ?_
    show Steps p.tables e below (s₁.setTop (mkF m 42 #[.val (.int q0), .val (.int q1), .val (.int q2), .val (.int q3), .val (.int x4), .val (.int x5), .val (.int x6), .val (.int x7), .unset, .unset, .unset, .unset, .unset, .unset, .unset, .unset, .unset, .unset, .unset, .unset, .unset] [(.int (q3 &&& (1 : Int32))), (.int (1 : Int32))])) _
    refine XS.iadd X0.here hx rfl (hb hby at_42) rfl ?_
    show Steps p.tables e below (s₁.setTop (mkF m 43 #[.val (.int q0), .val (.int q1), .val (.int q2), .val (.int q3), .val (.int x4), .val (.int x5), .val (.int x6), .val (.int x7), .unset, .unset, .unset, .unset, .unset, .unset, .unset, .unset, .unset, .unset, .unset, .unset, .unset] [(.int ((1 : Int32) + (q3 &&& (1 : Int32))))])) _
    rw [h8]
    show Steps p.tables e below (s₁.setTop (mkF m 43 #[.val (.int q0), .val (.int q1), .val (.int q2), .val (.int q3), .val (.int x4), .val (.int x5), .val (.int x6), .val (.int x7), .unset, .unset, .unset, .unset, .unset, .unset, .unset, .unset, .unset, .unset, .unset, .unset, .unset] [(.int x8)])) _
    refine XS.istore X0.here hx rfl (hb hby at_43) rfl (l' := #[.val (.int q0), .val (.int q1), .val (.int q2), .val (.int q3), .val (.int x4), .val (.int x5), .val (.int x6), .val (.int x7), .val (.int x8), .unset, .unset, .unset, .unset, .unset, .unset, .unset, .unset, .unset, .unset, .unset, .unset]) rfl ?_
    show Steps p.tables e below (s₁.setTop (mkF m 45 #[.val (.int q0), .val (.int q1), .val (.int q2), .val (.int q3), .val (.int x4), .val (.int x5), .val (.int x6), .val (.int x7), .val (.int x8), .unset, .unset, .unset, .unset, .unset, .unset, .unset, .unset, .unset, .unset, .unset, .unset] [])) _
    refine seg45 X0 hx hby q0 q1 q2 q3 x4 x5 x6 x7 x8 x9 h9 ?_
    show Steps p.tables e below (s₁.setTop (mkF m 65 #[.val (.int q0), .val (.int q1), .val (.int q2), .val (.int q3), .val (.int x4), .val (.int x5), .val (.int x6), .val (.int x7), .val (.int x8), .unset, .unset, .unset, .unset, .unset, .unset, .unset, .unset, .unset, .unset, .unset, .unset] [(.int x9)])) _
    refine XS.istore X0.here hx rfl (hb hby at_65) rfl (l' := #[.val (.int q0), .val (.int q1), .val (.int q2), .val (.int q3), .val (.int x4), .val (.int x5), .val (.int x6), .val (.int x7), .val (.int x8), .val (.int x9), .unset, .unset, .unset, .unset, .unset, .unset, .unset, .unset, .unset, .unset, .unset]) rfl ?_
    show Steps p.tables e below (s₁.setTop (mkF m 67 #[.val (.int q0), .val (.int q1), .val (.int q2), .val (.int q3), .val (.int x4), .val (.int x5), .val (.int x6), .val (.int x7), .val (.int x8), .val (.int x9), .unset, .unset, .unset, .unset, .unset, .unset, .unset, .unset, .unset, .unset, .unset] [])) _
    refine seg67 X0 hx hby q0 q1 q2 q3 x4 x5 x6 x7 x8 x9 x10 h10 ?_
    show Steps p.tables e below (s₁.setTop (mkF m 80 #[.val (.int q0), .val (.int q1), .val (.int q2), .val (.int q3), .val (.int x4), .val (.int x5), .val (.int x6), .val (.int x7), .val (.int x8), .val (.int x9), .unset, .unset, .unset, .unset, .unset, .unset, .unset, .unset, .unset, .unset, .unset] [(.int x10)])) _
    refine XS.istore X0.here hx rfl (hb hby at_80) rfl (l' := #[.val (.int q0), .val (.int q1), .val (.int q2), .val (.int q3), .val (.int x4), .val (.int x5), .val (.int x6), .val (.int x7), .val (.int x8), .val (.int x9), .val (.int x10), .unset, .unset, .unset, .unset, .unset, .unset, .unset, .unset, .unset, .unset]) rfl ?_
    show Steps p.tables e below (s₁.setTop (mkF m 82 #[.val (.int q0), .val (.int q1), .val (.int q2), .val (.int q3), .val (.int x4), .val (.int x5), .val (.int x6), .val (.int x7), .val (.int x8), .val (.int x9), .val (.int x10), .unset, .unset, .unset, .unset, .unset, .unset, .unset, .unset, .unset, .unset] [])) _
    refine seg82 X0 hx hby q0 q1 q2 q3 x4 x5 x6 x7 x8 x9 x10 x11 h11 ?_
    show Steps p.tables e below (s₁.setTop (mkF m 97 #[.val (.int q0), .val (.int q1), .val (.int q2), .val (.int q3), .val (.int x4), .val (.int x5), .val (.int x6), .val (.int x7), .val (.int x8), .val (.int x9), .val (.int x10), .unset, .unset, .unset, .unset, .unset, .unset, .unset, .unset, .unset, .unset] [(.int x11)])) _
    refine XS.istore X0.here hx rfl (hb hby at_97) rfl (l' := #[.val (.int q0), .val (.int q1), .val (.int q2), .val (.int q3), .val (.int x4), .val (.int x5), .val (.int x6), .val (.int x7), .val (.int x8), .val (.int x9), .val (.int x10), .val (.int x11), .unset, .unset, .unset, .unset, .unset, .unset, .unset, .unset, .unset]) rfl ?_
    show Steps p.tables e below (s₁.setTop (mkF m 99 #[.val (.int q0), .val (.int q1), .val (.int q2), .val (.int q3), .val (.int x4), .val (.int x5), .val (.int x6), .val (.int x7), .val (.int x8), .val (.int x9), .val (.int x10), .val (.int x11), .unset, .unset, .unset, .unset, .unset, .unset, .unset, .unset, .unset] [])) _
    refine seg99 X0 hx hby q0 q1 q2 q3 x4 x5 x6 x7 x8 x9 x10 x11 x12 h12 ?_
    show Steps p.tables e below (s₁.setTop (mkF m 112 #[.val (.int q0), .val (.int q1), .val (.int q2), .val (.int q3), .val (.int x4), .val (.int x5), .val (.int x6), .val (.int x7), .val (.int x8), .val (.int x9), .val (.int x10), .val (.int x11), .unset, .unset, .unset, .unset, .unset, .unset, .unset, .unset, .unset] [(.int x12)])) _
    refine XS.istore X0.here hx rfl (hb hby at_112) rfl (l' := #[.val (.int q0), .val (.int q1), .val (.int q2), .val (.int q3), .val (.int x4), .val (.int x5), .val (.int x6), .val (.int x7), .val (.int x8), .val (.int x9), .val (.int x10), .val (.int x11), .val (.int x12), .unset, .unset, .unset, .unset, .unset, .unset, .unset, .unset]) rfl ?_
    show Steps p.tables e below (s₁.setTop (mkF m 114 #[.val (.int q0), .val (.int q1), .val (.int q2), .val (.int q3), .val (.int x4), .val (.int x5), .val (.int x6), .val (.int x7), .val (.int x8), .val (.int x9), .val (.int x10), .val (.int x11), .val (.int x12), .unset, .unset, .unset, .unset, .unset, .unset, .unset, .unset] [])) _
    refine seg114 X0 hx hby q0 q1 q2 q3 x4 x5 x6 x7 x8 x9 x10 x11 x12 x13 h13 ?_
    show Steps p.tables e below (s₁.setTop (mkF m 140 #[.val (.int q0), .val (.int q1), .val (.int q2), .val (.int q3), .val (.int x4), .val (.int x5), .val (.int x6), .val (.int x7), .val (.int x8), .val (.int x9), .val (.int x10), .val (.int x11), .val (.int x12), .unset, .unset, .unset, .unset, .unset, .unset, .unset, .unset] [(.int x13)])) _
    refine XS.istore X0.here hx rfl (hb hby at_140) rfl (l' := #[.val (.int q0), .val (.int q1), .val (.int q2), .val (.int q3), .val (.int x4), .val (.int x5), .val (.int x6), .val (.int x7), .val (.int x8), .val (.int x9), .val (.int x10), .val (.int x11), .val (.int x12), .val (.int x13), .unset, .unset, .unset, .unset, .unset, .unset, .unset]) rfl ?_
    show Steps p.tables e below (s₁.setTop (mkF m 142 #[.val (.int q0), .val (.int q1), .val (.int q2), .val (.int q3), .val (.int x4), .val (.int x5), .val (.int x6), .val (.int x7), .val (.int x8), .val (.int x9), .val (.int x10), .val (.int x11), .val (.int x12), .val (.int x13), .unset, .unset, .unset, .unset, .unset, .unset, .unset] [])) _
    refine XS.iloadN X0.here hx rfl (hb hby at_142) rfl ?_
    show Steps p.tables e below (s₁.setTop (mkF m 143 #[.val (.int q0), .val (.int q1), .val (.int q2), .val (.int q3), .val (.int x4), .val (.int x5), .val (.int x6), .val (.int x7), .val (.int x8), .val (.int x9), .val (.int x10), .val (.int x11), .val (.int x12), .val (.int x13), .unset, .unset, .unset, .unset, .unset, .unset, .unset] [(.int q3)])) _
    refine XS.iconst X0.here hx rfl (hb hby at_143) ?_
    show Steps p.tables e below (s₁.setTop (mkF m 144 #[.val (.int q0), .val (.int q1), .val (.int q2), .val (.int q3), .val (.int x4), .val (.int x5), .val (.int x6), .val (.int x7), .val (.int x8), .val (.int x9), .val (.int x10), .val (.int x11), .val (.int x12), .val (.int x13), .unset, .unset, .unset, .unset, .unset, .unset, .unset] [(.int (4 : Int32)), (.int q3)])) _
    refine XS.iushr X0.here hx rfl (hb hby at_144) rfl ?_
    show Steps p.tables e below (s₁.setTop (mkF m 145 #[.val (.int q0), .val (.int q1), .val (.int q2), .val (.int q3), .val (.int x4), .val (.int x5), .val (.int x6), .val (.int x7), .val (.int x8), .val (.int x9), .val (.int x10), .val (.int x11), .val (.int x12), .val (.int x13), .unset, .unset, .unset, .unset, .unset, .unset, .unset] [(.int ((q3.toUInt32 >>> ((4 : Int32) &&& 31).toUInt32).toInt32))])) _
    refine XS.iconst X0.here hx rfl (hb hby at_145) ?_
    show Steps p.tables e below (s₁.setTop (mkF m 146 #[.val (.int q0), .val (.int q1), .val (.int q2), .val (.int q3), .val (.int x4), .val (.int x5), .val (.int x6), .val (.int x7), .val (.int x8), .val (.int x9), .val (.int x10), .val (.int x11), .val (.int x12), .val (.int x13), .unset, .unset, .unset, .unset, .unset, .unset, .unset] [(.int (3 : Int32)), (.int ((q3.toUInt32 >>> ((4 : Int32) &&& 31).toUInt32).toInt32))])) _
    refine XS.iand X0.here hx rfl (hb hby at_146) rfl ?_
    show Steps p.tables e below (s₁.setTop (mkF m 147 #[.val (.int q0), .val (.int q1), .val (.int q2), .val (.int q3), .val (.int x4), .val (.int x5), .val (.int x6), .val (.int x7), .val (.int x8), .val (.int x9), .val (.int x10), .val (.int x11), .val (.int x12), .val (.int x13), .unset, .unset, .unset, .unset, .unset, .unset, .unset] [(.int (((q3.toUInt32 >>> ((4 : Int32) &&& 31).toUInt32).toInt32) &&& (3 : Int32)))])) _
    rw [h14]
    show Steps p.tables e below (s₁.setTop (mkF m 147 #[.val (.int q0), .val (.int q1), .val (.int q2), .val (.int q3), .val (.int x4), .val (.int x5), .val (.int x6), .val (.int x7), .val (.int x8), .val (.int x9), .val (.int x10), .val (.int x11), .val (.int x12), .val (.int x13), .unset, .unset, .unset, .unset, .unset, .unset, .unset] [(.int x14)])) _
    refine XS.istore X0.here hx rfl (hb hby at_147) rfl (l' := #[.val (.int q0), .val (.int q1), .val (.int q2), .val (.int q3), .val (.int x4), .val (.int x5), .val (.int x6), .val (.int x7), .val (.int x8), .val (.int x9), .val (.int x10), .val (.int x11), .val (.int x12), .val (.int x13), .val (.int x14), .unset, .unset, .unset, .unset, .unset, .unset]) rfl ?_
    show Steps p.tables e below (s₁.setTop (mkF m 149 #[.val (.int q0), .val (.int q1), .val (.int q2), .val (.int q3), .val (.int x4), .val (.int x5), .val (.int x6), .val (.int x7), .val (.int x8), .val (.int x9), .val (.int x10), .val (.int x11), .val (.int x12), .val (.int x13), .val (.int x14), .unset, .unset, .unset, .unset, .unset, .unset] [])) _
    refine XS.iload X0.here hx rfl (hb hby at_149) rfl ?_
    show Steps p.tables e below (s₁.setTop (mkF m 151 #[.val (.int q0), .val (.int q1), .val (.int q2), .val (.int q3), .val (.int x4), .val (.int x5), .val (.int x6), .val (.int x7), .val (.int x8), .val (.int x9), .val (.int x10), .val (.int x11), .val (.int x12), .val (.int x13), .val (.int x14), .unset, .unset, .unset, .unset, .unset, .unset] [(.int x8)])) _
    refine XS.iload X0.here hx rfl (hb hby at_151) rfl ?_
    show Steps p.tables e below (s₁.setTop (mkF m 153 #[.val (.int q0), .val (.int q1), .val (.int q2), .val (.int q3), .val (.int x4), .val (.int x5), .val (.int x6), .val (.int x7), .val (.int x8), .val (.int x9), .val (.int x10), .val (.int x11), .val (.int x12), .val (.int x13), .val (.int x14), .unset, .unset, .unset, .unset, .unset, .unset] [(.int x4), (.int x8)])) _
    refine XS.iload X0.here hx rfl (hb hby at_153) rfl ?_
    show Steps p.tables e below (s₁.setTop (mkF m 155 #[.val (.int q0), .val (.int q1), .val (.int q2), .val (.int q3), .val (.int x4), .val (.int x5), .val (.int x6), .val (.int x7), .val (.int x8), .val (.int x9), .val (.int x10), .val (.int x11), .val (.int x12), .val (.int x13), .val (.int x14), .unset, .unset, .unset, .unset, .unset, .unset] [(.int x5), (.int x4), (.int x8)])) _
    refine st102 _ ?_
    show Steps p.tables e below (T102.setTop (mkF m 158 #[.val (.int q0), .val (.int q1), .val (.int q2), .val (.int q3), .val (.int x4), .val (.int x5), .val (.int x6), .val (.int x7), .val (.int x8), .val (.int x9), .val (.int x10), .val (.int x11), .val (.int x12), .val (.int x13), .val (.int x14), .unset, .unset, .unset, .unset, .unset, .unset] [(.ref xs1)])) _
    refine XS.astore X102.here hx rfl (hb hby at_158) rfl rfl (l' := #[.val (.int q0), .val (.int q1), .val (.int q2), .val (.int q3), .val (.int x4), .val (.int x5), .val (.int x6), .val (.int x7), .val (.int x8), .val (.int x9), .val (.int x10), .val (.int x11), .val (.int x12), .val (.int x13), .val (.int x14), .val (.ref xs1), .unset, .unset, .unset, .unset, .unset]) rfl ?_
    show Steps p.tables e below (T102.setTop (mkF m 160 #[.val (.int q0), .val (.int q1), .val (.int q2), .val (.int q3), .val (.int x4), .val (.int x5), .val (.int x6), .val (.int x7), .val (.int x8), .val (.int x9), .val (.int x10), .val (.int x11), .val (.int x12), .val (.int x13), .val (.int x14), .val (.ref xs1), .unset, .unset, .unset, .unset, .unset] [])) _
    refine XS.iload X102.here hx rfl (hb hby at_160) rfl ?_
    show Steps p.tables e below (T102.setTop (mkF m 162 #[.val (.int q0), .val (.int q1), .val (.int q2), .val (.int q3), .val (.int x4), .val (.int x5), .val (.int x6), .val (.int x7), .val (.int x8), .val (.int x9), .val (.int x10), .val (.int x11), .val (.int x12), .val (.int x13), .val (.int x14), .val (.ref xs1), .unset, .unset, .unset, .unset, .unset] [(.int x9)])) _
    refine XS.iload X102.here hx rfl (hb hby at_162) rfl ?_
    show Steps p.tables e below (T102.setTop (mkF m 164 #[.val (.int q0), .val (.int q1), .val (.int q2), .val (.int q3), .val (.int x4), .val (.int x5), .val (.int x6), .val (.int x7), .val (.int x8), .val (.int x9), .val (.int x10), .val (.int x11), .val (.int x12), .val (.int x13), .val (.int x14), .val (.ref xs1), .unset, .unset, .unset, .unset, .unset] [(.int x10), (.int x9)])) _
    refine XS.iload X102.here hx rfl (hb hby at_164) rfl ?_
    show Steps p.tables e below (T102.setTop (mkF m 166 #[.val (.int q0), .val (.int q1), .val (.int q2), .val (.int q3), .val (.int x4), .val (.int x5), .val (.int x6), .val (.int x7), .val (.int x8), .val (.int x9), .val (.int x10), .val (.int x11), .val (.int x12), .val (.int x13), .val (.int x14), .val (.ref xs1), .unset, .unset, .unset, .unset, .unset] [(.int x11), (.int x10), (.int x9)])) _
    refine st104 _ ?_
    show Steps p.tables e below (T104.setTop (mkF m 169 #[.val (.int q0), .val (.int q1), .val (.int q2), .val (.int q3), .val (.int x4), .val (.int x5), .val (.int x6), .val (.int x7), .val (.int x8), .val (.int x9), .val (.int x10), .val (.int x11), .val (.int x12), .val (.int x13), .val (.int x14), .val (.ref xs1), .unset, .unset, .unset, .unset, .unset] [(.ref xs2)])) _
    refine XS.astore X104.here hx rfl (hb hby at_169) rfl rfl (l' := #[.val (.int q0), .val (.int q1), .val (.int q2), .val (.int q3), .val (.int x4), .val (.int x5), .val (.int x6), .val (.int x7), .val (.int x8), .val (.int x9), .val (.int x10), .val (.int x11), .val (.int x12), .val (.int x13), .val (.int x14), .val (.ref xs1), .val (.ref xs2), .unset, .unset, .unset, .unset]) rfl ?_
    show Steps p.tables e below (T104.setTop (mkF m 171 #[.val (.int q0), .val (.int q1), .val (.int q2), .val (.int q3), .val (.int x4), .val (.int x5), .val (.int x6), .val (.int x7), .val (.int x8), .val (.int x9), .val (.int x10), .val (.int x11), .val (.int x12), .val (.int x13), .val (.int x14), .val (.ref xs1), .val (.ref xs2), .unset, .unset, .unset, .unset] [])) _
    refine st105 _ ?_
    show Steps p.tables e below (T105.setTop (mkF m 174 #[.val (.int q0), .val (.int q1), .val (.int q2), .val (.int q3), .val (.int x4), .val (.int x5), .val (.int x6), .val (.int x7), .val (.int x8), .val (.int x9), .val (.int x10), .val (.int x11), .val (.int x12), .val (.int x13), .val (.int x14), .val (.ref xs1), .val (.ref xs2), .unset, .unset, .unset, .unset] [(.ref b105)])) _
    refine XS.dup X105.here hx rfl (hb hby at_174) rfl rfl ?_
    show Steps p.tables e below (T105.setTop (mkF m 175 #[.val (.int q0), .val (.int q1), .val (.int q2), .val (.int q3), .val (.int x4), .val (.int x5), .val (.int x6), .val (.int x7), .val (.int x8), .val (.int x9), .val (.int x10), .val (.int x11), .val (.int x12), .val (.int x13), .val (.int x14), .val (.ref xs1), .val (.ref xs2), .unset, .unset, .unset, .unset] [(.ref b105), (.ref b105)])) _
    refine XS.aload X105.here hx rfl (hb hby at_175) rfl rfl ?_
    show Steps p.tables e below (T105.setTop (mkF m 177 #[.val (.int q0), .val (.int q1), .val (.int q2), .val (.int q3), .val (.int x4), .val (.int x5), .val (.int x6), .val (.int x7), .val (.int x8), .val (.int x9), .val (.int x10), .val (.int x11), .val (.int x12), .val (.int x13), .val (.int x14), .val (.ref xs1), .val (.ref xs2), .unset, .unset, .unset, .unset] [(.ref xs1), (.ref b105), (.ref b105)])) _
    refine XS.iload X105.here hx rfl (hb hby at_177) rfl ?_
    show Steps p.tables e below (T105.setTop (mkF m 179 #[.val (.int q0), .val (.int q1), .val (.int q2), .val (.int q3), .val (.int x4), .val (.int x5), .val (.int x6), .val (.int x7), .val (.int x8), .val (.int x9), .val (.int x10), .val (.int x11), .val (.int x12), .val (.int x13), .val (.int x14), .val (.ref xs1), .val (.ref xs2), .unset, .unset, .unset, .unset] [(.int x12), (.ref xs1), (.ref b105), (.ref b105)])) _
    refine st110.trans ?_
    show Steps p.tables e below (T110.setTop (mkF m 182 #[.val (.int q0), .val (.int q1), .val (.int q2), .val (.int q3), .val (.int x4), .val (.int x5), .val (.int x6), .val (.int x7), .val (.int x8), .val (.int x9), .val (.int x10), .val (.int x11), .val (.int x12), .val (.int x13), .val (.int x14), .val (.ref xs1), .val (.ref xs2), .unset, .unset, .unset, .unset] [(.ref b105)])) _
    refine XS.astore X110.here hx rfl (hb hby at_182) rfl rfl (l' := #[.val (.int q0), .val (.int q1), .val (.int q2), .val (.int q3), .val (.int x4), .val (.int x5), .val (.int x6), .val (.int x7), .val (.int x8), .val (.int x9), .val (.int x10), .val (.int x11), .val (.int x12), .val (.int x13), .val (.int x14), .val (.ref xs1), .val (.ref xs2), .val (.ref b105), .unset, .unset, .unset]) rfl ?_
    show Steps p.tables e below (T110.setTop (mkF m 184 #[.val (.int q0), .val (.int q1), .val (.int q2), .val (.int q3), .val (.int x4), .val (.int x5), .val (.int x6), .val (.int x7), .val (.int x8), .val (.int x9), .val (.int x10), .val (.int x11), .val (.int x12), .val (.int x13), .val (.int x14), .val (.ref xs1), .val (.ref xs2), .val (.ref b105), .unset, .unset, .unset] [])) _
    refine XS.iload X110.here hx rfl (hb hby at_184) rfl ?_
    show Steps p.tables e below (T110.setTop (mkF m 186 #[.val (.int q0), .val (.int q1), .val (.int q2), .val (.int q3), .val (.int x4), .val (.int x5), .val (.int x6), .val (.int x7), .val (.int x8), .val (.int x9), .val (.int x10), .val (.int x11), .val (.int x12), .val (.int x13), .val (.int x14), .val (.ref xs1), .val (.ref xs2), .val (.ref b105), .unset, .unset, .unset] [(.int x14)])) _
    refine XS.iconst X110.here hx rfl (hb hby at_186) ?_
    show Steps p.tables e below (T110.setTop (mkF m 187 #[.val (.int q0), .val (.int q1), .val (.int q2), .val (.int q3), .val (.int x4), .val (.int x5), .val (.int x6), .val (.int x7), .val (.int x8), .val (.int x9), .val (.int x10), .val (.int x11), .val (.int x12), .val (.int x13), .val (.int x14), .val (.ref xs1), .val (.ref xs2), .val (.ref b105), .unset, .unset, .unset] [(.int (2 : Int32)), (.int x14)])) _
    refine XS.icmpYes X110.here hx rfl (pc0 := 187) (pc' := 196) rfl (hb hby at_187) rfl (feq k2).2 (by decide) (by decide) ?_
    show Steps p.tables e below (T110.setTop (mkF m 196 #[.val (.int q0), .val (.int q1), .val (.int q2), .val (.int q3), .val (.int x4), .val (.int x5), .val (.int x6), .val (.int x7), .val (.int x8), .val (.int x9), .val (.int x10), .val (.int x11), .val (.int x12), .val (.int x13), .val (.int x14), .val (.ref xs1), .val (.ref xs2), .val (.ref b105), .unset, .unset, .unset] [])) _
    refine XS.iload X110.here hx rfl (hb hby at_196) rfl ?_
    show Steps p.tables e below (T110.setTop (mkF m 198 #[.val (.int q0), .val (.int q1), .val (.int q2), .val (.int q3), .val (.int x4), .val (.int x5), .val (.int x6), .val (.int x7), .val (.int x8), .val (.int x9), .val (.int x10), .val (.int x11), .val (.int x12), .val (.int x13), .val (.int x14), .val (.ref xs1), .val (.ref xs2), .val (.ref b105), .unset, .unset, .unset] [(.int x14)])) _
    refine XS.iconst X110.here hx rfl (hb hby at_198) ?_
    show Steps p.tables e below (T110.setTop (mkF m 199 #[.val (.int q0), .val (.int q1), .val (.int q2), .val (.int q3), .val (.int x4), .val (.int x5), .val (.int x6), .val (.int x7), .val (.int x8), .val (.int x9), .val (.int x10), .val (.int x11), .val (.int x12), .val (.int x13), .val (.int x14), .val (.ref xs1), .val (.ref xs2), .val (.ref b105), .unset, .unset, .unset] [(.int (3 : Int32)), (.int x14)])) _
    refine XS.icmpYes X110.here hx rfl (pc0 := 199) (pc' := 209) rfl (hb hby at_199) rfl (feq k3).2 (by decide) (by decide) ?_
    show Steps p.tables e below (T110.setTop (mkF m 209 #[.val (.int q0), .val (.int q1), .val (.int q2), .val (.int q3), .val (.int x4), .val (.int x5), .val (.int x6), .val (.int x7), .val (.int x8), .val (.int x9), .val (.int x10), .val (.int x11), .val (.int x12), .val (.int x13), .val (.int x14), .val (.ref xs1), .val (.ref xs2), .val (.ref b105), .unset, .unset, .unset] [])) _
    refine st111 _ ?_
    show Steps p.tables e below (T111.setTop (mkF m 212 #[.val (.int q0), .val (.int q1), .val (.int q2), .val (.int q3), .val (.int x4), .val (.int x5), .val (.int x6), .val (.int x7), .val (.int x8), .val (.int x9), .val (.int x10), .val (.int x11), .val (.int x12), .val (.int x13), .val (.int x14), .val (.ref xs1), .val (.ref xs2), .val (.ref b105), .unset, .unset, .unset] [(.ref b111)])) _
    refine XS.dup X111.here hx rfl (hb hby at_212) rfl rfl ?_
    show Steps p.tables e below (T111.setTop (mkF m 213 #[.val (.int q0), .val (.int q1), .val (.int q2), .val (.int q3), .val (.int x4), .val (.int x5), .val (.int x6), .val (.int x7), .val (.int x8), .val (.int x9), .val (.int x10), .val (.int x11), .val (.int x12), .val (.int x13), .val (.int x14), .val (.ref xs1), .val (.ref xs2), .val (.ref b105), .unset, .unset, .unset] [(.ref b111), (.ref b111)])) _
    refine XS.aload X111.here hx rfl (hb hby at_213) rfl rfl ?_
    show Steps p.tables e below (T111.setTop (mkF m 215 #[.val (.int q0), .val (.int q1), .val (.int q2), .val (.int q3), .val (.int x4), .val (.int x5), .val (.int x6), .val (.int x7), .val (.int x8), .val (.int x9), .val (.int x10), .val (.int x11), .val (.int x12), .val (.int x13), .val (.int x14), .val (.ref xs1), .val (.ref xs2), .val (.ref b105), .unset, .unset, .unset] [(.ref xs2), (.ref b111), (.ref b111)])) _
    refine XS.iload X111.here hx rfl (hb hby at_215) rfl ?_
    show Steps p.tables e below (T111.setTop (mkF m 217 #[.val (.int q0), .val (.int q1), .val (.int q2), .val (.int q3), .val (.int x4), .val (.int x5), .val (.int x6), .val (.int x7), .val (.int x8), .val (.int x9), .val (.int x10), .val (.int x11), .val (.int x12), .val (.int x13), .val (.int x14), .val (.ref xs1), .val (.ref xs2), .val (.ref b105), .unset, .unset, .unset] [(.int x13), (.ref xs2), (.ref b111), (.ref b111)])) _
    refine st116.trans ?_
    show Steps p.tables e below (T116.setTop (mkF m 220 #[.val (.int q0), .val (.int q1), .val (.int q2), .val (.int q3), .val (.int x4), .val (.int x5), .val (.int x6), .val (.int x7), .val (.int x8), .val (.int x9), .val (.int x10), .val (.int x11), .val (.int x12), .val (.int x13), .val (.int x14), .val (.ref xs1), .val (.ref xs2), .val (.ref b105), .unset, .unset, .unset] [(.ref b111)])) _
    refine XS.astore X116.here hx rfl (hb hby at_220) rfl rfl (l' := #[.val (.int q0), .val (.int q1), .val (.int q2), .val (.int q3), .val (.int x4), .val (.int x5), .val (.int x6), .val (.int x7), .val (.int x8), .val (.int x9), .val (.int x10), .val (.int x11), .val (.int x12), .val (.int x13), .val (.int x14), .val (.ref xs1), .val (.ref xs2), .val (.ref b105), .val (.ref b111), .unset, .unset]) rfl ?_
    show Steps p.tables e below (T116.setTop (mkF m 222 #[.val (.int q0), .val (.int q1), .val (.int q2), .val (.int q3), .val (.int x4), .val (.int x5), .val (.int x6), .val (.int x7), .val (.int x8), .val (.int x9), .val (.int x10), .val (.int x11), .val (.int x12), .val (.int x13), .val (.int x14), .val (.ref xs1), .val (.ref xs2), .val (.ref b105), .val (.ref b111), .unset, .unset] [])) _
    refine XS.iload X116.here hx rfl (hb hby at_222) rfl ?_
    show Steps p.tables e below (T116.setTop (mkF m 224 #[.val (.int q0), .val (.int q1), .val (.int q2), .val (.int q3), .val (.int x4), .val (.int x5), .val (.int x6), .val (.int x7), .val (.int x8), .val (.int x9), .val (.int x10), .val (.int x11), .val (.int x12), .val (.int x13), .val (.int x14), .val (.ref xs1), .val (.ref xs2), .val (.ref b105), .val (.ref b111), .unset, .unset] [(.int x14)])) _
    refine XS.iconst X116.here hx rfl (hb hby at_224) ?_
    show Steps p.tables e below (T116.setTop (mkF m 225 #[.val (.int q0), .val (.int q1), .val (.int q2), .val (.int q3), .val (.int x4), .val (.int x5), .val (.int x6), .val (.int x7), .val (.int x8), .val (.int x9), .val (.int x10), .val (.int x11), .val (.int x12), .val (.int x13), .val (.int x14), .val (.ref xs1), .val (.ref xs2), .val (.ref b105), .val (.ref b111), .unset, .unset] [(.int (2 : Int32)), (.int x14)])) _
    refine XS.icmpYes X116.here hx rfl (pc0 := 225) (pc' := 234) rfl (hb hby at_225) rfl (tlt kl).1 (by decide) (by decide) ?_
    show Steps p.tables e below (T116.setTop (mkF m 234 #[.val (.int q0), .val (.int q1), .val (.int q2), .val (.int q3), .val (.int x4), .val (.int x5), .val (.int x6), .val (.int x7), .val (.int x8), .val (.int x9), .val (.int x10), .val (.int x11), .val (.int x12), .val (.int x13), .val (.int x14), .val (.ref xs1), .val (.ref xs2), .val (.ref b105), .val (.ref b111), .unset, .unset] [])) _
    refine seg234 X116 hx hby q0 q1 q2 q3 x4 x5 x6 x7 x8 x9 x10 x11 x12 x13 x14 x20 xs1 xs2 b105 b111 h20 ?_
    show Steps p.tables e below (T116.setTop (mkF m 266 #[.val (.int q0), .val (.int q1), .val (.int q2), .val (.int q3), .val (.int x4), .val (.int x5), .val (.int x6), .val (.int x7), .val (.int x8), .val (.int x9), .val (.int x10), .val (.int x11), .val (.int x12), .val (.int x13), .val (.int x14), .val (.ref xs1), .val (.ref xs2), .val (.ref b105), .val (.ref b111), .unset, .unset] [(.int x20)])) _
    refine XS.istore X116.here hx rfl (hb hby at_266) rfl (l' := #[.val (.int q0), .val (.int q1), .val (.int q2), .val (.int q3), .val (.int x4), .val (.int x5), .val (.int x6), .val (.int x7), .val (.int x8), .val (.int x9), .val (.int x10), .val (.int x11), .val (.int x12), .val (.int x13), .val (.int x14), .val (.ref xs1), .val (.ref xs2), .val (.ref b105), .val (.ref b111), .unset, .val (.int x20)]) rfl ?_
    show Steps p.tables e below (T116.setTop (mkF m 268 #[.val (.int q0), .val (.int q1), .val (.int q2), .val (.int q3), .val (.int x4), .val (.int x5), .val (.int x6), .val (.int x7), .val (.int x8), .val (.int x9), .val (.int x10), .val (.int x11), .val (.int x12), .val (.int x13), .val (.int x14), .val (.ref xs1), .val (.ref xs2), .val (.ref b105), .val (.ref b111), .unset, .val (.int x20)] [])) _
    refine seg268 X116 hx hby q0 q1 q2 q3 x4 x5 x6 x7 x8 x9 x10 x11 x12 x13 x14 x20 x19 xs1 xs2 b105 b111 h19 ?_
    show Steps p.tables e below (T116.setTop (mkF m 285 #[.val (.int q0), .val (.int q1), .val (.int q2), .val (.int q3), .val (.int x4), .val (.int x5), .val (.int x6), .val (.int x7), .val (.int x8), .val (.int x9), .val (.int x10), .val (.int x11), .val (.int x12), .val (.int x13), .val (.int x14), .val (.ref xs1), .val (.ref xs2), .val (.ref b105), .val (.ref b111), .unset, .val (.int x20)] [(.int x19)])) _
    refine XS.istore X116.here hx rfl (hb hby at_285) rfl (l' := #[.val (.int q0), .val (.int q1), .val (.int q2), .val (.int q3), .val (.int x4), .val (.int x5), .val (.int x6), .val (.int x7), .val (.int x8), .val (.int x9), .val (.int x10), .val (.int x11), .val (.int x12), .val (.int x13), .val (.int x14), .val (.ref xs1), .val (.ref xs2), .val (.ref b105), .val (.ref b111), .val (.int x19), .val (.int x20)]) rfl ?_
    show Steps p.tables e below (T116.setTop (mkF m 287 #[.val (.int q0), .val (.int q1), .val (.int q2), .val (.int q3), .val (.int x4), .val (.int x5), .val (.int x6), .val (.int x7), .val (.int x8), .val (.int x9), .val (.int x10), .val (.int x11), .val (.int x12), .val (.int x13), .val (.int x14), .val (.ref xs1), .val (.ref xs2), .val (.ref b105), .val (.ref b111), .val (.int x19), .val (.int x20)] [])) _
    refine XS.aload X116.here hx rfl (hb hby at_287) rfl rfl ?_
    show Steps p.tables e below (T116.setTop (mkF m 289 #[.val (.int q0), .val (.int q1), .val (.int q2), .val (.int q3), .val (.int x4), .val (.int x5), .val (.int x6), .val (.int x7), .val (.int x8), .val (.int x9), .val (.int x10), .val (.int x11), .val (.int x12), .val (.int x13), .val (.int x14), .val (.ref xs1), .val (.ref xs2), .val (.ref b105), .val (.ref b111), .val (.int x19), .val (.int x20)] [(.ref b105)])) _
    refine XS.aload X116.here hx rfl (hb hby at_289) rfl rfl ?_
    show Steps p.tables e below (T116.setTop (mkF m 291 #[.val (.int q0), .val (.int q1), .val (.int q2), .val (.int q3), .val (.int x4), .val (.int x5), .val (.int x6), .val (.int x7), .val (.int x8), .val (.int x9), .val (.int x10), .val (.int x11), .val (.int x12), .val (.int x13), .val (.int x14), .val (.ref xs1), .val (.ref xs2), .val (.ref b105), .val (.ref b111), .val (.int x19), .val (.int x20)] [(.ref b111), (.ref b105)])) _
    refine st128.trans ?_
    show Steps p.tables e below (T128.setTop (mkF m 294 #[.val (.int q0), .val (.int q1), .val (.int q2), .val (.int q3), .val (.int x4), .val (.int x5), .val (.int x6), .val (.int x7), .val (.int x8), .val (.int x9), .val (.int x10), .val (.int x11), .val (.int x12), .val (.int x13), .val (.int x14), .val (.ref xs1), .val (.ref xs2), .val (.ref b105), .val (.ref b111), .val (.int x19), .val (.int x20)] [(.int x19)])) _
    refine XS.iload X128.here hx rfl (hb hby at_294) rfl ?_
    show Steps p.tables e below (T128.setTop (mkF m 296 #[.val (.int q0), .val (.int q1), .val (.int q2), .val (.int q3), .val (.int x4), .val (.int x5), .val (.int x6), .val (.int x7), .val (.int x8), .val (.int x9), .val (.int x10), .val (.int x11), .val (.int x12), .val (.int x13), .val (.int x14), .val (.ref xs1), .val (.ref xs2), .val (.ref b105), .val (.ref b111), .val (.int x19), .val (.int x20)] [(.int x19), (.int x19)])) _
    refine XS.icmpNo X128.here hx rfl (hb hby at_296) rfl (teq (rfl : x19 = x19)).2 ?_
    show Steps p.tables e below (T128.setTop (mkF m 299 #[.val (.int q0), .val (.int q1), .val (.int q2), .val (.int q3), .val (.int x4), .val (.int x5), .val (.int x6), .val (.int x7), .val (.int x8), .val (.int x9), .val (.int x10), .val (.int x11), .val (.int x12), .val (.int x13), .val (.int x14), .val (.ref xs1), .val (.ref xs2), .val (.ref b105), .val (.ref b111), .val (.int x19), .val (.int x20)] [])) _
    refine XS.iconst X128.here hx rfl (hb hby at_299) ?_
    show Steps p.tables e below (T128.setTop (mkF m 300 #[.val (.int q0), .val (.int q1), .val (.int q2), .val (.int q3), .val (.int x4), .val (.int x5), .val (.int x6), .val (.int x7), .val (.int x8), .val (.int x9), .val (.int x10), .val (.int x11), .val (.int x12), .val (.int x13), .val (.int x14), .val (.ref xs1), .val (.ref xs2), .val (.ref b105), .val (.ref b111), .val (.int x19), .val (.int x20)] [(.int (1 : Int32))])) _
    refine XS.goto X128.here hx rfl (pc0 := 300) (pc' := 304) rfl (hb hby at_300) (by decide) (by decide) ?_
    show Steps p.tables e below (T128.setTop (mkF m 304 #[.val (.int q0), .val (.int q1), .val (.int q2), .val (.int q3), .val (.int x4), .val (.int x5), .val (.int x6), .val (.int x7), .val (.int x8), .val (.int x9), .val (.int x10), .val (.int x11), .val (.int x12), .val (.int x13), .val (.int x14), .val (.ref xs1), .val (.ref xs2), .val (.ref b105), .val (.ref b111), .val (.int x19), .val (.int x20)] [(.int (1 : Int32))])) _
    exact retN X128 hx (t := .boolean) Bd.returns (by simp) (hb hby at_304) hr
  · show Q0 h0 n0 _ T128.heap _
    rw [e128]
    exact ⟨rfl, N128⟩
theorem own_bit (x : Int32) : (x &&& 1) = 0 ∨ (x &&& 1) = 1 := by
  have h : (x &&& 1).toBitVec.toNat < 2 := by
    simp only [Int32.toBitVec_and, BitVec.toNat_and]
    exact Nat.lt_succ_of_le Nat.and_le_right
  have e : (x &&& 1) = Int32.ofNat (x &&& 1).toBitVec.toNat := by
    apply Int32.toBitVec_inj.mp
    show _ = BitVec.ofNat 32 _
    rw [BitVec.ofNat_toNat]; simp
  have t : ∀ k : Fin 2, Int32.ofNat k.val = 0 ∨ Int32.ofNat k.val = 1 := by decide
  rw [e]
  exact t ⟨_, h⟩
theorem own_two (x : Int32) : ¬ (x &&& 3) = 2 → ¬ (x &&& 3) = 3 → (x &&& 3) < 2 := by
  have h : (x &&& 3).toBitVec.toNat < 4 := by
    simp only [Int32.toBitVec_and, BitVec.toNat_and]
    exact Nat.lt_succ_of_le Nat.and_le_right
  have e : (x &&& 3) = Int32.ofNat (x &&& 3).toBitVec.toNat := by
    apply Int32.toBitVec_inj.mp
    show _ = BitVec.ofNat 32 _
    rw [BitVec.ofNat_toNat]; simp
  have t : ∀ k : Fin 4, ¬ Int32.ofNat k.val = 2 → ¬ Int32.ofNat k.val = 3 → Int32.ofNat k.val < 2 := by decide
  rw [e]
  exact t ⟨_, h⟩
theorem own_rng (x : Int32) : ¬ ((x &&& (255 : Int32)).toUInt32.toUInt16.toUInt32.toInt32) < 0 ∧ ¬ (255 : Int32) < ((x &&& (255 : Int32)).toUInt32.toUInt16.toUInt32.toInt32) := by
  have t : ∀ k : Fin 256, ¬ ((Int32.ofNat k.val).toUInt32.toUInt16.toUInt32.toInt32) < 0 ∧ ¬ (255 : Int32) < ((Int32.ofNat k.val).toUInt32.toUInt16.toUInt32.toInt32) := by decide +kernel
  have h : (x &&& 255).toBitVec.toNat < 256 := by
    simp only [Int32.toBitVec_and, BitVec.toNat_and]
    exact Nat.lt_succ_of_le Nat.and_le_right
  have e : (x &&& 255) = Int32.ofNat (x &&& 255).toBitVec.toNat := by
    apply Int32.toBitVec_inj.mp
    show _ = BitVec.ofNat 32 _
    rw [BitVec.ofNat_toNat]; simp
  rw [e]
  exact t ⟨_, h⟩
theorem own_mk0 (a b c : Int32) : ¬ (mk a b c).length = 0 := by unfold mk; split <;> simp
theorem own_mk (a b c a' b' c' : Int32) (h : a = 1 ∨ a = 2) (h' : a' = 1 ∨ a' = 2) : (mk a b c = mk a' b' c') ↔ (a = a' ∧ b = b' ∧ (a = 1 ∨ c = c')) := by
  rcases h with rfl | rfl <;> rcases h' with rfl | rfl <;> simp [mk]
set_option maxRecDepth 65536 in
set_option maxHeartbeats 40000000 in
theorem comes_1 {Post : Tables → Env → Array Value → State → Outcome → State → Prop} (hpost : ∀ tb e args s v u, (limb_1_1.after args s (.returned v) u = true ∧ limb_1_2.after args s (.returned v) u = true ∧ True) → FrameEnd s (.returned v) u (Jvm.fieldLocs frame_1_writes args s ++ Jvm.arrayLocs frame_1_arrays args s ++ Jvm.staticLocs frame_1_statics s) 24 128 → Post tb e args s (.returned v) u) :
    ArmFor flags0 classFile x code maxLocals ret World_1 tables_1 room_1 Calls_1 rest_1 Pre_1 Post := by
  intro l hfl _ _ p e ha hc hk s m args below hf hA hF happ hP
  obtain ⟨hcalls, hrest, hpre⟩ := hP
  obtain ⟨-, -, -, hnamed, -, -, -, hat⟩ := (Spec.applies_iff hf).mp happ
  obtain ⟨hg, hn⟩ := and_e (Cond.before_iff.mp (show (Jvm.Cond.and given_1 narrow_1).before args s = true from hpre))
  obtain ⟨hcnt, hi0⟩ := and_e hg
  obtain ⟨ha0, hb0⟩ := and_e hi0
  obtain ⟨ha1, hb1⟩ := and_e hb0
  obtain ⟨ha2, hb2⟩ := and_e hb1
  obtain ⟨w0, w1, w2, w3, rfl⟩ : ∃ w0 w1 w2 w3 : Value, args = #[w0, w1, w2, w3] := by
    have hs : args.size = 4 := by simpa [Cond.value, given_1] using hcnt
    obtain ⟨L⟩ := args
    match L, hs with
    | [w0, w1, w2, w3], _ => exact ⟨w0, w1, w2, w3, rfl⟩
  have hw := fun d (hd : d ∈ tables_1) => atoms_spec (ws := Jvm.Cond.code x code maxLocals ret :: tables_1) hat d (List.mem_cons_of_mem _ hd)
  have hfit : Fit s := fun {y c} hc i hi => by
    obtain ⟨ha, rfl⟩ := Array.getElem?_eq_some_iff.mp hc
    have q := List.all_eq_true.mp ((Array.all_eq_true_iff_forall_mem.mp hF) _ (Array.getElem_mem ha)) i (List.mem_range.mpr hi)
    simpa [Array.getElem?_eq_getElem hi] using q
  obtain ⟨i0, ei0⟩ := is_v ha0
  obtain rfl : w0 = (.int i0) := Option.some.inj ei0
  obtain ⟨i1, ei1⟩ := is_v ha1
  obtain rfl : w1 = (.int i1) := Option.some.inj ei1
  obtain ⟨i2, ei2⟩ := is_v ha2
  obtain rfl : w2 = (.int i2) := Option.some.inj ei2
  obtain ⟨i3, ei3⟩ := is_v hb2
  obtain rfl : w3 = (.int i3) := Option.some.inj ei3
  obtain ⟨hsets, hown0⟩ := atoms_of _ (rest_1_c_eq ▸ (show rest_1_c.before _ s = true from hrest))
  obtain ⟨i_CS, ev_CS⟩ := is_v (Cond.before_iff.mp (hsets _ (List.mem_of_getElem? (i := 1) rfl)))
  have S_CS : Sta s s.heap "java/lang/String" "COMPACT_STRINGS" "Z" (.int i_CS) := Sta.start ev_CS (Or.inl (hsets _ (List.mem_of_getElem? (i := 0) rfl)))
  have hCS : ¬ (i_CS = (0 : Int32)) := gotF (Cond.eq_ints ev_CS (Term.int_eval (0))) (not_v (Cond.before_iff.mp (hsets _ (List.mem_of_getElem? (i := 2) rfl))))
  obtain ⟨x4, h4⟩ : ∃ z : Int32, ((i0 &&& (255 : Int32)).toUInt32.toUInt16.toUInt32.toInt32) = z := ⟨_, rfl⟩
  obtain ⟨x5, h5⟩ : ∃ z : Int32, ((((i0.toUInt32 >>> ((8 : Int32) &&& 31).toUInt32).toInt32) &&& (255 : Int32)).toUInt32.toUInt16.toUInt32.toInt32) = z := ⟨_, rfl⟩
  obtain ⟨x6, h6⟩ : ∃ z : Int32, ((i1 &&& (255 : Int32)).toUInt32.toUInt16.toUInt32.toInt32) = z := ⟨_, rfl⟩
  obtain ⟨x7, h7⟩ : ∃ z : Int32, ((((i1.toUInt32 >>> ((8 : Int32) &&& 31).toUInt32).toInt32) &&& (255 : Int32)).toUInt32.toUInt16.toUInt32.toInt32) = z := ⟨_, rfl⟩
  obtain ⟨x8, h8⟩ : ∃ z : Int32, ((1 : Int32) + (i3 &&& (1 : Int32))) = z := ⟨_, rfl⟩
  obtain ⟨x9, h9⟩ : ∃ z : Int32, z = if (((i2.toUInt32 >>> ((2 : Int32) &&& 31).toUInt32).toInt32) &&& (1 : Int32)) = (0 : Int32) then ((1 : Int32) + (((i3.toUInt32 >>> ((1 : Int32) &&& 31).toUInt32).toInt32) &&& (1 : Int32))) else x8 := ⟨_, rfl⟩
  obtain ⟨x10, h10⟩ : ∃ z : Int32, z = if (i2 &&& (1 : Int32)) = (0 : Int32) then x6 else x4 := ⟨_, rfl⟩
  obtain ⟨x11, h11⟩ : ∃ z : Int32, z = if (((i2.toUInt32 >>> ((1 : Int32) &&& 31).toUInt32).toInt32) &&& (1 : Int32)) = (0 : Int32) then x7 else x5 := ⟨_, rfl⟩
  obtain ⟨x12, h12⟩ : ∃ z : Int32, z = if (((i3.toUInt32 >>> ((2 : Int32) &&& 31).toUInt32).toInt32) &&& (1 : Int32)) = (0 : Int32) then (0 : Int32) else (1 : Int32) := ⟨_, rfl⟩
  obtain ⟨x13, h13⟩ : ∃ z : Int32, z = if (((i2.toUInt32 >>> ((3 : Int32) &&& 31).toUInt32).toInt32) &&& (1 : Int32)) = (0 : Int32) then (if (((i3.toUInt32 >>> ((3 : Int32) &&& 31).toUInt32).toInt32) &&& (1 : Int32)) = (0 : Int32) then (0 : Int32) else (1 : Int32)) else x12 := ⟨_, rfl⟩
  obtain ⟨x14, h14⟩ : ∃ z : Int32, (((i3.toUInt32 >>> ((4 : Int32) &&& 31).toUInt32).toInt32) &&& (3 : Int32)) = z := ⟨_, rfl⟩
  obtain ⟨x20, h20⟩ : ∃ z : Int32, z = if x8 = x9 ∧ x4 = x10 ∧ (x8 = (1 : Int32) ∨ x5 = x11) then (1 : Int32) else (0 : Int32) := ⟨_, rfl⟩
  obtain ⟨x19, h19⟩ : ∃ z : Int32, z = if x20 = (0 : Int32) then (0 : Int32) else (if x12 = x13 then (1 : Int32) else (0 : Int32)) := ⟨_, rfl⟩
  have hg4 : ¬ x4 < 0 ∧ ¬ (255 : Int32) < x4 := h4 ▸ own_rng _
  have hg5 : ¬ x5 < 0 ∧ ¬ (255 : Int32) < x5 := h5 ▸ own_rng _
  have hg6 : ¬ x6 < 0 ∧ ¬ (255 : Int32) < x6 := h6 ▸ own_rng _
  have hg7 : ¬ x7 < 0 ∧ ¬ (255 : Int32) < x7 := h7 ▸ own_rng _
  have hg10 : ¬ x10 < 0 ∧ ¬ (255 : Int32) < x10 := by rw [h10]; split <;> assumption
  have hg11 : ¬ x11 < 0 ∧ ¬ (255 : Int32) < x11 := by rw [h11]; split <;> assumption
  have hn8 : x8 = 1 ∨ x8 = 2 := by rw [← h8]; rcases own_bit i3 with q | q <;> rw [q] <;> decide
  have hn9 : x9 = 1 ∨ x9 = 2 := by rw [h9]; split <;> first | exact hn8 | (rcases own_bit _ with q | q <;> rw [q] <;> decide)
  have hz12 : x12 = 0 ∨ x12 = 1 := by rw [h12]; split <;> simp
  have hz13 : x13 = 0 ∨ x13 = 1 := by rw [h13]; split <;> (try split) <;> first | simp | exact hz12
  have ha12 : (x12 &&& 1) = x12 := by rcases hz12 with q | q <;> rw [q] <;> decide
  have ha13 : (x13 &&& 1) = x13 := by rcases hz13 with q | q <;> rw [q] <;> decide
  have hE : x19 = if mk x8 x4 x5 = mk x9 x10 x11 ∧ x12 = x13 then 1 else 0 := by
    have hm := own_mk x8 x4 x5 x9 x10 x11 hn8 hn9
    by_cases hc : x8 = x9 ∧ x4 = x10 ∧ (x8 = (1 : Int32) ∨ x5 = x11)
    · rw [if_pos hc] at h20; subst h20; rw [h19, if_neg (by decide)]
      by_cases hu : x12 = x13
      · rw [if_pos hu, if_pos ⟨hm.mpr hc, hu⟩]
      · rw [if_neg hu, if_neg (fun z => hu z.2)]
    · rw [if_neg hc] at h20; subst h20; rw [h19, if_pos rfl, if_neg (fun z => hc (hm.mp z.1))]
  have key : MetFree l x (head1 (Jvm.Cond.code x code maxLocals ret :: tables_1) room_1) (fun a U => a = #[(.int i0), (.int i1), (.int i2), (.int i3)] ∧ s.Warmed39 U.vm ∧ U.heap = s.heap) (fun _ _ _ _ _ => True) (fun _ U o U' => ∃ v L, o = .returned v ∧ Q0 s.heap s.heap.size v U'.heap L ∧ FrameEnd U o U' L room_1.cells room_1.slots) := by
    by_cases k2 : x14 = 2
    · exact rm0_2 l s _ hw tables_1 i0 i1 i2 i3 i_CS x4 x5 x6 x7 x8 x9 x10 x11 x12 x13 x14 (mk x8 x4 x5) (mk x9 x10 x11) s.heap s.heap.size (Old.start s) S_CS hCS h9 h10 h11 h12 h13 rfl rfl hg4 hg5 hg10 hg11 (own_mk0 _ _ _) (own_mk0 _ _ _) ha12 ha13 k2 h4 h5 h6 h7 h8 h14
    by_cases k3 : x14 = 3
    · exact rm0_3 l s _ hw tables_1 i0 i1 i2 i3 i_CS x4 x5 x6 x7 x8 x9 x10 x11 x12 x13 x14 (mk x8 x4 x5) (mk x9 x10 x11) s.heap s.heap.size (Old.start s) S_CS hCS h9 h10 h11 h12 h13 rfl rfl hg4 hg5 hg10 hg11 (own_mk0 _ _ _) (own_mk0 _ _ _) ha12 ha13 k2 k3 h4 h5 h6 h7 h8 h14
    · exact rm0_0 l s _ hw tables_1 i0 i1 i2 i3 i_CS x4 x5 x6 x7 x8 x9 x10 x11 x12 x13 x14 (mk x8 x4 x5) (mk x9 x10 x11) x19 x20 s.heap s.heap.size (Old.start s) S_CS hCS h9 h10 h11 h12 h13 rfl rfl hg4 hg5 hg10 hg11 (own_mk0 _ _ _) (own_mk0 _ _ _) ha12 ha13 k2 k3 (by rw [← h14] at k2 k3 ⊢; exact own_two _ k2 k3) h20 h19 hE h4 h5 h6 h7 h8 h14
  obtain ⟨n, o, h1, h2, h3, _, L, rfl, ⟨rfl, N⟩, hq⟩ := key p e ha hc hk s m _ below hf ((Spec.applies_iff_loose hf).mp happ).1 ⟨rfl, State.Warmed39.refl s, rfl⟩ trivial
  refine ⟨n, _, h1, h2, h3, hpost _ _ _ _ _ _ ⟨Cond.after_iff.mpr rfl, Cond.after_iff.mpr (eq_i res_at (Term.int_eval (1)) rfl), trivial⟩ ⟨hq.1, hq.2.1, (hq.2.2.sift fun y hy => Or.inr (N y hy)).mono (by decide) (by decide)⟩⟩
theorem main_1_1 : Claimed_1_1 := comes_1 fun _ _ _ _ _ _ h hF => ⟨h.1, hF⟩
theorem main_1_2 : Claimed_1_2 := comes_1 fun _ _ _ _ _ _ h hF => ⟨h.2.1, hF⟩
end Jvm.Pilot.@@N@@
namespace Jvm.Pilot.@@N@@
open Jvm Jvm.ClassFile Sem Op Lib Jvm.Free Jvm.Stand Jvm.Pilot.@@N@@.Jvm.D
/-! MADE BY PROGRAM (witnessworld.py) out of the Statement's table words and the real class files: 20 classes; the members and pool entries that the words name. The judged class is class 1, her method 1. -/
namespace start1
open Jvm.ClassFile
def u (s : String) : CpInfo := .utf8 (stringToUtf16 s)
/-- a pool by its gaps: so many unusable entries, then the entry; so many at the end -/
def gap : Nat → List CpInfo → List CpInfo
  | 0, r => r
  | n + 1, r => .unusable :: gap n r
def poolList (es : List (Nat × CpInfo)) (last : Nat) : List CpInfo := es.foldr (fun e r => gap e.1 (e.2 :: r)) (gap last [])
def pool (es : List (Nat × CpInfo)) (last : Nat) : Array CpInfo := ⟨poolList es last⟩
def fileOf (pool : Array CpInfo) (this : Nat) (attrs : Array Attribute := #[]) (ms : Array MethodInfo := #[]) (fl : Nat := 33) (sup : Nat := 0) (ifs : Array Nat := #[]) (fds : Array FieldInfo := #[]) : ClassFile where
  minorVersion := 0
  majorVersion := 65
  constantPool := pool
  accessFlags := fl
  thisClass := this
  superClass := sup
  interfaces := ifs
  fields := fds
  methods := ms
  attributes := attrs
def plain (name : String) (sup : Option ClassId) : Class where
  name := name
  kind := .ordinary
  loader := none
  accessFlags := 33
  super := sup
  interfaces := #[]
  cf := none
  fields := #[]
  methods := #[]
  instanceTypes := #[]
  staticTypes := #[]
  resolved := #[]
  callSites := []
  init := .initialized
  statics := none
  mirror := none

def pool0 : Array CpInfo := pool [(5, u "<init>"), (0, u "()V"), (1, .class_ 10), (1, u "java/lang/Object")] 113

def k0c0 : Code := { maxStack := 0, maxLocals := 1, code := object_method_1_code, exceptionTable := #[], attributes := #[] }
def k0m0 : Method := { name := "<init>", desc := "()V", sig := { parameters := [], returnType := none }, accessFlags := 1, code := some k0c0 }
/-- java/lang/Object -/
def k0 : Class := { plain "java/lang/Object" none with
  accessFlags := 33
  interfaces := #[]
  cf := some (fileOf pool0 8 #[] #[{ accessFlags := 1, nameIndex := 5, descriptorIndex := 6, attributes := #[] }] 33 0 #[] #[])
  fields := #[]
  methods := #[k0m0]
  instanceTypes := #[]
  staticTypes := #[]
  resolved := Array.replicate 124 none
  statics := none }

def pool1 : Array CpInfo := pool [(2, .class_ 4), (1, u "java/lang/Object"), (0, u "<init>"), (0, u "()V"), (0, .methodref 8 9), (0, .class_ 10), (0, .nameAndType 11 12), (0, u "com/example/exact_repository/exactrepository/OrderEqualsPinLaw"), (0, u "make"), (0, u "(ICC)Ljava/lang/String;"), (0, .class_ 14), (0, u "com/example/exact_repository/exactrepository/Sort$Order"), (0, .methodref 13 16), (0, .nameAndType 5 17), (0, u "(Ljava/lang/String;Z)V"), (0, .methodref 13 19), (0, .nameAndType 20 21), (0, u "equals"), (0, u "(Ljava/lang/Object;)Z"), (0, .methodref 23 24), (0, .class_ 25), (0, .nameAndType 26 27), (0, u "java/lang/String"), (0, u "valueOf"), (0, u "(C)Ljava/lang/String;"), (0, .methodref 23 29), (0, .nameAndType 5 30), (0, u "([C)V"), (2, u "law"), (0, u "(IIII)Z")] 7

def k1m0 : Method := { name := "<init>", desc := "()V", sig := { parameters := [], returnType := none }, accessFlags := 1, code := none }
def k1c1 : Code := { maxStack := 4, maxLocals := 21, code := code, exceptionTable := #[], attributes := #[] }
def k1m1 : Method := { name := "law", desc := "(IIII)Z", sig := { parameters := [.int, .int, .int, .int], returnType := some .boolean }, accessFlags := 9, code := some k1c1 }
def k1c2 : Code := { maxStack := 3, maxLocals := 4, code := method_3_code, exceptionTable := #[], attributes := #[] }
def k1m2 : Method := { name := "make", desc := "(ICC)Ljava/lang/String;", sig := { parameters := [.int, .char, .char], returnType := some (.object "java/lang/String") }, accessFlags := 10, code := some k1c2 }
/-- com/example/exact_repository/exactrepository/OrderEqualsPinLaw -/
def k1 : Class := { plain "com/example/exact_repository/exactrepository/OrderEqualsPinLaw" (some 0) with
  accessFlags := 49
  interfaces := #[]
  cf := some (fileOf pool1 8 #[] #[{ accessFlags := 1, nameIndex := 5, descriptorIndex := 6, attributes := #[] }, { accessFlags := 9, nameIndex := 33, descriptorIndex := 34, attributes := #[] }, { accessFlags := 10, nameIndex := 11, descriptorIndex := 12, attributes := #[] }] 49 2 #[] #[])
  fields := #[]
  methods := #[k1m0, k1m1, k1m2]
  instanceTypes := #[]
  staticTypes := #[]
  resolved := Array.replicate 42 none
  statics := none }

def pool2 : Array CpInfo := pool [(1, .class_ 2), (0, u "java/io/Serializable"), (0, .class_ 4), (0, u "java/lang/Object")] 2

/-- java/io/Serializable -/
def k2 : Class := { plain "java/io/Serializable" (some 0) with
  accessFlags := 1537
  interfaces := #[]
  cf := some (fileOf pool2 1 #[] #[] 1537 3 #[] #[])
  fields := #[]
  methods := #[]
  instanceTypes := #[]
  staticTypes := #[]
  resolved := Array.replicate 7 none
  statics := none }

def pool3 : Array CpInfo := pool [(1, .class_ 2), (0, u "java/lang/Comparable"), (0, .class_ 4), (0, u "java/lang/Object")] 7

/-- java/lang/Comparable -/
def k3 : Class := { plain "java/lang/Comparable" (some 0) with
  accessFlags := 1537
  interfaces := #[]
  cf := some (fileOf pool3 1 #[] #[] 1537 3 #[] #[])
  fields := #[]
  methods := #[]
  instanceTypes := #[]
  staticTypes := #[]
  resolved := Array.replicate 12 none
  statics := none }

def pool4 : Array CpInfo := pool [(2, .class_ 4), (1, u "java/lang/CharSequence"), (42, .class_ 48), (0, u "java/lang/CharSequence$1CodePointIterator"), (10, .class_ 60), (0, u "java/lang/CharSequence$1CharIterator"), (5, .class_ 67), (0, u "java/lang/Object")] 63

/-- java/lang/CharSequence -/
def k4 : Class := { plain "java/lang/CharSequence" (some 0) with
  accessFlags := 1537
  interfaces := #[]
  cf := some (fileOf pool4 2 #[.nestMembers #[47, 59]] #[] 1537 66 #[] #[])
  fields := #[]
  methods := #[]
  instanceTypes := #[]
  staticTypes := #[]
  resolved := Array.replicate 131 none
  statics := none }

def pool5 : Array CpInfo := pool [(1, .class_ 2), (0, u "java/lang/constant/Constable"), (0, .class_ 4), (0, u "java/lang/Object")] 6

/-- java/lang/constant/Constable -/
def k5 : Class := { plain "java/lang/constant/Constable" (some 0) with
  accessFlags := 1537
  interfaces := #[]
  cf := some (fileOf pool5 1 #[] #[] 1537 3 #[] #[])
  fields := #[]
  methods := #[]
  instanceTypes := #[]
  staticTypes := #[]
  resolved := Array.replicate 11 none
  statics := none }

def pool6 : Array CpInfo := pool [(1, .class_ 2), (0, u "java/lang/constant/ConstantDesc"), (0, .class_ 4), (0, u "java/lang/Object")] 32

/-- java/lang/constant/ConstantDesc -/
def k6 : Class := { plain "java/lang/constant/ConstantDesc" (some 0) with
  accessFlags := 1537
  interfaces := #[]
  cf := some (fileOf pool6 1 #[] #[] 1537 3 #[] #[])
  fields := #[]
  methods := #[]
  instanceTypes := #[]
  staticTypes := #[]
  resolved := Array.replicate 37 none
  statics := none }

def pool7 : Array CpInfo := pool [(1, .methodref 2 3), (0, .class_ 4), (0, .nameAndType 5 6), (0, u "java/lang/Object"), (0, u "<init>"), (0, u "()V"), (2, .fieldref 10 11), (0, .class_ 12), (0, .nameAndType 13 14), (0, u "java/lang/String"), (0, u "value"), (0, u "[B"), (0, .fieldref 10 16), (0, .nameAndType 17 18), (0, u "coder"), (0, u "B"), (2, u "hash"), (0, u "I"), (2, u "hashIsZero"), (0, u "Z"), (0, .methodref 10 28), (0, .nameAndType 5 29), (0, u "([CIILjava/lang/Void;)V"), (8, .fieldref 10 39), (0, .nameAndType 40 26), (0, u "COMPACT_STRINGS"), (1, .class_ 44), (1, u "java/lang/StringUTF16"), (0, u "compress"), (1, .methodref 42 48), (0, .nameAndType 49 50), (0, u "coderFromArrayLen"), (0, u "([BI)B"), (2, u "toBytes"), (53, .class_ 109), (1, u "java/lang/StringLatin1"), (32, u "()Z"), (34, .methodref 42 178), (0, .nameAndType 45 179), (0, u "([CII)[B"), (29, .methodref 10 210), (0, .nameAndType 5 211), (0, u "([BB)V"), (157, u "(C)Z"), (171, .methodref 107 542), (0, .nameAndType 543 544), (0, u "equals"), (0, u "([B[B)Z"), (28, u "(Ljava/lang/Object;)Z"), (1, .class_ 576), (0, u "java/lang/CharSequence"), (22, u "CASE_INSENSITIVE_ORDER"), (0, u "Ljava/util/Comparator;"), (91, u "isEmpty"), (89, u "valueOf"), (0, u "(C)Ljava/lang/String;"), (226, u "([C)V"), (4, .methodref 107 1016), (0, .nameAndType 1017 369), (0, u "canEncode"), (0, .methodref 107 1019), (0, .nameAndType 53 1020), (0, u "(C)[B"), (80, u "serialPersistentFields"), (0, u "[Ljava/io/ObjectStreamField;"), (0, .class_ 1104), (0, u "java/lang/String$CaseInsensitiveComparator"), (1, .class_ 1107), (0, u "java/io/Serializable"), (0, .class_ 1109), (0, u "java/lang/Comparable"), (0, .class_ 1111), (0, u "java/lang/constant/Constable"), (0, .class_ 1113), (0, u "java/lang/constant/ConstantDesc"), (2, u "serialVersionUID"), (0, u "J"), (3, u "REPL"), (0, u "C"), (2, u "LATIN1"), (1, u "UTF16")] 323

def k7m0 : Method := { name := "<init>", desc := "()V", sig := { parameters := [], returnType := none }, accessFlags := 1, code := none }
def k7c1 : Code := { maxStack := 5, maxLocals := 2, code := jdk_42_method_3_code, exceptionTable := #[], attributes := #[] }
def k7m1 : Method := { name := "<init>", desc := "([C)V", sig := { parameters := [(.array .char)], returnType := none }, accessFlags := 1, code := some k7c1 }
def k7c2 : Code := { maxStack := 1, maxLocals := 1, code := jdk_42_method_55_code, exceptionTable := #[], attributes := #[] }
def k7m2 : Method := { name := "isEmpty", desc := "()Z", sig := { parameters := [], returnType := some .boolean }, accessFlags := 1, code := some k7c2 }
def k7c3 : Code := { maxStack := 2, maxLocals := 3, code := jdk_42_method_66_code, exceptionTable := #[], attributes := #[] }
def k7m3 : Method := { name := "equals", desc := "(Ljava/lang/Object;)Z", sig := { parameters := [(.object "java/lang/Object")], returnType := some .boolean }, accessFlags := 1, code := some k7c3 }
def k7c4 : Code := { maxStack := 4, maxLocals := 1, code := jdk_42_method_139_code, exceptionTable := #[], attributes := #[] }
def k7m4 : Method := { name := "valueOf", desc := "(C)Ljava/lang/String;", sig := { parameters := [.char], returnType := some (.object "java/lang/String") }, accessFlags := 9, code := some k7c4 }
def k7c5 : Code := { maxStack := 4, maxLocals := 6, code := jdk_42_method_149_code, exceptionTable := #[], attributes := #[] }
def k7m5 : Method := { name := "<init>", desc := "([CIILjava/lang/Void;)V", sig := { parameters := [(.array .char), .int, .int, (.object "java/lang/Void")], returnType := none }, accessFlags := 2, code := some k7c5 }
def k7c6 : Code := { maxStack := 2, maxLocals := 3, code := jdk_42_method_151_code, exceptionTable := #[], attributes := #[] }
def k7m6 : Method := { name := "<init>", desc := "([BB)V", sig := { parameters := [(.array .byte), .byte], returnType := none }, accessFlags := 0, code := some k7c6 }
/-- java/lang/String -/
def k7 : Class := { plain "java/lang/String" (some 0) with
  accessFlags := 49
  interfaces := #[2, 3, 4, 5, 6]
  cf := some (fileOf pool7 10 #[.nestMembers #[1103]] #[{ accessFlags := 1, nameIndex := 5, descriptorIndex := 6, attributes := #[] }, { accessFlags := 1, nameIndex := 5, descriptorIndex := 1010, attributes := #[] }, { accessFlags := 1, nameIndex := 692, descriptorIndex := 142, attributes := #[] }, { accessFlags := 1, nameIndex := 543, descriptorIndex := 573, attributes := #[] }, { accessFlags := 9, nameIndex := 782, descriptorIndex := 783, attributes := #[] }, { accessFlags := 2, nameIndex := 5, descriptorIndex := 29, attributes := #[] }, { accessFlags := 0, nameIndex := 5, descriptorIndex := 211, attributes := #[] }] 49 2 #[1106, 1108, 575, 1110, 1112] #[{ accessFlags := 18, nameIndex := 13, descriptorIndex := 14, attributes := #[] }, { accessFlags := 18, nameIndex := 17, descriptorIndex := 18, attributes := #[] }, { accessFlags := 2, nameIndex := 21, descriptorIndex := 22, attributes := #[] }, { accessFlags := 2, nameIndex := 25, descriptorIndex := 26, attributes := #[] }, { accessFlags := 26, nameIndex := 1116, descriptorIndex := 1117, attributes := #[] }, { accessFlags := 24, nameIndex := 40, descriptorIndex := 26, attributes := #[] }, { accessFlags := 26, nameIndex := 1101, descriptorIndex := 1102, attributes := #[] }, { accessFlags := 26, nameIndex := 1121, descriptorIndex := 1122, attributes := #[] }, { accessFlags := 25, nameIndex := 599, descriptorIndex := 600, attributes := #[] }, { accessFlags := 24, nameIndex := 1125, descriptorIndex := 18, attributes := #[] }, { accessFlags := 24, nameIndex := 1127, descriptorIndex := 18, attributes := #[] }])
  fields := #[{ name := "value", type := (.array .byte), accessFlags := 18, slot := 0, constantValue := 0 }, { name := "coder", type := .byte, accessFlags := 18, slot := 1, constantValue := 0 }, { name := "hash", type := .int, accessFlags := 2, slot := 2, constantValue := 0 }, { name := "hashIsZero", type := .boolean, accessFlags := 2, slot := 3, constantValue := 0 }, { name := "serialVersionUID", type := .long, accessFlags := 26, slot := 0, constantValue := 0 }, { name := "COMPACT_STRINGS", type := .boolean, accessFlags := 24, slot := 1, constantValue := 0 }, { name := "serialPersistentFields", type := (.array (.object "java/io/ObjectStreamField")), accessFlags := 26, slot := 2, constantValue := 0 }, { name := "REPL", type := .char, accessFlags := 26, slot := 3, constantValue := 0 }, { name := "CASE_INSENSITIVE_ORDER", type := (.object "java/util/Comparator"), accessFlags := 25, slot := 4, constantValue := 0 }, { name := "LATIN1", type := .byte, accessFlags := 24, slot := 5, constantValue := 0 }, { name := "UTF16", type := .byte, accessFlags := 24, slot := 6, constantValue := 0 }]
  methods := #[k7m0, k7m1, k7m2, k7m3, k7m4, k7m5, k7m6]
  instanceTypes := #[(.array .byte), .byte, .int, .boolean]
  staticTypes := #[.long, .boolean, (.array (.object "java/io/ObjectStreamField")), .char, (.object "java/util/Comparator"), .byte, .byte]
  resolved := Array.replicate 1451 none
  statics := some 0 }

def pool8 : Array CpInfo := pool [(6, .class_ 8), (1, u "java/lang/Object"), (0, u "<init>"), (0, u "()V"), (1, .class_ 14), (1, u "java/lang/StringUTF16"), (31, u "$assertionsDisabled"), (0, u "Z"), (13, u "HI_BYTE_SHIFT"), (0, u "I"), (2, u "LO_BYTE_SHIFT"), (49, .methodref 12 116), (0, .nameAndType 117 118), (0, u "compress"), (0, u "([CI[BII)I"), (3, u "([CII)[B"), (138, u "coderFromArrayLen"), (0, u "([BI)B"), (106, .class_ 371), (1, u "java/lang/StringUTF16$LinesSpliterator"), (58, u "MAX_LENGTH"), (196, .class_ 628), (0, u "java/lang/StringUTF16$CodePointsSpliterator"), (0, .class_ 630), (0, u "java/lang/StringUTF16$CharsSpliterator")] 4

def k8m0 : Method := { name := "<init>", desc := "()V", sig := { parameters := [], returnType := none }, accessFlags := 0, code := none }
def k8c1 : Code := { maxStack := 2, maxLocals := 2, code := jdk_52_method_15_code, exceptionTable := #[], attributes := #[] }
def k8m1 : Method := { name := "coderFromArrayLen", desc := "([BI)B", sig := { parameters := [(.array .byte), .int], returnType := some .byte }, accessFlags := 8, code := some k8c1 }
def k8c2 : Code := { maxStack := 5, maxLocals := 6, code := jdk_52_method_16_code, exceptionTable := #[], attributes := #[] }
def k8m2 : Method := { name := "compress", desc := "([CII)[B", sig := { parameters := [(.array .char), .int, .int], returnType := some (.array .byte) }, accessFlags := 9, code := some k8c2 }
def k8c3 : Code := { maxStack := 3, maxLocals := 7, code := jdk_52_method_21_code, exceptionTable := #[], attributes := #[] }
def k8m3 : Method := { name := "compress", desc := "([CI[BII)I", sig := { parameters := [(.array .char), .int, (.array .byte), .int, .int], returnType := some .int }, accessFlags := 9, code := some k8c3 }
/-- java/lang/StringUTF16 -/
def k8 : Class := { plain "java/lang/StringUTF16" (some 0) with
  accessFlags := 48
  interfaces := #[]
  cf := some (fileOf pool8 12 #[.nestMembers #[627, 629, 369]] #[{ accessFlags := 0, nameIndex := 9, descriptorIndex := 10, attributes := #[] }, { accessFlags := 8, nameIndex := 261, descriptorIndex := 262, attributes := #[] }, { accessFlags := 9, nameIndex := 117, descriptorIndex := 122, attributes := #[] }, { accessFlags := 9, nameIndex := 117, descriptorIndex := 118, attributes := #[] }] 48 6 #[] #[{ accessFlags := 26, nameIndex := 61, descriptorIndex := 62, attributes := #[] }, { accessFlags := 26, nameIndex := 65, descriptorIndex := 62, attributes := #[] }, { accessFlags := 24, nameIndex := 430, descriptorIndex := 62, attributes := #[] }, { accessFlags := 4120, nameIndex := 46, descriptorIndex := 47, attributes := #[] }])
  fields := #[{ name := "HI_BYTE_SHIFT", type := .int, accessFlags := 26, slot := 0, constantValue := 0 }, { name := "LO_BYTE_SHIFT", type := .int, accessFlags := 26, slot := 1, constantValue := 0 }, { name := "MAX_LENGTH", type := .int, accessFlags := 24, slot := 2, constantValue := 0 }, { name := "$assertionsDisabled", type := .boolean, accessFlags := 4120, slot := 3, constantValue := 0 }]
  methods := #[k8m0, k8m1, k8m2, k8m3]
  instanceTypes := #[]
  staticTypes := #[.int, .int, .int, .boolean]
  resolved := Array.replicate 635 none
  statics := none }

def pool9 : Array CpInfo := pool [(4, .class_ 6), (1, u "java/lang/Object"), (0, u "<init>"), (0, u "()V"), (5, .class_ 16), (1, u "java/lang/StringLatin1"), (73, u "canEncode"), (14, u "(C)Z"), (15, u "$assertionsDisabled"), (0, u "Z"), (98, .class_ 223), (1, u "java/lang/StringLatin1$LinesSpliterator"), (57, u "equals"), (0, u "([B[B)Z"), (97, u "toBytes"), (1, u "(C)[B"), (7, .class_ 391), (0, u "java/lang/StringLatin1$CharsSpliterator")] 3

def k9m0 : Method := { name := "<init>", desc := "()V", sig := { parameters := [], returnType := none }, accessFlags := 0, code := none }
def k9c1 : Code := { maxStack := 2, maxLocals := 1, code := jdk_43_method_3_code, exceptionTable := #[], attributes := #[] }
def k9m1 : Method := { name := "canEncode", desc := "(C)Z", sig := { parameters := [.char], returnType := some .boolean }, accessFlags := 9, code := some k9c1 }
def k9c2 : Code := { maxStack := 3, maxLocals := 3, code := jdk_43_method_13_code, exceptionTable := #[], attributes := #[] }
def k9m2 : Method := { name := "equals", desc := "([B[B)Z", sig := { parameters := [(.array .byte), (.array .byte)], returnType := some .boolean }, accessFlags := 9, code := some k9c2 }
def k9c3 : Code := { maxStack := 4, maxLocals := 1, code := jdk_43_method_46_code, exceptionTable := #[], attributes := #[] }
def k9m3 : Method := { name := "toBytes", desc := "(C)[B", sig := { parameters := [.char], returnType := some (.array .byte) }, accessFlags := 9, code := some k9c3 }
/-- java/lang/StringLatin1 -/
def k9 : Class := { plain "java/lang/StringLatin1" (some 0) with
  accessFlags := 48
  interfaces := #[]
  cf := some (fileOf pool9 14 #[.nestMembers #[390, 221]] #[{ accessFlags := 0, nameIndex := 7, descriptorIndex := 8, attributes := #[] }, { accessFlags := 9, nameIndex := 90, descriptorIndex := 105, attributes := #[] }, { accessFlags := 9, nameIndex := 281, descriptorIndex := 282, attributes := #[] }, { accessFlags := 9, nameIndex := 380, descriptorIndex := 382, attributes := #[] }] 48 4 #[] #[{ accessFlags := 4120, nameIndex := 121, descriptorIndex := 122, attributes := #[] }])
  fields := #[{ name := "$assertionsDisabled", type := .boolean, accessFlags := 4120, slot := 0, constantValue := 0 }]
  methods := #[k9m0, k9m1, k9m2, k9m3]
  instanceTypes := #[]
  staticTypes := #[.boolean]
  resolved := Array.replicate 395 none
  statics := none }

def pool10 : Array CpInfo := pool [(1, .methodref 2 3), (0, .class_ 4), (0, .nameAndType 5 6), (0, u "java/lang/Object"), (0, u "<init>"), (0, u "()V"), (0, .methodref 8 9), (0, .class_ 10), (0, .nameAndType 11 12), (0, u "java/lang/String"), (0, u "isEmpty"), (0, u "()Z"), (9, .fieldref 23 24), (0, .class_ 25), (0, .nameAndType 26 27), (0, u "com/example/exact_repository/exactrepository/Sort$Order"), (0, u "property"), (0, u "Ljava/lang/String;"), (0, .fieldref 23 29), (0, .nameAndType 30 31), (0, u "ascending"), (0, u "Z"), (0, .methodref 8 33), (0, .nameAndType 34 35), (0, u "equals"), (0, u "(Ljava/lang/Object;)Z"), (16, u "(Ljava/lang/String;Z)V"), (10, .class_ 64), (0, u "com/example/exact_repository/exactrepository/Sort")] 18

def k10c0 : Code := { maxStack := 3, maxLocals := 3, code := prog_32_method_1_code, exceptionTable := #[], attributes := #[] }
def k10m0 : Method := { name := "<init>", desc := "(Ljava/lang/String;Z)V", sig := { parameters := [(.object "java/lang/String"), .boolean], returnType := none }, accessFlags := 0, code := some k10c0 }
def k10c1 : Code := { maxStack := 2, maxLocals := 3, code := prog_32_method_4_code, exceptionTable := #[], attributes := #[] }
def k10m1 : Method := { name := "equals", desc := "(Ljava/lang/Object;)Z", sig := { parameters := [(.object "java/lang/Object")], returnType := some .boolean }, accessFlags := 1, code := some k10c1 }
/-- com/example/exact_repository/exactrepository/Sort$Order -/
def k10 : Class := { plain "com/example/exact_repository/exactrepository/Sort$Order" (some 0) with
  accessFlags := 33
  interfaces := #[]
  cf := some (fileOf pool10 23 #[.nestHost 63] #[{ accessFlags := 0, nameIndex := 5, descriptorIndex := 52, attributes := #[] }, { accessFlags := 1, nameIndex := 34, descriptorIndex := 35, attributes := #[] }] 33 2 #[] #[{ accessFlags := 18, nameIndex := 26, descriptorIndex := 27, attributes := #[] }, { accessFlags := 18, nameIndex := 30, descriptorIndex := 31, attributes := #[] }])
  fields := #[{ name := "property", type := (.object "java/lang/String"), accessFlags := 18, slot := 0, constantValue := 0 }, { name := "ascending", type := .boolean, accessFlags := 18, slot := 1, constantValue := 0 }]
  methods := #[k10m0, k10m1]
  instanceTypes := #[(.object "java/lang/String"), .boolean]
  staticTypes := #[]
  resolved := Array.replicate 83 none
  statics := none }

def pool11 : Array CpInfo := pool [(2, .class_ 4), (1, u "java/lang/Object"), (0, u "<init>"), (0, u "()V"), (17, .class_ 26), (1, u "jdk/internal/util/Preconditions"), (28, .class_ 56), (0, u "jdk/internal/util/Preconditions$4"), (57, .class_ 115), (0, u "jdk/internal/util/Preconditions$1"), (7, u "SIOOBE_FORMATTER"), (0, u "Ljava/util/function/BiFunction;"), (0, .class_ 126), (0, u "jdk/internal/util/Preconditions$2"), (3, u "AIOOBE_FORMATTER"), (0, .class_ 132), (0, u "jdk/internal/util/Preconditions$3"), (3, u "IOOBE_FORMATTER")] 57

def k11m0 : Method := { name := "<init>", desc := "()V", sig := { parameters := [], returnType := none }, accessFlags := 1, code := none }
/-- jdk/internal/util/Preconditions -/
def k11 : Class := { plain "jdk/internal/util/Preconditions" (some 0) with
  accessFlags := 33
  interfaces := #[]
  cf := some (fileOf pool11 24 #[.nestMembers #[55, 131, 125, 114]] #[{ accessFlags := 1, nameIndex := 5, descriptorIndex := 6, attributes := #[] }] 33 2 #[] #[{ accessFlags := 25, nameIndex := 123, descriptorIndex := 124, attributes := #[] }, { accessFlags := 25, nameIndex := 130, descriptorIndex := 124, attributes := #[] }, { accessFlags := 25, nameIndex := 136, descriptorIndex := 124, attributes := #[] }])
  fields := #[{ name := "SIOOBE_FORMATTER", type := (.object "java/util/function/BiFunction"), accessFlags := 25, slot := 0, constantValue := 0 }, { name := "AIOOBE_FORMATTER", type := (.object "java/util/function/BiFunction"), accessFlags := 25, slot := 1, constantValue := 0 }, { name := "IOOBE_FORMATTER", type := (.object "java/util/function/BiFunction"), accessFlags := 25, slot := 2, constantValue := 0 }]
  methods := #[k11m0]
  instanceTypes := #[]
  staticTypes := #[(.object "java/util/function/BiFunction"), (.object "java/util/function/BiFunction"), (.object "java/util/function/BiFunction")]
  resolved := Array.replicate 194 none
  statics := some 1 }

def pool12 : Array CpInfo := pool [(9, u "<init>"), (6, .class_ 18), (1, u "java/lang/Object"), (0, u "()V"), (1, .class_ 23), (1, u "jdk/internal/util/ArraysSupport"), (0, u "LOG2_ARRAY_LONG_INDEX_SCALE"), (0, u "I"), (2, u "U"), (0, u "Ljdk/internal/misc/Unsafe;"), (8, u "BIG_ENDIAN"), (0, u "Z"), (8, u "LOG2_BYTE_BIT_SIZE"), (4, u "LOG2_ARRAY_INT_INDEX_SCALE"), (54, u "JLA"), (0, u "Ljdk/internal/access/JavaLangAccess;"), (11, u "LOG2_ARRAY_BOOLEAN_INDEX_SCALE"), (9, u "LOG2_ARRAY_BYTE_INDEX_SCALE"), (5, u "LOG2_ARRAY_CHAR_INDEX_SCALE"), (5, u "LOG2_ARRAY_SHORT_INDEX_SCALE"), (18, u "LOG2_ARRAY_FLOAT_INDEX_SCALE"), (24, u "LOG2_ARRAY_DOUBLE_INDEX_SCALE"), (89, u "T_BOOLEAN"), (2, u "T_CHAR"), (1, u "T_FLOAT"), (1, u "T_DOUBLE"), (1, u "T_BYTE"), (1, u "T_SHORT"), (1, u "T_INT"), (1, u "T_LONG"), (1, u "SOFT_MAX_ARRAY_LENGTH")] 83

def k12m0 : Method := { name := "<init>", desc := "()V", sig := { parameters := [], returnType := none }, accessFlags := 2, code := none }
/-- jdk/internal/util/ArraysSupport -/
def k12 : Class := { plain "jdk/internal/util/ArraysSupport" (some 0) with
  accessFlags := 33
  interfaces := #[]
  cf := some (fileOf pool12 21 #[] #[{ accessFlags := 2, nameIndex := 9, descriptorIndex := 19, attributes := #[] }] 33 16 #[] #[{ accessFlags := 24, nameIndex := 28, descriptorIndex := 29, attributes := #[] }, { accessFlags := 26, nameIndex := 38, descriptorIndex := 39, attributes := #[] }, { accessFlags := 25, nameIndex := 121, descriptorIndex := 25, attributes := #[] }, { accessFlags := 25, nameIndex := 131, descriptorIndex := 25, attributes := #[] }, { accessFlags := 25, nameIndex := 137, descriptorIndex := 25, attributes := #[] }, { accessFlags := 25, nameIndex := 143, descriptorIndex := 25, attributes := #[] }, { accessFlags := 25, nameIndex := 53, descriptorIndex := 25, attributes := #[] }, { accessFlags := 25, nameIndex := 24, descriptorIndex := 25, attributes := #[] }, { accessFlags := 25, nameIndex := 162, descriptorIndex := 25, attributes := #[] }, { accessFlags := 25, nameIndex := 187, descriptorIndex := 25, attributes := #[] }, { accessFlags := 26, nameIndex := 48, descriptorIndex := 25, attributes := #[] }, { accessFlags := 25, nameIndex := 277, descriptorIndex := 25, attributes := #[] }, { accessFlags := 25, nameIndex := 280, descriptorIndex := 25, attributes := #[] }, { accessFlags := 25, nameIndex := 282, descriptorIndex := 25, attributes := #[] }, { accessFlags := 25, nameIndex := 284, descriptorIndex := 25, attributes := #[] }, { accessFlags := 25, nameIndex := 286, descriptorIndex := 25, attributes := #[] }, { accessFlags := 25, nameIndex := 288, descriptorIndex := 25, attributes := #[] }, { accessFlags := 25, nameIndex := 290, descriptorIndex := 25, attributes := #[] }, { accessFlags := 25, nameIndex := 292, descriptorIndex := 25, attributes := #[] }, { accessFlags := 26, nameIndex := 108, descriptorIndex := 109, attributes := #[] }, { accessFlags := 25, nameIndex := 294, descriptorIndex := 25, attributes := #[] }])
  fields := #[{ name := "U", type := (.object "jdk/internal/misc/Unsafe"), accessFlags := 24, slot := 0, constantValue := 0 }, { name := "BIG_ENDIAN", type := .boolean, accessFlags := 26, slot := 1, constantValue := 0 }, { name := "LOG2_ARRAY_BOOLEAN_INDEX_SCALE", type := .int, accessFlags := 25, slot := 2, constantValue := 0 }, { name := "LOG2_ARRAY_BYTE_INDEX_SCALE", type := .int, accessFlags := 25, slot := 3, constantValue := 0 }, { name := "LOG2_ARRAY_CHAR_INDEX_SCALE", type := .int, accessFlags := 25, slot := 4, constantValue := 0 }, { name := "LOG2_ARRAY_SHORT_INDEX_SCALE", type := .int, accessFlags := 25, slot := 5, constantValue := 0 }, { name := "LOG2_ARRAY_INT_INDEX_SCALE", type := .int, accessFlags := 25, slot := 6, constantValue := 0 }, { name := "LOG2_ARRAY_LONG_INDEX_SCALE", type := .int, accessFlags := 25, slot := 7, constantValue := 0 }, { name := "LOG2_ARRAY_FLOAT_INDEX_SCALE", type := .int, accessFlags := 25, slot := 8, constantValue := 0 }, { name := "LOG2_ARRAY_DOUBLE_INDEX_SCALE", type := .int, accessFlags := 25, slot := 9, constantValue := 0 }, { name := "LOG2_BYTE_BIT_SIZE", type := .int, accessFlags := 26, slot := 10, constantValue := 0 }, { name := "T_BOOLEAN", type := .int, accessFlags := 25, slot := 11, constantValue := 0 }, { name := "T_CHAR", type := .int, accessFlags := 25, slot := 12, constantValue := 0 }, { name := "T_FLOAT", type := .int, accessFlags := 25, slot := 13, constantValue := 0 }, { name := "T_DOUBLE", type := .int, accessFlags := 25, slot := 14, constantValue := 0 }, { name := "T_BYTE", type := .int, accessFlags := 25, slot := 15, constantValue := 0 }, { name := "T_SHORT", type := .int, accessFlags := 25, slot := 16, constantValue := 0 }, { name := "T_INT", type := .int, accessFlags := 25, slot := 17, constantValue := 0 }, { name := "T_LONG", type := .int, accessFlags := 25, slot := 18, constantValue := 0 }, { name := "JLA", type := (.object "jdk/internal/access/JavaLangAccess"), accessFlags := 26, slot := 19, constantValue := 0 }, { name := "SOFT_MAX_ARRAY_LENGTH", type := .int, accessFlags := 25, slot := 20, constantValue := 0 }]
  methods := #[k12m0]
  instanceTypes := #[]
  staticTypes := #[(.object "jdk/internal/misc/Unsafe"), .boolean, .int, .int, .int, .int, .int, .int, .int, .int, .int, .int, .int, .int, .int, .int, .int, .int, .int, (.object "jdk/internal/access/JavaLangAccess"), .int]
  resolved := Array.replicate 378 none
  statics := none }

def pool13 : Array CpInfo := pool [(1, u "java/lang/Cloneable"), (0, .class_ 1), (0, u "java/lang/Object"), (0, .class_ 3)] 3

/-- java/lang/Cloneable -/
def k13 : Class := { plain "java/lang/Cloneable" (some 0) with
  accessFlags := 1537
  interfaces := #[]
  cf := some (fileOf pool13 2 #[] #[] 1537 4 #[] #[])
  fields := #[]
  methods := #[]
  instanceTypes := #[]
  staticTypes := #[]
  resolved := Array.replicate 8 none
  statics := none }

/-- the primitive byte -/
def k14 : Class := { plain "byte" none with kind := .primitive 'B', accessFlags := 0x411 }
/-- [B -/
def k15 : Class := { plain "[B" (some 0) with kind := .array 14 .byte, interfaces := #[13, 2], accessFlags := 1041 }

/-- the primitive char -/
def k16 : Class := { plain "char" none with kind := .primitive 'C', accessFlags := 0x411 }
/-- [C -/
def k17 : Class := { plain "[C" (some 0) with kind := .array 16 .char, interfaces := #[13, 2], accessFlags := 1041 }

/-- the primitive int -/
def k18 : Class := { plain "int" none with kind := .primitive 'I', accessFlags := 0x411 }
/-- [I -/
def k19 : Class := { plain "[I" (some 0) with kind := .array 18 .int, interfaces := #[13, 2], accessFlags := 1041 }

def heap : Heap := #[{ cls := 7, slots := #[.long 0, .int 1, .null, .int 0, .null, .int 0, .int 0], vm := .statics 7 },
  { cls := 11, slots := #[.null, .null, .null], vm := .statics 11 }]
def classes : Array Class := #[k0, k1, k2, k3, k4, k5, k6, k7, k8, k9, k10, k11, k12, k13, k14, k15, k16, k17, k18, k19]
def interned : List (Array UInt16 × Addr) := []
def slotsUsed : Nat := 10
def theMethod : MethodId := ⟨1, 1⟩
def args0 : Array Value := #[.int 5, .int 5, .int 5, .int 5]
def aboutOver (below : List Frame) : State where
  vm := { classes := classes, interned := interned.toArray }
  heap := heap
  slotsUsed := slotsUsed
  threads := #[{ frames := .invoking theMethod args0 :: below }]
def below0 : List Frame := [.native { method := ⟨0, 0⟩, args := #[] }]
def about1 : State := aboutOver below0
def p0 : Program := .bare "" "" ""
def e0 : Env := launch0.env 0 0 0
theorem w_frames : about1.frames = Frame.invoking theMethod args0 :: below0 := rfl
set_option maxRecDepth 65536 in
theorem w_args : argsFit about1.vm theMethod args0 = true := by decide +kernel
set_option maxRecDepth 65536 in
theorem w_heap : heapFits about1 = true := by decide +kernel
set_option maxRecDepth 65536 in
theorem w_runnable : about1.curStatus? = some .runnable := by decide +kernel
set_option maxRecDepth 65536 in
theorem w_alone : about1.alone = true := by decide +kernel
set_option maxRecDepth 65536 in
theorem w_named : about1.methodNamed? x = some theMethod := by decide +kernel
set_option maxRecDepth 65536 in
theorem w_hears : about1.hears theMethod below0 = true := by decide +kernel
set_option maxRecDepth 65536 in
theorem w_ripe : about1.ripe theMethod args0 below0 = true := by decide +kernel
theorem w_running : about1.status = .running := rfl
set_option maxRecDepth 65536 in
theorem w_room : about1.hasRoom e0.platform room_1 = true :=
  launch0.hasRoom_least _ room_1 (by decide +kernel) (by decide +kernel) (by decide +kernel) (by decide +kernel) (by decide +kernel) (by decide +kernel)
theorem allAtoms_all (ts : List Jvm.Cond) (a : Array Jvm.Value) (st : Jvm.State) : (allAtoms ts).before a st = ts.all (fun c => c.before a st) := by
  induction ts with
  | nil => rfl
  | cons c t ih =>
    show (Jvm.Cond.and c (allAtoms t)).before a st = _
    rw [Jvm.Cond.before_and, ih, List.all_cons]
def words1 : List Jvm.Cond := Jvm.Cond.code x code maxLocals ret :: tables_1
/-- a 'code' word, met by the world's own term for the bytes: nothing is compared byte by byte -/
theorem code_word {y : MethodName} {bytes : ByteArray} {mx : Nat} {rt : Option FieldType} {a : Array Value} {s : State} {m : MethodId} {meth : Method} {c : Code} (h1 : s.methodNamed? y = some m) (h2 : s.vm.method? m = some meth) (h3 : meth.code = some c) (h4 : c.code = bytes)
    (h5 : (c.maxLocals == mx && c.exceptionTable.isEmpty && decide (c.maxStack ≤ mostOperands) && decide (meth.sig.returnType = rt) && !meth.locks && decide (parseMethodDescriptor y.desc = some meth.sig)) = true) : (Jvm.Cond.code y bytes mx rt).before a s = true := by
  simp only [Bool.and_eq_true, beq_iff_eq, Bool.not_eq_true', decide_eq_true_eq] at h5
  obtain ⟨⟨⟨⟨⟨g1, g2⟩, g3⟩, g4⟩, g5⟩, g6⟩ := h5
  simp [Cond.before, Cond.holds, Cond.value, h1, h2, h3, h4, g1, g2, g3, g4, g5, g6]
def isCode : Jvm.Cond → Bool
  | .code _ _ _ _ => true
  | _ => false
theorem all_split {L : List Jvm.Cond} {P : Jvm.Cond → Bool} (h1 : L.all (fun c => isCode c || P c) = true) (h2 : ∀ c ∈ L.filter isCode, P c = true) : L.all P = true := by
  refine List.all_eq_true.mpr fun c hc => ?_
  have h := List.all_eq_true.mp h1 c hc
  rcases Bool.eq_false_or_eq_true (isCode c) with hi | hi
  · exact h2 c (List.mem_filter.mpr ⟨hc, hi⟩)
  · simpa [hi] using h
set_option maxRecDepth 65536 in
theorem w_c0 : (Jvm.Cond.code x code maxLocals ret).before args0 about1 = true := code_word (m := ⟨1, 1⟩) (meth := k1m1) (c := k1c1) (by decide +kernel) rfl rfl rfl (by decide +kernel)
set_option maxRecDepth 65536 in
theorem w_c1 : (Jvm.Cond.code ({ cls := "com/example/exact_repository/exactrepository/OrderEqualsPinLaw", name := "make", desc := "(ICC)Ljava/lang/String;" } : Jvm.MethodName) method_3_code (4 : Nat) (Option.some (Jvm.ClassFile.FieldType.object "java/lang/String"))).before args0 about1 = true := code_word (m := ⟨1, 2⟩) (meth := k1m2) (c := k1c2) (by decide +kernel) rfl rfl rfl (by decide +kernel)
set_option maxRecDepth 65536 in
theorem w_c2 : (Jvm.Cond.code ({ cls := "java/lang/String", name := "<init>", desc := "([C)V" } : Jvm.MethodName) jdk_42_method_3_code (2 : Nat) (Option.none : Option Jvm.ClassFile.FieldType)).before args0 about1 = true := code_word (m := ⟨7, 1⟩) (meth := k7m1) (c := k7c1) (by decide +kernel) rfl rfl rfl (by decide +kernel)
set_option maxRecDepth 65536 in
theorem w_c3 : (Jvm.Cond.code ({ cls := "java/lang/String", name := "<init>", desc := "([CIILjava/lang/Void;)V" } : Jvm.MethodName) jdk_42_method_149_code (6 : Nat) (Option.none : Option Jvm.ClassFile.FieldType)).before args0 about1 = true := code_word (m := ⟨7, 5⟩) (meth := k7m5) (c := k7c5) (by decide +kernel) rfl rfl rfl (by decide +kernel)
set_option maxRecDepth 65536 in
theorem w_c4 : (Jvm.Cond.code ({ cls := "java/lang/Object", name := "<init>", desc := "()V" } : Jvm.MethodName) object_method_1_code (1 : Nat) (Option.none : Option Jvm.ClassFile.FieldType)).before args0 about1 = true := code_word (m := ⟨0, 0⟩) (meth := k0m0) (c := k0c0) (by decide +kernel) rfl rfl rfl (by decide +kernel)
set_option maxRecDepth 65536 in
theorem w_c5 : (Jvm.Cond.code ({ cls := "java/lang/StringUTF16", name := "compress", desc := "([CII)[B" } : Jvm.MethodName) jdk_52_method_16_code (6 : Nat) (Option.some (Jvm.ClassFile.FieldType.array Jvm.ClassFile.FieldType.byte))).before args0 about1 = true := code_word (m := ⟨8, 2⟩) (meth := k8m2) (c := k8c2) (by decide +kernel) rfl rfl rfl (by decide +kernel)
set_option maxRecDepth 65536 in
theorem w_c6 : (Jvm.Cond.code ({ cls := "java/lang/StringUTF16", name := "compress", desc := "([CI[BII)I" } : Jvm.MethodName) jdk_52_method_21_code (7 : Nat) (Option.some Jvm.ClassFile.FieldType.int)).before args0 about1 = true := code_word (m := ⟨8, 3⟩) (meth := k8m3) (c := k8c3) (by decide +kernel) rfl rfl rfl (by decide +kernel)
set_option maxRecDepth 65536 in
theorem w_c7 : (Jvm.Cond.code ({ cls := "java/lang/StringUTF16", name := "coderFromArrayLen", desc := "([BI)B" } : Jvm.MethodName) jdk_52_method_15_code (2 : Nat) (Option.some Jvm.ClassFile.FieldType.byte)).before args0 about1 = true := code_word (m := ⟨8, 1⟩) (meth := k8m1) (c := k8c1) (by decide +kernel) rfl rfl rfl (by decide +kernel)
set_option maxRecDepth 65536 in
theorem w_c8 : (Jvm.Cond.code ({ cls := "java/lang/String", name := "valueOf", desc := "(C)Ljava/lang/String;" } : Jvm.MethodName) jdk_42_method_139_code (1 : Nat) (Option.some (Jvm.ClassFile.FieldType.object "java/lang/String"))).before args0 about1 = true := code_word (m := ⟨7, 4⟩) (meth := k7m4) (c := k7c4) (by decide +kernel) rfl rfl rfl (by decide +kernel)
set_option maxRecDepth 65536 in
theorem w_c9 : (Jvm.Cond.code ({ cls := "java/lang/StringLatin1", name := "canEncode", desc := "(C)Z" } : Jvm.MethodName) jdk_43_method_3_code (1 : Nat) (Option.some Jvm.ClassFile.FieldType.boolean)).before args0 about1 = true := code_word (m := ⟨9, 1⟩) (meth := k9m1) (c := k9c1) (by decide +kernel) rfl rfl rfl (by decide +kernel)
set_option maxRecDepth 65536 in
theorem w_c10 : (Jvm.Cond.code ({ cls := "java/lang/StringLatin1", name := "toBytes", desc := "(C)[B" } : Jvm.MethodName) jdk_43_method_46_code (1 : Nat) (Option.some (Jvm.ClassFile.FieldType.array Jvm.ClassFile.FieldType.byte))).before args0 about1 = true := code_word (m := ⟨9, 3⟩) (meth := k9m3) (c := k9c3) (by decide +kernel) rfl rfl rfl (by decide +kernel)
set_option maxRecDepth 65536 in
theorem w_c11 : (Jvm.Cond.code ({ cls := "java/lang/String", name := "<init>", desc := "([BB)V" } : Jvm.MethodName) jdk_42_method_151_code (3 : Nat) (Option.none : Option Jvm.ClassFile.FieldType)).before args0 about1 = true := code_word (m := ⟨7, 6⟩) (meth := k7m6) (c := k7c6) (by decide +kernel) rfl rfl rfl (by decide +kernel)
set_option maxRecDepth 65536 in
theorem w_c12 : (Jvm.Cond.code ({ cls := "com/example/exact_repository/exactrepository/Sort$Order", name := "<init>", desc := "(Ljava/lang/String;Z)V" } : Jvm.MethodName) prog_32_method_1_code (3 : Nat) (Option.none : Option Jvm.ClassFile.FieldType)).before args0 about1 = true := code_word (m := ⟨10, 0⟩) (meth := k10m0) (c := k10c0) (by decide +kernel) rfl rfl rfl (by decide +kernel)
set_option maxRecDepth 65536 in
theorem w_c13 : (Jvm.Cond.code ({ cls := "java/lang/String", name := "isEmpty", desc := "()Z" } : Jvm.MethodName) jdk_42_method_55_code (1 : Nat) (Option.some Jvm.ClassFile.FieldType.boolean)).before args0 about1 = true := code_word (m := ⟨7, 2⟩) (meth := k7m2) (c := k7c2) (by decide +kernel) rfl rfl rfl (by decide +kernel)
set_option maxRecDepth 65536 in
theorem w_c14 : (Jvm.Cond.code ({ cls := "com/example/exact_repository/exactrepository/Sort$Order", name := "equals", desc := "(Ljava/lang/Object;)Z" } : Jvm.MethodName) prog_32_method_4_code (3 : Nat) (Option.some Jvm.ClassFile.FieldType.boolean)).before args0 about1 = true := code_word (m := ⟨10, 1⟩) (meth := k10m1) (c := k10c1) (by decide +kernel) rfl rfl rfl (by decide +kernel)
set_option maxRecDepth 65536 in
theorem w_c15 : (Jvm.Cond.code ({ cls := "java/lang/String", name := "equals", desc := "(Ljava/lang/Object;)Z" } : Jvm.MethodName) jdk_42_method_66_code (3 : Nat) (Option.some Jvm.ClassFile.FieldType.boolean)).before args0 about1 = true := code_word (m := ⟨7, 3⟩) (meth := k7m3) (c := k7c3) (by decide +kernel) rfl rfl rfl (by decide +kernel)
set_option maxRecDepth 65536 in
theorem w_c16 : (Jvm.Cond.code ({ cls := "java/lang/StringLatin1", name := "equals", desc := "([B[B)Z" } : Jvm.MethodName) jdk_43_method_13_code (3 : Nat) (Option.some Jvm.ClassFile.FieldType.boolean)).before args0 about1 = true := code_word (m := ⟨9, 2⟩) (meth := k9m2) (c := k9c2) (by decide +kernel) rfl rfl rfl (by decide +kernel)
def codes1 : List Jvm.Cond := [Jvm.Cond.code x code maxLocals ret, Jvm.Cond.code ({ cls := "com/example/exact_repository/exactrepository/OrderEqualsPinLaw", name := "make", desc := "(ICC)Ljava/lang/String;" } : Jvm.MethodName) method_3_code (4 : Nat) (Option.some (Jvm.ClassFile.FieldType.object "java/lang/String")), Jvm.Cond.code ({ cls := "java/lang/String", name := "<init>", desc := "([C)V" } : Jvm.MethodName) jdk_42_method_3_code (2 : Nat) (Option.none : Option Jvm.ClassFile.FieldType), Jvm.Cond.code ({ cls := "java/lang/String", name := "<init>", desc := "([CIILjava/lang/Void;)V" } : Jvm.MethodName) jdk_42_method_149_code (6 : Nat) (Option.none : Option Jvm.ClassFile.FieldType), Jvm.Cond.code ({ cls := "java/lang/Object", name := "<init>", desc := "()V" } : Jvm.MethodName) object_method_1_code (1 : Nat) (Option.none : Option Jvm.ClassFile.FieldType), Jvm.Cond.code ({ cls := "java/lang/StringUTF16", name := "compress", desc := "([CII)[B" } : Jvm.MethodName) jdk_52_method_16_code (6 : Nat) (Option.some (Jvm.ClassFile.FieldType.array Jvm.ClassFile.FieldType.byte)), Jvm.Cond.code ({ cls := "java/lang/StringUTF16", name := "compress", desc := "([CI[BII)I" } : Jvm.MethodName) jdk_52_method_21_code (7 : Nat) (Option.some Jvm.ClassFile.FieldType.int), Jvm.Cond.code ({ cls := "java/lang/StringUTF16", name := "coderFromArrayLen", desc := "([BI)B" } : Jvm.MethodName) jdk_52_method_15_code (2 : Nat) (Option.some Jvm.ClassFile.FieldType.byte), Jvm.Cond.code ({ cls := "java/lang/String", name := "valueOf", desc := "(C)Ljava/lang/String;" } : Jvm.MethodName) jdk_42_method_139_code (1 : Nat) (Option.some (Jvm.ClassFile.FieldType.object "java/lang/String")), Jvm.Cond.code ({ cls := "java/lang/StringLatin1", name := "canEncode", desc := "(C)Z" } : Jvm.MethodName) jdk_43_method_3_code (1 : Nat) (Option.some Jvm.ClassFile.FieldType.boolean), Jvm.Cond.code ({ cls := "java/lang/StringLatin1", name := "toBytes", desc := "(C)[B" } : Jvm.MethodName) jdk_43_method_46_code (1 : Nat) (Option.some (Jvm.ClassFile.FieldType.array Jvm.ClassFile.FieldType.byte)), Jvm.Cond.code ({ cls := "java/lang/String", name := "<init>", desc := "([BB)V" } : Jvm.MethodName) jdk_42_method_151_code (3 : Nat) (Option.none : Option Jvm.ClassFile.FieldType), Jvm.Cond.code ({ cls := "com/example/exact_repository/exactrepository/Sort$Order", name := "<init>", desc := "(Ljava/lang/String;Z)V" } : Jvm.MethodName) prog_32_method_1_code (3 : Nat) (Option.none : Option Jvm.ClassFile.FieldType), Jvm.Cond.code ({ cls := "java/lang/String", name := "isEmpty", desc := "()Z" } : Jvm.MethodName) jdk_42_method_55_code (1 : Nat) (Option.some Jvm.ClassFile.FieldType.boolean), Jvm.Cond.code ({ cls := "com/example/exact_repository/exactrepository/Sort$Order", name := "equals", desc := "(Ljava/lang/Object;)Z" } : Jvm.MethodName) prog_32_method_4_code (3 : Nat) (Option.some Jvm.ClassFile.FieldType.boolean), Jvm.Cond.code ({ cls := "java/lang/String", name := "equals", desc := "(Ljava/lang/Object;)Z" } : Jvm.MethodName) jdk_42_method_66_code (3 : Nat) (Option.some Jvm.ClassFile.FieldType.boolean), Jvm.Cond.code ({ cls := "java/lang/StringLatin1", name := "equals", desc := "([B[B)Z" } : Jvm.MethodName) jdk_43_method_13_code (3 : Nat) (Option.some Jvm.ClassFile.FieldType.boolean)]
set_option maxRecDepth 65536 in
theorem codes_eq : words1.filter isCode = codes1 := rfl
theorem w_codes : ∀ c ∈ words1.filter isCode, c.before args0 about1 = true := by
  rw [codes_eq]
  intro c hc
  simp only [codes1, List.mem_cons, List.not_mem_nil, or_false] at hc
  rcases hc with rfl | rfl | rfl | rfl | rfl | rfl | rfl | rfl | rfl | rfl | rfl | rfl | rfl | rfl | rfl | rfl | rfl
  · exact w_c0
  · exact w_c1
  · exact w_c2
  · exact w_c3
  · exact w_c4
  · exact w_c5
  · exact w_c6
  · exact w_c7
  · exact w_c8
  · exact w_c9
  · exact w_c10
  · exact w_c11
  · exact w_c12
  · exact w_c13
  · exact w_c14
  · exact w_c15
  · exact w_c16
set_option maxRecDepth 65536 in
theorem w_t1 : (words1.take 24).all (fun c => isCode c || c.before args0 about1) = true := by decide +kernel
set_option maxRecDepth 65536 in
theorem w_t2 : ((words1.drop 24).take 24).all (fun c => isCode c || c.before args0 about1) = true := by decide +kernel
set_option maxRecDepth 65536 in
theorem w_t3 : (((words1.drop 24).drop 24).take 24).all (fun c => isCode c || c.before args0 about1) = true := by decide +kernel
set_option maxRecDepth 65536 in
theorem w_t4 : (((words1.drop 24).drop 24).drop 24).all (fun c => isCode c || c.before args0 about1) = true := by decide +kernel
theorem w_tables : (allAtoms (Jvm.Cond.code x code maxLocals ret :: tables_1)).before args0 about1 = true := by
  rw [allAtoms_all]
  show words1.all (fun c => c.before args0 about1) = true
  refine all_split ?_ w_codes
  rw [← List.take_append_drop 24 words1, List.all_append, w_t1, ← List.take_append_drop 24 (words1.drop 24), List.all_append, w_t2, ← List.take_append_drop 24 ((words1.drop 24).drop 24), List.all_append, w_t3, w_t4]
  rfl
set_option maxRecDepth 65536 in
theorem w_rest : rest_1_c.before args0 about1 = true := by decide +kernel
set_option maxRecDepth 65536 in
theorem w_case : (Jvm.Cond.and given_1 narrow_1).before args0 about1 = true := by decide +kernel
theorem w_applies : (headSpec (Jvm.Cond.code x code maxLocals ret :: tables_1) room_1).applies x e0.platform about1 = true :=
  (Spec.applies_iff w_frames).mpr ⟨w_running, w_runnable, w_alone, w_named, w_hears, w_ripe, w_room, w_tables⟩
theorem atStart : AtStart classFile x code maxLocals ret World_1 tables_1 room_1 Calls_1 rest_1 Pre_1 launch0 p0 e0 about1 theMethod args0 below0 :=
  ⟨lists_1, trivial, launch0.admits_env _ _ _, launch0.least_env, fairChoices_fair.cas, fairChoices_fair.clock, w_frames, w_args, w_heap, w_applies, trivial, w_rest, w_case⟩
end start1
theorem witness_1 : WitnessClaimed_1 := ⟨start1.p0, start1.e0, start1.about1, start1.theMethod, start1.args0, start1.below0, start1.atStart⟩
end Jvm.Pilot.@@N@@
