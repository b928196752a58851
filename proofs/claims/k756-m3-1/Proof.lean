import JvmDerived
import JvmDerived.Pilot.@@N@@Statement
import JvmDerived.Pilot.@@N@@Code
set_option linter.unusedVariables false
set_option linter.unusedSimpArgs false
namespace Jvm.RoadKit
open Sem ClassFile Op Lib Jvm.Stand Jvm.Free Jvm.LawKit
section New
variable {p : Program} {l : Launch} {e : Env} {R : Room} {s : State} {m : MethodId} {args : Array Value} {below : List Frame} {meth : Method} {c : Code} {T : State} {locs : List Loc} {cells slots : Nat}
theorem retI (X : Stand p l e R s m args below meth c T locs cells slots) (hx : p.tables.exec = Jvm.exec) {pc : Nat} {Ls : Array Slot} {z : Int32} {rest : List Value} (hret : meth.sig.returnType = some .int) (hd : decode c.code pc = .ok (.ireturn, 1)) {fs : List Frame}
    (hl : ∀ (f : JFrame) (acts : List Action), f.method = m → f.locked = none → f.entered = [] → (doReturn e (T.setTop f) acts (some (.int z))).1 = T.setFrames fs) : Steps p.tables e below (T.setTop (mkF m pc Ls (.int z :: rest))) (T.setFrames fs) := by
  have hm' : T.vm.method? m = some meth := X.method'
  have hn : narrow .int (.int z) = .int z := rfl
  show Steps p.tables e below (T.setTop { method := m, pc := pc, locals := Ls, stack := _ :: rest, locked := none }) _
  jvm_step X.here [X.here.top, hx, hd, hm', hret, hn]
  first | (intro acts; rw [hl _ acts rfl rfl rfl]) | rw [hl _ _ rfl rfl rfl]
  exact Steps.refl _
end New
end Jvm.RoadKit
/- laws to paste: Road.backV, Road.eqW, Road.codOf (cut by pick.py; bodies as the Statement names them) -/
namespace Jvm.Pilot.@@N@@
namespace StrChars
open Jvm Sem ClassFile Op Lib Jvm.Stand Jvm.Free.XT Jvm.Free.ALB Jvm.Free.JM Jvm.Free
open Jvm.Lib.Cold (StaticIs)
/-- a char array whose places are chars -/
def Ch (a : Addr) (A : Cell) (U : State) : Prop := Arr .char a A U ∧ Typed .char A
theorem Ch.mv {a : Addr} {A : Cell} {U U' : State} (h : Ch a A U) (hal : U.vm.Alike U'.vm) (hh : U'.heap = U.heap) : Ch a A U' := ⟨h.1.mv hal hh, h.2⟩
theorem Ch.keep {a : Addr} {A : Cell} {U U' : State} (h : Ch a A U) (hal : U.vm.Alike U'.vm) (hk : U'.heap[a]? = some A) : Ch a A U' := ⟨h.1.keep hal hk, h.2⟩
/-- what place i of a char[]'s cell holds -/
def cv (A : Cell) (i : Nat) : Int32 := match A.slots[i]? with | some (.int x) => x | _ => 0
theorem Ch.get {a : Addr} {A : Cell} {U : State} (h : Ch a A U) {i : Nat} (hi : i < A.slots.size) : A.slots[i]? = some (.int (cv A i)) := by
  have e := Array.getElem?_eq_getElem hi
  have f := h.2 i _ e
  unfold cv; rw [e]
  generalize A.slots[i] = v at f
  cases v <;> simp [fits] at f ⊢
/-- the byte that i2b leaves of a char -/
def lo8 (x : Int32) : Int32 := x.toInt8.toInt32
theorem fits_lo8 (y : Int32) : fits .byte (.int (lo8 y)) = true := by
  have h1 := y.toInt8.le_toInt
  have h2 := y.toInt8.toInt_lt
  simp only [lo8, fits, Bool.and_eq_true, decide_eq_true_eq, Int32.le_iff_toInt_le, Int8.toInt_toInt32, show (-128 : Int32).toInt = -128 from by decide, show (127 : Int32).toInt = 127 from by decide]
  omega
/-- A' is A but that each place j of lo .. hi - 1 holds f j -/
def Laid (A A' : Cell) (lo hi : Nat) (f : Nat → Value) : Prop := A'.cls = A.cls ∧ A'.vm = A.vm ∧ A'.slots.size = A.slots.size ∧ ∀ i, A'.slots[i]? = if lo ≤ i ∧ i < hi then some (f i) else A.slots[i]?
theorem Laid.zero (A : Cell) (lo : Nat) (f : Nat → Value) : Laid A A lo (lo + 0) f := ⟨rfl, rfl, rfl, fun i => by rw [if_neg (by omega)]⟩
theorem Laid.step {A Ak : Cell} {lo k : Nat} {f : Nat → Value} {v : Value} (h : Laid A Ak lo k f) (hlo : lo ≤ k) (hk : k < Ak.slots.size) (hv : v = f k) : Laid A (Ak.setSlot k v) lo (k + 1) f := by
  refine ⟨h.1, h.2.1, by simpa [Cell.setSlot] using h.2.2.1, fun i => ?_⟩
  by_cases e : k = i
  · subst e; rw [Cell.slots_setSlot_self v hk, if_pos (by omega), hv]
  · rw [Cell.slots_setSlot_ne v e, h.2.2.2 i]
    by_cases q : lo ≤ i ∧ i < k
    · rw [if_pos q, if_pos (by omega)]
    · rw [if_neg q, if_neg (by omega)]
def U16 : String := "java/lang/StringUTF16"
namespace Cmp5
def yN : MethodName := ⟨"java/lang/StringUTF16", "compress", "([CI[BII)I"⟩
abbrev yB : ByteArray := jdk_52_method_21_code
theorem d0 : decode yB 0 = .ok (.iconst 0, 1) := by decide +kernel
theorem d1 : decode yB 1 = .ok (.istore 5, 2) := by decide +kernel
theorem d3 : decode yB 3 = .ok (.iload 5, 2) := by decide +kernel
theorem d5 : decode yB 5 = .ok (.iload 4, 2) := by decide +kernel
theorem d7 : decode yB 7 = .ok (.if_icmp (.ge) 37, 3) := by decide +kernel
theorem d10 : decode yB 10 = .ok (.aload_n 0, 1) := by decide +kernel
theorem d11 : decode yB 11 = .ok (.iload_n 1, 1) := by decide +kernel
theorem d12 : decode yB 12 = .ok (.caload, 1) := by decide +kernel
theorem d13 : decode yB 13 = .ok (.istore 6, 2) := by decide +kernel
theorem d15 : decode yB 15 = .ok (.iload 6, 2) := by decide +kernel
theorem d17 : decode yB 17 = .ok (.sipush 255, 3) := by decide +kernel
theorem d20 : decode yB 20 = .ok (.if_icmp (.le) 6, 3) := by decide +kernel
theorem d26 : decode yB 26 = .ok (.aload_n 2, 1) := by decide +kernel
theorem d27 : decode yB 27 = .ok (.iload_n 3, 1) := by decide +kernel
theorem d28 : decode yB 28 = .ok (.iload 6, 2) := by decide +kernel
theorem d30 : decode yB 30 = .ok (.i2b, 1) := by decide +kernel
theorem d31 : decode yB 31 = .ok (.bastore, 1) := by decide +kernel
theorem d32 : decode yB 32 = .ok (.iinc 1 1, 3) := by decide +kernel
theorem d35 : decode yB 35 = .ok (.iinc 3 1, 3) := by decide +kernel
theorem d38 : decode yB 38 = .ok (.iinc 5 1, 3) := by decide +kernel
theorem d41 : decode yB 41 = .ok (.goto (-38), 3) := by decide +kernel
theorem d44 : decode yB 44 = .ok (.iload 4, 2) := by decide +kernel
theorem d46 : decode yB 46 = .ok (.ireturn, 1) := by decide +kernel
def site : List Cond := []
def tab : Cond := tabOf yN yB 7 (some .int) site
def P (b : Addr) (A : Cell) (d : Addr) (B : Cell) (o q len : Nat) (args : Array Value) (s : State) : Prop := args = #[.ref b, .int (Int32.ofNat o), .ref d, .int (Int32.ofNat q), .int (Int32.ofNat len)] ∧ Ch b A s ∧ Arr .byte d B s ∧ b ≠ d ∧ o + len ≤ A.slots.size ∧ q + len ≤ B.slots.size ∧ ∀ i, i < len → ¬ 255 < cv A (o + i)
def E (b : Addr) (A : Cell) (d : Addr) (B : Cell) (o q len : Nat) (r : Option Value) (s u : State) : Prop := r = some (.int (Int32.ofNat len)) ∧ ∃ B', Put d B' s u ∧ Laid B B' q (q + len) (fun j => Value.int (lo8 (cv A (o + (j - q)))))
/-- no char of the range above 255: len; the places written hold each char's low byte -/
theorem law (l : Launch) (b : Addr) (A : Cell) (d : Addr) (B : Cell) (o q len : Nat) : Law l yN 5 5 0 0 yB 7 (some .int) site (P b A d B o q len) (E b A d B o q len) (copyLocs d q len) 0 0 := by
  refine Law.of_walk (plainFor_of_name (by decide +kernel)) (by decide +kernel) (by decide +kernel) (by decide) (fun _ _ h => by rw [h.1]; rfl) (fun _ U U' hal hh h => ⟨h.1, h.2.1.mv hal hh, h.2.2.1.mv hal hh, h.2.2.2⟩) (fun r U U' V V' h1 hal h2 h => ⟨h.1, h.2.elim fun B' q => ⟨B', q.1.mv h1 h2, q.2⟩⟩) ?_
  intro p e s m args below meth c s₁ X0 hexec hbytes hml hret hlk hnm hown hh0 W hP
  obtain ⟨rfl, hA, hB, hne, l1, l2, hp⟩ := hP
  have c1 : Steps p.tables e below (s₁.setTop (entryFrame m #[.ref b, .int (Int32.ofNat o), .ref d, .int (Int32.ofNat q), .int (Int32.ofNat len)] 7)) (s₁.setTop (mkF m 0 #[.val (.ref b), .val (.int (Int32.ofNat o)), .val (.ref d), .val (.int (Int32.ofNat q)), .val (.int (Int32.ofNat len)), .unset, .unset] [])) := entry rfl
  have hA0 := hA.1.mv X0.warmed.alike hh0
  have hB0 := hB.mv X0.warmed.alike hh0
  have a31 := hA.1.2.2.2
  have c2 : Steps p.tables e below (s₁.setTop (entryFrame m #[.ref b, .int (Int32.ofNat o), .ref d, .int (Int32.ofNat q), .int (Int32.ofNat len)] 7)) (s₁.setTop (mkF m 3 #[.val (.ref b), .val (.int (Int32.ofNat o)), .val (.ref d), .val (.int (Int32.ofNat q)), .val (.int (Int32.ofNat len)), .val (.int 0), .unset] [])) := c1.trans (by
    refine iconstV X0.here hexec rfl 0 (hb hbytes d0) (by decide) ?_
    refine XS.istore X0.here hexec rfl (hb hbytes d1) rfl rfl ?_
    exact Steps.refl _)
  have loop : ∀ (r i : Nat), i + r = len → ∀ (z : Slot), (z = .unset ∨ ∃ w, z = .val w ∧ w.category = 1) → ∀ (Tl : State) (Bk : Cell), Stand p l e { frames := 0, locals := 0, cells := 0, slots := 0 } s m #[.ref b, .int (Int32.ofNat o), .ref d, .int (Int32.ofNat q), .int (Int32.ofNat len)] below meth c Tl ([] ++ copyLocs d q i) 0 0 → Put d Bk s₁ Tl → Laid B Bk q (q + i) (fun j => Value.int (lo8 (cv A (o + (j - q))))) →
      Steps p.tables e below (s₁.setTop (entryFrame m #[.ref b, .int (Int32.ofNat o), .ref d, .int (Int32.ofNat q), .int (Int32.ofNat len)] 7)) (Tl.setTop (mkF m 3 #[.val (.ref b), .val (.int (Int32.ofNat (o + i))), .val (.ref d), .val (.int (Int32.ofNat (q + i))), .val (.int (Int32.ofNat len)), .val (.int (Int32.ofNat i)), z] [])) → ∃ (T' : State) (B' : Cell) (z' : Slot), Stand p l e { frames := 0, locals := 0, cells := 0, slots := 0 } s m #[.ref b, .int (Int32.ofNat o), .ref d, .int (Int32.ofNat q), .int (Int32.ofNat len)] below meth c T' ([] ++ copyLocs d q len) 0 0 ∧ Put d B' s₁ T' ∧ Laid B B' q (q + len) (fun j => Value.int (lo8 (cv A (o + (j - q))))) ∧
      Steps p.tables e below (s₁.setTop (entryFrame m #[.ref b, .int (Int32.ofNat o), .ref d, .int (Int32.ofNat q), .int (Int32.ofNat len)] 7)) (T'.setTop (mkF m 3 #[.val (.ref b), .val (.int (Int32.ofNat (o + len))), .val (.ref d), .val (.int (Int32.ofNat (q + len))), .val (.int (Int32.ofNat len)), .val (.int (Int32.ofNat len)), z'] [])) := by
    intro r
    induction r with
    | zero =>
      intro i hi z hz Tl Bk Xl pl fl cl
      have hil : i = len := by omega
      rw [hil] at Xl fl cl
      exact ⟨Tl, Bk, z, Xl, pl, fl, cl⟩
    | succ r ih =>
      intro i hi z hz Tl Bk Xl pl fl cl
      have all := X0.warmed.alike.symm.trans Xl.warmed.alike
      have hAl := hA0.keep all (pl.other hne hA0.1)
      have hBk := hB0.like all pl.1 fl.1 fl.2.1 fl.2.2.1
      have hlt : q + i < Bk.slots.size := by rw [fl.2.2.1]; omega
      have c3 : Steps p.tables e below (s₁.setTop (entryFrame m #[.ref b, .int (Int32.ofNat o), .ref d, .int (Int32.ofNat q), .int (Int32.ofNat len)] 7)) (Tl.setTop (mkF m 12 #[.val (.ref b), .val (.int (Int32.ofNat (o + i))), .val (.ref d), .val (.int (Int32.ofNat (q + i))), .val (.int (Int32.ofNat len)), .val (.int (Int32.ofNat i)), z] [.int (Int32.ofNat (o + i)), .ref b])) := cl.trans (by
        refine XS.iload Xl.here hexec rfl (hb hbytes d3) rfl ?_
        refine XS.iload Xl.here hexec rfl (hb hbytes d5) rfl ?_
        refine XS.icmpNo Xl.here hexec rfl (hb hbytes d7) rfl (ii_ge_f (lt32 (by omega) (by omega))) ?_
        refine XS.aloadN Xl.here hexec rfl (hb hbytes d10) rfl rfl ?_
        refine XS.iloadN Xl.here hexec rfl (hb hbytes d11) rfl ?_
        exact Steps.refl _)
      have c4 : Steps p.tables e below (s₁.setTop (entryFrame m #[.ref b, .int (Int32.ofNat o), .ref d, .int (Int32.ofNat q), .int (Int32.ofNat len)] 7)) (Tl.setTop (mkF m 13 #[.val (.ref b), .val (.int (Int32.ofNat (o + i))), .val (.ref d), .val (.int (Int32.ofNat (q + i))), .val (.int (Int32.ofNat len)), .val (.int (Int32.ofNat i)), z] [.int (cv A (o + i))])) := c3.trans (by
        refine Xl.aget hexec hAl rfl (hA.get (i := o + i) (by omega)) rfl rfl (hb hbytes d12) ?_
        exact Steps.refl _)
      have c5 : Steps p.tables e below (s₁.setTop (entryFrame m #[.ref b, .int (Int32.ofNat o), .ref d, .int (Int32.ofNat q), .int (Int32.ofNat len)] 7)) (Tl.setTop (mkF m 15 #[.val (.ref b), .val (.int (Int32.ofNat (o + i))), .val (.ref d), .val (.int (Int32.ofNat (q + i))), .val (.int (Int32.ofNat len)), .val (.int (Int32.ofNat i)), .val (.int (cv A (o + i)))] [])) := c4.trans (by
        refine XS.istoreS Xl.here hexec rfl (hb hbytes d13) rfl rfl hz ?_
        exact Steps.refl _)
      have c6 : Steps p.tables e below (s₁.setTop (entryFrame m #[.ref b, .int (Int32.ofNat o), .ref d, .int (Int32.ofNat q), .int (Int32.ofNat len)] 7)) (Tl.setTop (mkF m 31 #[.val (.ref b), .val (.int (Int32.ofNat (o + i))), .val (.ref d), .val (.int (Int32.ofNat (q + i))), .val (.int (Int32.ofNat len)), .val (.int (Int32.ofNat i)), .val (.int (cv A (o + i)))] [.int (lo8 (cv A (o + i))), .int (Int32.ofNat (q + i)), .ref d])) := c5.trans (by
        refine XS.iload Xl.here hexec rfl (hb hbytes d15) rfl ?_
        refine sipushV Xl.here hexec rfl 255 (hb hbytes d17) (by decide) ?_
        refine XS.icmpYes Xl.here hexec rfl (pc0 := 20) rfl (hb hbytes d20) rfl (ii_le_t (hp i (by omega))) (by decide) rfl ?_
        refine XS.aloadN Xl.here hexec rfl (hb hbytes d26) rfl rfl ?_
        refine XS.iloadN Xl.here hexec rfl (hb hbytes d27) rfl ?_
        refine XS.iload Xl.here hexec rfl (hb hbytes d28) rfl ?_
        refine i2b Xl.here hexec rfl (hb hbytes d30) rfl ?_
        exact Steps.refl _)
      obtain ⟨T7, X7, p7, st7⟩ := Xl.aput hexec hBk rfl hlt rfl (fits_lo8 (cv A (o + i))) (g := (mkF m 31 #[.val (.ref b), .val (.int (Int32.ofNat (o + i))), .val (.ref d), .val (.int (Int32.ofNat (q + i))), .val (.int (Int32.ofNat len)), .val (.int (Int32.ofNat i)), .val (.int (cv A (o + i)))] [.int (lo8 (cv A (o + i))), .int (Int32.ofNat (q + i)), .ref d])) rfl (rest := []) rfl (hb hbytes d31)
      have c8 : Steps p.tables e below (s₁.setTop (entryFrame m #[.ref b, .int (Int32.ofNat o), .ref d, .int (Int32.ofNat q), .int (Int32.ofNat len)] 7)) (T7.setTop (mkF m 32 #[.val (.ref b), .val (.int (Int32.ofNat (o + i))), .val (.ref d), .val (.int (Int32.ofNat (q + i))), .val (.int (Int32.ofNat len)), .val (.int (Int32.ofNat i)), .val (.int (cv A (o + i)))] [])) := c6.trans (st7 _ (Steps.refl _))
      have c9 : Steps p.tables e below (s₁.setTop (entryFrame m #[.ref b, .int (Int32.ofNat o), .ref d, .int (Int32.ofNat q), .int (Int32.ofNat len)] 7)) (T7.setTop (mkF m 3 #[.val (.ref b), .val (.int (Int32.ofNat (o + i) + 1)), .val (.ref d), .val (.int (Int32.ofNat (q + i) + 1)), .val (.int (Int32.ofNat len)), .val (.int (Int32.ofNat i + 1)), .val (.int (cv A (o + i)))] [])) := c8.trans (by
        refine iincV X7.here hexec rfl 1 (hb hbytes d32) (by decide) rfl rfl ?_
        refine iincV X7.here hexec rfl 1 (hb hbytes d35) (by decide) rfl rfl ?_
        refine iincV X7.here hexec rfl 1 (hb hbytes d38) (by decide) rfl rfl ?_
        refine XS.goto X7.here hexec rfl (pc0 := 41) rfl (hb hbytes d41) (by decide) rfl ?_
        exact Steps.refl _)
      have c10 : Steps p.tables e below (s₁.setTop (entryFrame m #[.ref b, .int (Int32.ofNat o), .ref d, .int (Int32.ofNat q), .int (Int32.ofNat len)] 7)) (T7.setTop (mkF m 3 #[.val (.ref b), .val (.int (Int32.ofNat (o + (i + 1)))), .val (.ref d), .val (.int (Int32.ofNat (q + (i + 1)))), .val (.int (Int32.ofNat len)), .val (.int (Int32.ofNat (i + 1))), .val (.int (cv A (o + i)))] [])) := by
        have := c9
        rw [succ32, succ32, succ32] at this
        exact this
      exact ih (i + 1) (by omega) _ (Or.inr ⟨_, rfl, rfl⟩) T7 _ (by rw [copyLocs_step, ← List.append_assoc]; exact X7) (pl.trans p7) (fl.step (by omega) hlt (by simp)) c10
  obtain ⟨T9, B9, z9, X9, p9, f9, g9⟩ := loop len 0 (by omega) .unset (Or.inl rfl) s₁ B (by simpa [copyLocs] using X0) ⟨hB0.1, fun _ _ => rfl, rfl⟩ (Laid.zero _ _ _) c2
  have c11 : Steps p.tables e below (s₁.setTop (entryFrame m #[.ref b, .int (Int32.ofNat o), .ref d, .int (Int32.ofNat q), .int (Int32.ofNat len)] 7)) (T9.setTop (mkF m 46 #[.val (.ref b), .val (.int (Int32.ofNat (o + len))), .val (.ref d), .val (.int (Int32.ofNat (q + len))), .val (.int (Int32.ofNat len)), .val (.int (Int32.ofNat len)), z9] [.int (Int32.ofNat len)])) := g9.trans (by
    refine XS.iload X9.here hexec rfl (hb hbytes d3) rfl ?_
    refine XS.iload X9.here hexec rfl (hb hbytes d5) rfl ?_
    refine XS.icmpYes X9.here hexec rfl (pc0 := 7) rfl (hb hbytes d7) rfl (ii_ge_t (nlt32 (by omega) (Nat.le_refl _))) (by decide) rfl ?_
    refine XS.iload X9.here hexec rfl (hb hbytes d44) rfl ?_
    exact Steps.refl _)
  exact ⟨T9, some (.int (Int32.ofNat len)), _, _, _, X9, by simp, rfl, rfl, (fun h => by cases h), ⟨rfl, B9, p9.from hh0, f9⟩, fun fs hl => c11.trans (X9.ireturnOut hexec hret rfl (Or.inl rfl) (hb hbytes d46) hl)⟩
end Cmp5
namespace Cmp3
def yN : MethodName := ⟨"java/lang/StringUTF16", "compress", "([CII)[B"⟩
abbrev yB : ByteArray := jdk_52_method_16_code
theorem d0 : decode yB 0 = .ok (.iload_n 2, 1) := by decide +kernel
theorem d1 : decode yB 1 = .ok (.newarray .byte, 2) := by decide +kernel
theorem d3 : decode yB 3 = .ok (.astore_n 3, 1) := by decide +kernel
theorem d4 : decode yB 4 = .ok (.aload_n 0, 1) := by decide +kernel
theorem d5 : decode yB 5 = .ok (.iload_n 1, 1) := by decide +kernel
theorem d6 : decode yB 6 = .ok (.aload_n 3, 1) := by decide +kernel
theorem d7 : decode yB 7 = .ok (.iconst 0, 1) := by decide +kernel
theorem d8 : decode yB 8 = .ok (.iload_n 2, 1) := by decide +kernel
theorem d9 : decode yB 9 = .ok (.invokestatic 115, 3) := by decide +kernel
theorem d12 : decode yB 12 = .ok (.istore 4, 2) := by decide +kernel
theorem d14 : decode yB 14 = .ok (.iload 4, 2) := by decide +kernel
theorem d16 : decode yB 16 = .ok (.iload_n 2, 1) := by decide +kernel
theorem d17 : decode yB 17 = .ok (.if_icmp (.eq) 40, 3) := by decide +kernel
theorem d57 : decode yB 57 = .ok (.aload_n 3, 1) := by decide +kernel
theorem d58 : decode yB 58 = .ok (.areturn, 1) := by decide +kernel
def site : List Cond := [.arrayClass .byte, Cmp5.tab] ++ staticW U16 115 Cmp5.yN
def tab : Cond := tabOf yN yB 6 (some (.array .byte)) site
def P (b : Addr) (A : Cell) (o len : Nat) (args : Array Value) (s : State) : Prop := args = #[.ref b, .int (Int32.ofNat o), .int (Int32.ofNat len)] ∧ Ch b A s ∧ o + len ≤ A.slots.size ∧ len ≤ 536870912 ∧ ∀ i, i < len → ¬ 255 < cv A (o + i)
def E (b : Addr) (A : Cell) (o len : Nat) (r : Option Value) (s u : State) : Prop := NewArr .byte "[B" len (fun j => .int (lo8 (cv A (o + j)))) r s u ∧ u.heap.size = s.heap.size + 1
/-- no char of the range above 255: a new byte[] of their low bytes -/
theorem law (l : Launch) (b : Addr) (A : Cell) (o len : Nat) : Law l yN 3 3 1 18 yB 6 (some (.array .byte)) site (P b A o len) (E b A o len) [] 1 len := by
  refine Law.of_walk (plainFor_of_name (by decide +kernel)) (by decide +kernel) (by decide +kernel) (by decide) (fun _ _ h => by rw [h.1]; rfl) (fun _ U U' hal hh h => ⟨h.1, h.2.1.mv hal hh, h.2.2⟩) (fun r U U' V V' h1 hal h2 h => ⟨NewArr.mv r U U' V V' h1 hal h2 h.1, by rw [h1, h2]; exact h.2⟩) ?_
  intro p e s m args below meth c s₁ X0 hexec hbytes hml hret hlk hnm hown hh0 W hP
  obtain ⟨rfl, hA, l1, l2, hp⟩ := hP
  have a31 := hA.1.2.2.2
  have c1 : Steps p.tables e below (s₁.setTop (entryFrame m #[.ref b, .int (Int32.ofNat o), .int (Int32.ofNat len)] 6)) (s₁.setTop (mkF m 0 #[.val (.ref b), .val (.int (Int32.ofNat o)), .val (.int (Int32.ofNat len)), .unset, .unset, .unset] [])) := entry rfl
  have c2 : Steps p.tables e below (s₁.setTop (entryFrame m #[.ref b, .int (Int32.ofNat o), .int (Int32.ofNat len)] 6)) (s₁.setTop (mkF m 1 #[.val (.ref b), .val (.int (Int32.ofNat o)), .val (.int (Int32.ofNat len)), .unset, .unset, .unset] [.int (Int32.ofNat len)])) := c1.trans (by
    refine XS.iloadN X0.here hexec rfl (hb hbytes d0) rfl ?_
    exact Steps.refl _)
  obtain ⟨T3, B3, X3, ba3, bs3, bv3, bh3, bf3, st3⟩ := X0.anew hexec (atype := .byte) (wk W (.arrayClass .byte)) rfl (by show len * 1 ≤ _; omega) (by omega) (g := (mkF m 1 #[.val (.ref b), .val (.int (Int32.ofNat o)), .val (.int (Int32.ofNat len)), .unset, .unset, .unset] [.int (Int32.ofNat len)])) rfl (hb hbytes d1) (rest := []) rfl (Nat.le_refl _) (by show 0 + len ≤ len; omega)
  rw [hh0] at ba3 st3
  have kp3 : XT.Kept s T3 := (XT.Kept.of_eq hh0).push bh3
  have hA3 := hA.keep X3.warmed.alike (kp3 _ _ hA.1.1)
  have hne : b ≠ s.heap.size := hA.1.ne
  have c4 : Steps p.tables e below (s₁.setTop (entryFrame m #[.ref b, .int (Int32.ofNat o), .int (Int32.ofNat len)] 6)) (T3.setTop (mkF m 3 #[.val (.ref b), .val (.int (Int32.ofNat o)), .val (.int (Int32.ofNat len)), .unset, .unset, .unset] [.ref s.heap.size])) := c2.trans (st3 _ (Steps.refl _))
  have c5 : Steps p.tables e below (s₁.setTop (entryFrame m #[.ref b, .int (Int32.ofNat o), .int (Int32.ofNat len)] 6)) (T3.setTop (mkF m 9 #[.val (.ref b), .val (.int (Int32.ofNat o)), .val (.int (Int32.ofNat len)), .val (.ref s.heap.size), .unset, .unset] [.int (Int32.ofNat len), .int 0, .ref s.heap.size, .int (Int32.ofNat o), .ref b])) := c4.trans (by
    refine XS.astoreN X3.here hexec rfl (hb hbytes d3) rfl rfl rfl ?_
    refine XS.aloadN X3.here hexec rfl (hb hbytes d4) rfl rfl ?_
    refine XS.iloadN X3.here hexec rfl (hb hbytes d5) rfl ?_
    refine XS.aloadN X3.here hexec rfl (hb hbytes d6) rfl rfl ?_
    refine iconstV X3.here hexec rfl 0 (hb hbytes d7) (by decide) ?_
    refine XS.iloadN X3.here hexec rfl (hb hbytes d8) rfl ?_
    exact Steps.refl _)
  obtain ⟨v6, T6, X6, E6, g6⟩ := X3.callS hexec (Cmp5.law l b A s.heap.size B3 o 0 len) hown (wks W (staticW U16 115 Cmp5.yN)) (wk W Cmp5.tab) (W := 0) (Nat.le_of_ble_eq_true rfl) (Nat.le_of_ble_eq_true rfl) (Nat.le_refl _) (by show 0 + len + 0 ≤ len; omega) (g := (mkF m 9 #[.val (.ref b), .val (.int (Int32.ofNat o)), .val (.int (Int32.ofNat len)), .val (.ref s.heap.size), .unset, .unset] [.int (Int32.ofNat len), .int (Int32.ofNat 0), .ref s.heap.size, .int (Int32.ofNat o), .ref b])) rfl (by rw [hml]; rfl) c5 (argsL := [.ref b, .int (Int32.ofNat o), .ref s.heap.size, .int (Int32.ofNat 0), .int (Int32.ofNat len)]) (rest := []) rfl rfl (by show 2 * 0 + 0 ≤ _; decide) (hb hbytes d9) (⟨rfl, hA3, ba3, hne, l1, by rw [bs3]; simp, hp⟩)
  obtain ⟨rfl, B6, p6, f6⟩ := E6
  have c7 : Steps p.tables e below (s₁.setTop (entryFrame m #[.ref b, .int (Int32.ofNat o), .int (Int32.ofNat len)] 6)) (T6.setTop (mkF m 12 #[.val (.ref b), .val (.int (Int32.ofNat o)), .val (.int (Int32.ofNat len)), .val (.ref s.heap.size), .unset, .unset] [.int (Int32.ofNat len)])) := g6
  have c8 : Steps p.tables e below (s₁.setTop (entryFrame m #[.ref b, .int (Int32.ofNat o), .int (Int32.ofNat len)] 6)) (T6.setTop (mkF m 58 #[.val (.ref b), .val (.int (Int32.ofNat o)), .val (.int (Int32.ofNat len)), .val (.ref s.heap.size), .val (.int (Int32.ofNat len)), .unset] [.ref s.heap.size])) := c7.trans (by
    refine XS.istore X6.here hexec rfl (hb hbytes d12) rfl rfl ?_
    refine XS.iload X6.here hexec rfl (hb hbytes d14) rfl ?_
    refine XS.iloadN X6.here hexec rfl (hb hbytes d16) rfl ?_
    refine XS.icmpYes X6.here hexec rfl (pc0 := 17) rfl (hb hbytes d17) rfl (ii_eq_t rfl) (by decide) rfl ?_
    refine XS.aloadN X6.here hexec rfl (hb hbytes d57) rfl rfl ?_
    exact Steps.refl _)
  have X8 := X6.wide (L' := []) (cells' := 1) (slots' := len) (fun x hx hlt => by
    simp only [List.nil_append, copyLocs, List.mem_map, List.mem_range] at hx
    obtain ⟨i, -, rfl⟩ := hx
    exact absurd hlt (Nat.lt_irrefl _)) (Nat.le_refl _) (by omega)
  exact ⟨T6, some (.ref s.heap.size), _, _, _, X8, rfl, rfl, rfl, (fun h => by cases h), ⟨⟨rfl, B6, ba3.like (X3.warmed.alike.symm.trans X6.warmed.alike) p6.1 f6.1 f6.2.1 f6.2.2.1, f6.2.1.trans bv3, by rw [X6.warmed.alike.findClass, f6.1]; exact bf3, by rw [f6.2.2.1, bs3]; simp, fun j hj => by rw [f6.2.2.2 j, if_pos (by omega)]; rfl, kp3.put p6 (Nat.le_refl _)⟩, by rw [p6.2.2, bh3, hh0]; simp⟩, fun fs hl => c8.trans (X8.areturnOut hexec rfl hret rfl (hb hbytes d58) hl)⟩
end Cmp3
namespace CodL
def yN : MethodName := ⟨"java/lang/StringUTF16", "coderFromArrayLen", "([BI)B"⟩
abbrev yB : ByteArray := jdk_52_method_15_code
theorem d0 : decode yB 0 = .ok (.iload_n 1, 1) := by decide +kernel
theorem d1 : decode yB 1 = .ok (.aload_n 0, 1) := by decide +kernel
theorem d2 : decode yB 2 = .ok (.arraylength, 1) := by decide +kernel
theorem d3 : decode yB 3 = .ok (.isub, 1) := by decide +kernel
theorem d4 : decode yB 4 = .ok (.bipush 31, 2) := by decide +kernel
theorem d6 : decode yB 6 = .ok (.iushr, 1) := by decide +kernel
theorem d7 : decode yB 7 = .ok (.i2b, 1) := by decide +kernel
theorem d8 : decode yB 8 = .ok (.ireturn, 1) := by decide +kernel
def site : List Cond := []
def tab : Cond := tabOf yN yB 2 (some .byte) site
def P (d : Addr) (B : Cell) (args : Array Value) (s : State) : Prop := args = #[.ref d, .int (Int32.ofNat B.slots.size)] ∧ Arr .byte d B s
def E (r : Option Value) (s u : State) : Prop := XT.PureE (some (.int 0)) r s u
/-- an array as long as the number of chars: LATIN1 -/
theorem law (l : Launch) (d : Addr) (B : Cell) : Law l yN 2 2 0 0 yB 2 (some .byte) site (P d B) E [] 0 0 := by
  refine Law.of_walk (plainFor_of_name (by decide +kernel)) (by decide +kernel) (by decide +kernel) (by decide) (fun _ _ h => by rw [h.1]; rfl) (fun _ U U' hal hh h => ⟨h.1, h.2.mv hal hh⟩) (fun r U U' V V' h1 hal h2 h => XT.PureE.mv r U U' V V' h1 hal h2 h) ?_
  intro p e s m args below meth c s₁ X0 hexec hbytes hml hret hlk hnm hown hh0 W hP
  obtain ⟨rfl, hB⟩ := hP
  have hB0 := hB.mv X0.warmed.alike hh0
  have c1 : Steps p.tables e below (s₁.setTop (entryFrame m #[.ref d, .int (Int32.ofNat B.slots.size)] 2)) (s₁.setTop (mkF m 0 #[.val (.ref d), .val (.int (Int32.ofNat B.slots.size))] [])) := entry rfl
  have c2 : Steps p.tables e below (s₁.setTop (entryFrame m #[.ref d, .int (Int32.ofNat B.slots.size)] 2)) (s₁.setTop (mkF m 2 #[.val (.ref d), .val (.int (Int32.ofNat B.slots.size))] [.ref d, .int (Int32.ofNat B.slots.size)])) := c1.trans (by
    refine XS.iloadN X0.here hexec rfl (hb hbytes d0) rfl ?_
    refine XS.aloadN X0.here hexec rfl (hb hbytes d1) rfl rfl ?_
    exact Steps.refl _)
  have c3 : Steps p.tables e below (s₁.setTop (entryFrame m #[.ref d, .int (Int32.ofNat B.slots.size)] 2)) (s₁.setTop (mkF m 8 #[.val (.ref d), .val (.int (Int32.ofNat B.slots.size))] [.int (lo8 (ushr (Int32.ofNat B.slots.size - Int32.ofNat B.slots.size) 31))])) := c2.trans (by
    refine X0.alen hexec hB0 rfl rfl (hb hbytes d2) ?_
    refine XS.isub X0.here hexec rfl (hb hbytes d3) rfl ?_
    refine bipushV X0.here hexec rfl 31 (hb hbytes d4) (by decide) ?_
    refine iushr X0.here hexec rfl (hb hbytes d6) rfl ?_
    refine i2b X0.here hexec rfl (hb hbytes d7) rfl ?_
    exact Steps.refl _)
  have e0 : lo8 (ushr (Int32.ofNat B.slots.size - Int32.ofNat B.slots.size) 31) = 0 := by rw [Int32.sub_self]; decide
  rw [e0] at c3
  exact ⟨s₁, some (.int 0), _, _, _, X0, rfl, rfl, rfl, (fun h => by cases h), ⟨rfl, hh0⟩, fun fs hl => c3.trans (X0.ireturnOut hexec hret rfl (Or.inr (Or.inr (Or.inl rfl))) (hb hbytes d8) hl)⟩
end CodL
/-- the String at a is Latin-1 over a new byte[] (the heap's one new cell): the low bytes of the len chars of A from o on; every cell but a is kept -/
def Got (a : Addr) (D : Cell) (fV fC : Field) (A : Cell) (o len : Nat) (r : Option Value) (s u : State) : Prop := r = none ∧ ∃ D' V : Cell, Blank "java/lang/String" a D' u ∧ Same D D' [fV.slot, fC.slot] ∧ D'.slots[fV.slot]? = some (.ref s.heap.size) ∧ D'.slots[fC.slot]? = some (.int 0) ∧ Arr .byte s.heap.size V u ∧ V.vm = .none ∧ u.vm.findClass "[B" = some V.cls ∧ V.slots.size = len ∧ (∀ j, j < len → V.slots[j]? = some (.int (lo8 (cv A (o + j))))) ∧ (∀ (y : Addr) (c : Cell), y ≠ a → s.heap[y]? = some c → u.heap[y]? = some c) ∧ u.heap.size = s.heap.size + 1
theorem Got.mv {a : Addr} {D A : Cell} {fV fC : Field} {o len : Nat} : ∀ r (U U' V V' : State), U'.heap = U.heap → V.vm.Alike V'.vm → V'.heap = V.heap → Got a D fV fC A o len r U V → Got a D fV fC A o len r U' V' :=
  fun r U U' V V' h1 hal h2 ⟨e0, D', X, a1, a2, a3, a4, a5, a6, a7, a8, a9, a10, a11⟩ => ⟨e0, D', X, a1.mv hal h2, a2, by rw [h1]; exact a3, a4, by rw [h1]; exact a5.mv hal h2, a6, by rw [hal.findClass]; exact a7, a8, a9, by rw [h1, h2]; exact a10, by rw [h1, h2]; exact a11⟩
namespace New4
def yN : MethodName := ⟨"java/lang/String", "<init>", "([CIILjava/lang/Void;)V"⟩
abbrev yB : ByteArray := jdk_42_method_149_code
theorem d0 : decode yB 0 = .ok (.aload_n 0, 1) := by decide +kernel
theorem d1 : decode yB 1 = .ok (.invokespecial 1, 3) := by decide +kernel
theorem d4 : decode yB 4 = .ok (.iload_n 3, 1) := by decide +kernel
theorem d5 : decode yB 5 = .ok (.ifCond (.ne) 22, 3) := by decide +kernel
theorem d27 : decode yB 27 = .ok (.getstatic 38, 3) := by decide +kernel
theorem d30 : decode yB 30 = .ok (.ifCond (.eq) 28, 3) := by decide +kernel
theorem d33 : decode yB 33 = .ok (.aload_n 1, 1) := by decide +kernel
theorem d34 : decode yB 34 = .ok (.iload_n 2, 1) := by decide +kernel
theorem d35 : decode yB 35 = .ok (.iload_n 3, 1) := by decide +kernel
theorem d36 : decode yB 36 = .ok (.invokestatic 177, 3) := by decide +kernel
theorem d39 : decode yB 39 = .ok (.astore 5, 2) := by decide +kernel
theorem d41 : decode yB 41 = .ok (.aload_n 0, 1) := by decide +kernel
theorem d42 : decode yB 42 = .ok (.aload 5, 2) := by decide +kernel
theorem d44 : decode yB 44 = .ok (.iload_n 3, 1) := by decide +kernel
theorem d45 : decode yB 45 = .ok (.invokestatic 47, 3) := by decide +kernel
theorem d48 : decode yB 48 = .ok (.putfield 15, 3) := by decide +kernel
theorem d51 : decode yB 51 = .ok (.aload_n 0, 1) := by decide +kernel
theorem d52 : decode yB 52 = .ok (.aload 5, 2) := by decide +kernel
theorem d54 : decode yB 54 = .ok (.putfield 9, 3) := by decide +kernel
theorem d57 : decode yB 57 = .ok (.return_, 1) := by decide +kernel
def site : List Cond := [.fieldLink "java/lang/String" 38 "java/lang/String" "COMPACT_STRINGS" "Z", Cmp3.tab, CodL.tab, .laysFinal "java/lang/String" "java/lang/String" "value" "[B", .fieldLink "java/lang/String" 9 "java/lang/String" "value" "[B", .laysFinal "java/lang/String" "java/lang/String" "coder" "B", .fieldLink "java/lang/String" 15 "java/lang/String" "coder" "B"] ++ objW "java/lang/String" 1 ++ staticW "java/lang/String" 177 Cmp3.yN ++ staticW "java/lang/String" 47 CodL.yN
def tab : Cond := tabOf yN yB 6 none site
def P (a : Addr) (D : Cell) (fV fC : Field) (b : Addr) (A : Cell) (z : Int32) (o len : Nat) (args : Array Value) (s : State) : Prop := args = #[.ref a, .ref b, .int (Int32.ofNat o), .int (Int32.ofNat len), .null] ∧ Blank "java/lang/String" a D s ∧ Found "java/lang/String" "value" "[B" fV s ∧ Found "java/lang/String" "coder" "B" fC s ∧ Ch b A s ∧ StaticIs s "java/lang/String" "COMPACT_STRINGS" "Z" (.int z) ∧ ¬ z = 0 ∧ 0 < len ∧ o + len ≤ A.slots.size ∧ len ≤ 536870912 ∧ ∀ i, i < len → ¬ 255 < cv A (o + i)
def E (a : Addr) (D : Cell) (fV fC : Field) (A : Cell) (o len : Nat) (r : Option Value) (s u : State) : Prop := Got a D fV fC A o len r s u
/-- len > 0, no char of the range above 255: a Latin-1 String of their low bytes -/
theorem law (l : Launch) (a : Addr) (D : Cell) (fV fC : Field) (b : Addr) (A : Cell) (z : Int32) (o len : Nat) : Law l yN 5 4 2 35 yB 6 none site (P a D fV fC b A z o len) (E a D fV fC A o len) [⟨a, fC.slot⟩, ⟨a, fV.slot⟩] 1 len := by
  refine Law.of_walk (plainFor_of_name (by decide +kernel)) (by decide +kernel) (by decide +kernel) (by decide) (fun _ _ h => by rw [h.1]; rfl) (fun _ U U' hal hh h => ⟨h.1, h.2.1.mv hal hh, h.2.2.1.al hal, h.2.2.2.1.al hal, h.2.2.2.2.1.mv hal hh, h.2.2.2.2.2.1.there hal hh, h.2.2.2.2.2.2⟩) (fun r U U' V V' h1 hal h2 h => Got.mv r U U' V V' h1 hal h2 h) ?_
  intro p e s m args below meth c s₁ X0 hexec hbytes hml hret hlk hnm hown hh0 W hP
  obtain ⟨rfl, hB, f1, f2, hA, s1, hz, l0, l1, l2, hp⟩ := hP
  have a31 := hA.1.2.2.2
  have c1 : Steps p.tables e below (s₁.setTop (entryFrame m #[.ref a, .ref b, .int (Int32.ofNat o), .int (Int32.ofNat len), .null] 6)) (s₁.setTop (mkF m 0 #[.val (.ref a), .val (.ref b), .val (.int (Int32.ofNat o)), .val (.int (Int32.ofNat len)), .val .null, .unset] [])) := entry rfl
  have c2 : Steps p.tables e below (s₁.setTop (entryFrame m #[.ref a, .ref b, .int (Int32.ofNat o), .int (Int32.ofNat len), .null] 6)) (s₁.setTop (mkF m 1 #[.val (.ref a), .val (.ref b), .val (.int (Int32.ofNat o)), .val (.int (Int32.ofNat len)), .val .null, .unset] [.ref a])) := c1.trans (by
    refine XS.aloadN X0.here hexec rfl (hb hbytes d0) rfl rfl ?_
    exact Steps.refl _)
  obtain ⟨T3, X3, q3, st3⟩ := X0.oinit hexec hown (wks W (objW "java/lang/String" 1)) (g := (mkF m 1 #[.val (.ref a), .val (.ref b), .val (.int (Int32.ofNat o)), .val (.int (Int32.ofNat len)), .val .null, .unset] [.ref a])) rfl (by rw [hml]; rfl) (rest := []) rfl (hb hbytes d1) (W := 0) (by show 2 * 0 + 0 ≤ _; decide) (Nat.le_of_ble_eq_true rfl) (Nat.le_of_ble_eq_true rfl)
  have hh3 := q3.trans hh0
  have c4 : Steps p.tables e below (s₁.setTop (entryFrame m #[.ref a, .ref b, .int (Int32.ofNat o), .int (Int32.ofNat len), .null] 6)) (T3.setTop (mkF m 27 #[.val (.ref a), .val (.ref b), .val (.int (Int32.ofNat o)), .val (.int (Int32.ofNat len)), .val .null, .unset] [])) := (c2.trans (st3 _ (Steps.refl _))).trans (by
    refine XS.iloadN X3.here hexec rfl (hb hbytes d4) rfl ?_
    refine XS.ifYes X3.here hexec rfl (pc0 := 5) rfl (hb hbytes d5) rfl (i0_ne_t (nz32 (by omega) l0)) (by decide) rfl ?_
    exact Steps.refl _)
  obtain ⟨T5, X5, q5, st5⟩ := X3.sget hexec hown (wk W (.fieldLink "java/lang/String" 38 "java/lang/String" "COMPACT_STRINGS" "Z")) s1 (fun _ _ h => by rw [hh3]; exact h) (g := (mkF m 27 #[.val (.ref a), .val (.ref b), .val (.int (Int32.ofNat o)), .val (.int (Int32.ofNat len)), .val .null, .unset] [])) rfl (hb hbytes d27)
  have hh5 := q5.trans hh3
  have c6 : Steps p.tables e below (s₁.setTop (entryFrame m #[.ref a, .ref b, .int (Int32.ofNat o), .int (Int32.ofNat len), .null] 6)) (T5.setTop (mkF m 30 #[.val (.ref a), .val (.ref b), .val (.int (Int32.ofNat o)), .val (.int (Int32.ofNat len)), .val .null, .unset] [.int z])) := c4.trans (st5 _ (Steps.refl _))
  have c7 : Steps p.tables e below (s₁.setTop (entryFrame m #[.ref a, .ref b, .int (Int32.ofNat o), .int (Int32.ofNat len), .null] 6)) (T5.setTop (mkF m 36 #[.val (.ref a), .val (.ref b), .val (.int (Int32.ofNat o)), .val (.int (Int32.ofNat len)), .val .null, .unset] [.int (Int32.ofNat len), .int (Int32.ofNat o), .ref b])) := c6.trans (by
    refine XS.ifNo X5.here hexec rfl (hb hbytes d30) rfl (i0_eq_f hz) ?_
    refine XS.aloadN X5.here hexec rfl (hb hbytes d33) rfl rfl ?_
    refine XS.iloadN X5.here hexec rfl (hb hbytes d34) rfl ?_
    refine XS.iloadN X5.here hexec rfl (hb hbytes d35) rfl ?_
    exact Steps.refl _)
  obtain ⟨v8, T8, X8, E8, g8⟩ := X5.callS hexec (Cmp3.law l b A o len) hown (wks W (staticW "java/lang/String" 177 Cmp3.yN)) (wk W Cmp3.tab) (W := 0) (Nat.le_of_ble_eq_true rfl) (Nat.le_of_ble_eq_true rfl) (Nat.le_refl _) (by show 0 + len ≤ len; omega) (g := (mkF m 36 #[.val (.ref a), .val (.ref b), .val (.int (Int32.ofNat o)), .val (.int (Int32.ofNat len)), .val .null, .unset] [.int (Int32.ofNat len), .int (Int32.ofNat o), .ref b])) rfl (by rw [hml]; rfl) c7 (argsL := [.ref b, .int (Int32.ofNat o), .int (Int32.ofNat len)]) (rest := []) rfl rfl (by show 2 * 0 + 0 ≤ _; decide) (hb hbytes d36) (⟨rfl, hA.mv X5.warmed.alike hh5, l1, l2, hp⟩)
  obtain ⟨e8, z8⟩ := E8
  obtain ⟨rfl, N, n1, n2, n3, n4, n5, n6⟩ := NewArr.mv _ T5 s _ _ hh5.symm (Vm.Alike.refl _) rfl e8
  rw [hh5] at z8
  have hB1 := hB.keep X8.warmed.alike (n6 _ _ hB.1)
  have hne : s.heap.size ≠ a := (Nat.ne_of_lt (Array.getElem?_eq_some_iff.mp hB.1).1).symm
  have c9 : Steps p.tables e below (s₁.setTop (entryFrame m #[.ref a, .ref b, .int (Int32.ofNat o), .int (Int32.ofNat len), .null] 6)) (T8.setTop (mkF m 39 #[.val (.ref a), .val (.ref b), .val (.int (Int32.ofNat o)), .val (.int (Int32.ofNat len)), .val .null, .unset] [.ref s.heap.size])) := g8
  have c10 : Steps p.tables e below (s₁.setTop (entryFrame m #[.ref a, .ref b, .int (Int32.ofNat o), .int (Int32.ofNat len), .null] 6)) (T8.setTop (mkF m 45 #[.val (.ref a), .val (.ref b), .val (.int (Int32.ofNat o)), .val (.int (Int32.ofNat len)), .val .null, .val (.ref s.heap.size)] [.int (Int32.ofNat N.slots.size), .ref s.heap.size, .ref a])) := by
    have hc : Steps p.tables e below (s₁.setTop (entryFrame m #[.ref a, .ref b, .int (Int32.ofNat o), .int (Int32.ofNat len), .null] 6)) (T8.setTop (mkF m 45 #[.val (.ref a), .val (.ref b), .val (.int (Int32.ofNat o)), .val (.int (Int32.ofNat len)), .val .null, .val (.ref s.heap.size)] [.int (Int32.ofNat len), .ref s.heap.size, .ref a])) := c9.trans (by
      refine XS.astore X8.here hexec rfl (hb hbytes d39) rfl rfl rfl ?_
      refine XS.aloadN X8.here hexec rfl (hb hbytes d41) rfl rfl ?_
      refine XS.aload X8.here hexec rfl (hb hbytes d42) rfl rfl ?_
      refine XS.iloadN X8.here hexec rfl (hb hbytes d44) rfl ?_
      exact Steps.refl _)
    rw [n4]; exact hc
  obtain ⟨v11, T11, X11, E11, g11⟩ := X8.callS hexec (CodL.law l s.heap.size N) hown (wks W (staticW "java/lang/String" 47 CodL.yN)) (wk W CodL.tab) (W := 1) (Nat.le_of_ble_eq_true rfl) (Nat.le_of_ble_eq_true rfl) (Nat.le_refl _) (by show 0 + len + 0 ≤ len; omega) (g := (mkF m 45 #[.val (.ref a), .val (.ref b), .val (.int (Int32.ofNat o)), .val (.int (Int32.ofNat len)), .val .null, .val (.ref s.heap.size)] [.int (Int32.ofNat N.slots.size), .ref s.heap.size, .ref a])) rfl (by rw [hml]; rfl) c10 (argsL := [.ref s.heap.size, .int (Int32.ofNat N.slots.size)]) (rest := [.ref a]) rfl rfl (by show 2 * 0 + (1 + 0) ≤ _; decide) (hb hbytes d45) (⟨rfl, n1⟩)
  obtain ⟨rfl, q11⟩ := E11
  have hB11 := hB1.mv (X8.warmed.alike.symm.trans X11.warmed.alike) q11
  have c12 : Steps p.tables e below (s₁.setTop (entryFrame m #[.ref a, .ref b, .int (Int32.ofNat o), .int (Int32.ofNat len), .null] 6)) (T11.setTop (mkF m 48 #[.val (.ref a), .val (.ref b), .val (.int (Int32.ofNat o)), .val (.int (Int32.ofNat len)), .val .null, .val (.ref s.heap.size)] [.int 0, .ref a])) := g11
  obtain ⟨T13, X13, p13, bl13, sl13, st13⟩ := X11.finit hexec hown (wk W (.fieldLink "java/lang/String" 15 "java/lang/String" "coder" "B")) (Or.inr ⟨_, (wk W (.laysFinal "java/lang/String" "java/lang/String" "coder" "B"))⟩) (Or.inl ⟨rfl, hnm⟩) f2 (Or.inl rfl) hB11 (t := .byte) (by decide +kernel) rfl (g := (mkF m 48 #[.val (.ref a), .val (.ref b), .val (.int (Int32.ofNat o)), .val (.int (Int32.ofNat len)), .val .null, .val (.ref s.heap.size)] [.int 0, .ref a])) rfl (rest := []) rfl (hb hbytes d48)
  have c14 : Steps p.tables e below (s₁.setTop (entryFrame m #[.ref a, .ref b, .int (Int32.ofNat o), .int (Int32.ofNat len), .null] 6)) (T13.setTop (mkF m 54 #[.val (.ref a), .val (.ref b), .val (.int (Int32.ofNat o)), .val (.int (Int32.ofNat len)), .val .null, .val (.ref s.heap.size)] [.ref s.heap.size, .ref a])) := (c12.trans (st13 _ (Steps.refl _))).trans (by
    refine XS.aloadN X13.here hexec rfl (hb hbytes d51) rfl rfl ?_
    refine XS.aload X13.here hexec rfl (hb hbytes d52) rfl rfl ?_
    exact Steps.refl _)
  obtain ⟨T15, X15, p15, bl15, sl15, st15⟩ := X13.finit hexec hown (wk W (.fieldLink "java/lang/String" 9 "java/lang/String" "value" "[B")) (Or.inr ⟨_, (wk W (.laysFinal "java/lang/String" "java/lang/String" "value" "[B"))⟩) (Or.inl ⟨rfl, hnm⟩) f1 (Or.inl rfl) bl13 (t := (.array .byte)) (by decide +kernel) rfl (g := (mkF m 54 #[.val (.ref a), .val (.ref b), .val (.int (Int32.ofNat o)), .val (.int (Int32.ofNat len)), .val .null, .val (.ref s.heap.size)] [.ref s.heap.size, .ref a])) rfl (rest := []) rfl (hb hbytes d54)
  have c16 : Steps p.tables e below (s₁.setTop (entryFrame m #[.ref a, .ref b, .int (Int32.ofNat o), .int (Int32.ofNat len), .null] 6)) (T15.setTop (mkF m 57 #[.val (.ref a), .val (.ref b), .val (.int (Int32.ofNat o)), .val (.int (Int32.ofNat len)), .val .null, .val (.ref s.heap.size)] [])) := c14.trans (st15 _ (Steps.refl _))
  have ap := apart (Or.inr ⟨_, (wk W (.laysFinal "java/lang/String" "java/lang/String" "value" "[B"))⟩) (Or.inr ⟨_, (wk W (.laysFinal "java/lang/String" "java/lang/String" "coder" "B"))⟩) f1 f2 (t₁ := .array .byte) (t₂ := .byte) (by decide +kernel) (by decide +kernel) (by decide)
  have al := X8.warmed.alike.symm.trans X15.warmed.alike
  have n7 : T11.heap[s.heap.size]? = some N := by rw [q11]; exact n1.1
  exact ⟨T15, none, _, _, _, X15, by simp, rfl, by omega, (fun _ => rfl), ⟨rfl, _, N, bl15, ((Same.refl D _).set _ (by simp)).set _ (by simp), sl15, (Cell.slots_setSlot_ne _ ap).trans sl13, n1.keep al (p15.other hne (p13.other hne n7)), n2, by rw [al.findClass]; exact n3, n4, n5, fun y c h1 h2 => p15.other h1 (p13.other h1 (by rw [q11]; exact n6 y c h2)), by rw [p15.2.2, p13.2.2, q11]; exact z8⟩, fun fs hl => c16.trans (X15.returnOut hexec hret (hb hbytes d57) hl)⟩
end New4
namespace New1
def yN : MethodName := ⟨"java/lang/String", "<init>", "([C)V"⟩
abbrev yB : ByteArray := jdk_42_method_3_code
theorem d0 : decode yB 0 = .ok (.aload_n 0, 1) := by decide +kernel
theorem d1 : decode yB 1 = .ok (.aload_n 1, 1) := by decide +kernel
theorem d2 : decode yB 2 = .ok (.iconst 0, 1) := by decide +kernel
theorem d3 : decode yB 3 = .ok (.aload_n 1, 1) := by decide +kernel
theorem d4 : decode yB 4 = .ok (.arraylength, 1) := by decide +kernel
theorem d5 : decode yB 5 = .ok (.aconst_null, 1) := by decide +kernel
theorem d6 : decode yB 6 = .ok (.invokespecial 27, 3) := by decide +kernel
theorem d9 : decode yB 9 = .ok (.return_, 1) := by decide +kernel
def site : List Cond := [New4.tab] ++ initW "java/lang/String" 27 New4.yN
def tab : Cond := tabOf yN yB 2 none site
def P (a : Addr) (D : Cell) (fV fC : Field) (b : Addr) (A : Cell) (z : Int32) (args : Array Value) (s : State) : Prop := args = #[.ref a, .ref b] ∧ Blank "java/lang/String" a D s ∧ Found "java/lang/String" "value" "[B" fV s ∧ Found "java/lang/String" "coder" "B" fC s ∧ Ch b A s ∧ StaticIs s "java/lang/String" "COMPACT_STRINGS" "Z" (.int z) ∧ ¬ z = 0 ∧ 0 < A.slots.size ∧ A.slots.size ≤ 536870912 ∧ ∀ i, i < A.slots.size → ¬ 255 < cv A i
def E (a : Addr) (D : Cell) (fV fC : Field) (A : Cell) (r : Option Value) (s u : State) : Prop := Got a D fV fC A 0 A.slots.size r s u
/-- new String(chars), not empty, no char above 255: a Latin-1 String of their low bytes -/
theorem law (l : Launch) (a : Addr) (D : Cell) (fV fC : Field) (b : Addr) (A : Cell) (z : Int32) : Law l yN 2 1 3 52 yB 2 none site (P a D fV fC b A z) (E a D fV fC A) [⟨a, fC.slot⟩, ⟨a, fV.slot⟩] 1 A.slots.size := by
  refine Law.of_walk (plainFor_of_name (by decide +kernel)) (by decide +kernel) (by decide +kernel) (by decide) (fun _ _ h => by rw [h.1]; rfl) (fun _ U U' hal hh h => ⟨h.1, h.2.1.mv hal hh, h.2.2.1.al hal, h.2.2.2.1.al hal, h.2.2.2.2.1.mv hal hh, h.2.2.2.2.2.1.there hal hh, h.2.2.2.2.2.2⟩) (fun r U U' V V' h1 hal h2 h => Got.mv r U U' V V' h1 hal h2 h) ?_
  intro p e s m args below meth c s₁ X0 hexec hbytes hml hret hlk hnm hown hh0 W hP
  obtain ⟨rfl, hB, f1, f2, hA, s1, hz, l0, l2, hp⟩ := hP
  have c1 : Steps p.tables e below (s₁.setTop (entryFrame m #[.ref a, .ref b] 2)) (s₁.setTop (mkF m 0 #[.val (.ref a), .val (.ref b)] [])) := entry rfl
  have c2 : Steps p.tables e below (s₁.setTop (entryFrame m #[.ref a, .ref b] 2)) (s₁.setTop (mkF m 6 #[.val (.ref a), .val (.ref b)] [.null, .int (Int32.ofNat A.slots.size), .int 0, .ref b, .ref a])) := c1.trans (by
    refine XS.aloadN X0.here hexec rfl (hb hbytes d0) rfl rfl ?_
    refine XS.aloadN X0.here hexec rfl (hb hbytes d1) rfl rfl ?_
    refine iconstV X0.here hexec rfl 0 (hb hbytes d2) (by decide) ?_
    refine XS.aloadN X0.here hexec rfl (hb hbytes d3) rfl rfl ?_
    refine X0.alen hexec (hA.1.mv X0.warmed.alike hh0) rfl rfl (hb hbytes d4) ?_
    refine XS.aconstNull X0.here hexec rfl (hb hbytes d5) ?_
    exact Steps.refl _)
  obtain ⟨v3, T3, X3, E3, g3⟩ := X0.callN hexec (New4.law l a D fV fC b A z 0 A.slots.size) rfl hown (wks W (initW "java/lang/String" 27 New4.yN)) (W New4.tab (by simp only [site, List.mem_cons, List.mem_append, true_or, or_true])) (W := 0) (Nat.le_of_ble_eq_true rfl) (Nat.le_of_ble_eq_true rfl) (Nat.le_refl _) (by show 0 + A.slots.size ≤ A.slots.size; omega) (g := (mkF m 6 #[.val (.ref a), .val (.ref b)] [.null, .int (Int32.ofNat A.slots.size), .int (Int32.ofNat 0), .ref b, .ref a])) rfl (by rw [hml]; rfl) c2 (argsL := [.ref b, .int (Int32.ofNat 0), .int (Int32.ofNat A.slots.size), .null]) (rest := []) rfl rfl (by show 2 * 0 + 0 ≤ _; decide) (hb hbytes d6) (⟨rfl, hB.mv X0.warmed.alike hh0, f1.al X0.warmed.alike, f2.al X0.warmed.alike, hA.mv X0.warmed.alike hh0, s1.there X0.warmed.alike hh0, hz, l0, by omega, l2, fun i hi => by rw [Nat.zero_add]; exact hp i hi⟩)
  have e0 := Got.mv _ s₁ s _ _ hh0.symm (Vm.Alike.refl _) rfl E3
  obtain rfl := e0.1
  have c4 : Steps p.tables e below (s₁.setTop (entryFrame m #[.ref a, .ref b] 2)) (T3.setTop (mkF m 9 #[.val (.ref a), .val (.ref b)] [])) := g3
  exact ⟨T3, none, _, _, _, X3, by simp, rfl, by omega, (fun _ => rfl), e0, fun fs hl => c4.trans (X3.returnOut hexec hret (hb hbytes d9) hl)⟩
theorem pays {l : Launch} {R : Room} {p : Program} {e : Env} {below : List Frame} {s : State} {sargs : Array Value} {len W : Nat} (a : Addr) (D : Cell) (fV fC : Field) (b : Addr) (A : Cell) (z : Int32) (htab : tab.before sargs s = true) (hfr : 4 ≤ R.frames) (hlo : W + 65 ≤ R.locals) :
    Back l R p e below s sargs yN len W (fun A₁ a₁ => A₁.cells + 1 ≤ R.cells ∧ A₁.slots + A.slots.size ≤ R.slots ∧ P a D fV fC b A z a₁ A₁.U) (fun A₁ _ v₁ B₁ => E a D fV fC A v₁ A₁.U B₁.U ∧ B₁.locs = A₁.locs ++ [⟨a, fC.slot⟩, ⟨a, fV.slot⟩] ∧ B₁.cells = A₁.cells + 1 ∧ B₁.slots = A₁.slots + A.slots.size) :=
  (law l a D fV fC b A z).pays htab hfr (by omega)
end New1
/-- the byte, read back as charAt reads it, is the char -/
theorem lo8_mask {x : Int32} (h0 : ¬ x < 0) (h1 : ¬ 255 < x) : lo8 x &&& 255 = x := by
  have t : ∀ k : Fin 256, lo8 (Int32.ofNat k.val) &&& 255 = Int32.ofNat k.val := by decide +kernel
  rw [Int32.lt_iff_toInt_lt] at h0 h1
  have e0 : (0 : Int32).toInt = 0 := rfl
  have e1 : (255 : Int32).toInt = 255 := rfl
  obtain ⟨k, hk⟩ : ∃ k : Nat, x.toInt = k := ⟨x.toInt.toNat, by omega⟩
  have hx : x = Int32.ofNat k := Int32.toInt_inj.mp (by rw [hk, Int32.toInt_ofNat_small (by omega)])
  rw [hx]
  exact t ⟨k, by omega⟩
end StrChars
namespace StrChars.Road
open Jvm Sem ClassFile Op Lib Jvm.Stand Jvm.Free Jvm.Free.XT
open Jvm.Lib.Cold (StaticIs)
abbrev ST : String := "java/lang/String"
/-- every table word that New1's law asks, flat -/
abbrev words : List Jvm.Cond := [.code New1.yN New1.yB 2 none, .initialized ST, .methodLink ST 27 New4.yN, .instanceMethod New4.yN,
  .code New4.yN New4.yB 6 none, .fieldLink ST 38 ST "COMPACT_STRINGS" "Z", .laysFinal ST ST "value" "[B", .fieldLink ST 9 ST "value" "[B", .laysFinal ST ST "coder" "B", .fieldLink ST 15 ST "coder" "B",
  .methodLink ST 1 Lib.objectInit, .instanceMethod Lib.objectInit, .code Lib.objectInit object_method_1_code 1 none, .methodLink ST 177 Cmp3.yN, .static Cmp3.yN, .methodLink ST 47 CodL.yN, .static CodL.yN,
  .code Cmp3.yN Cmp3.yB 6 (some (.array .byte)), .initialized U16, .arrayClass .byte, .methodLink U16 115 Cmp5.yN, .static Cmp5.yN, .code Cmp5.yN Cmp5.yB 7 (some .int), .code CodL.yN CodL.yB 2 (some .byte)]
theorem tab_of {a : Array Value} {s : State} (h : ∀ w ∈ words, w.before a s = true) : New1.tab.before a s = true := by
  have h5 : Cmp5.tab.before a s = true := unparts (wk h (.code Cmp5.yN Cmp5.yB 7 (some .int))) (wks h (.initialized Cmp5.yN.cls :: Cmp5.site))
  have hc : CodL.tab.before a s = true := unparts (wk h (.code CodL.yN CodL.yB 2 (some .byte))) (wks h (.initialized CodL.yN.cls :: CodL.site))
  have q5 : ∀ w ∈ Cmp5.tab :: words, w.before a s = true := fun w hw => (List.mem_cons.mp hw).elim (fun e => e ▸ h5) (h w)
  have h3 : Cmp3.tab.before a s = true := unparts (wk q5 (.code Cmp3.yN Cmp3.yB 6 (some (.array .byte)))) (wks q5 (.initialized Cmp3.yN.cls :: Cmp3.site))
  have q3 : ∀ w ∈ Cmp3.tab :: CodL.tab :: words, w.before a s = true := fun w hw => (List.mem_cons.mp hw).elim (fun e => e ▸ h3) fun hw => (List.mem_cons.mp hw).elim (fun e => e ▸ hc) (h w)
  have h4 : New4.tab.before a s = true := unparts (wk q3 (.code New4.yN New4.yB 6 none)) (wks q3 (.initialized New4.yN.cls :: New4.site))
  have q4 : ∀ w ∈ New4.tab :: words, w.before a s = true := fun w hw => (List.mem_cons.mp hw).elim (fun e => e ▸ h4) (h w)
  exact unparts (wk q4 (.code New1.yN New1.yB 2 none)) (wks q4 (.initialized New1.yN.cls :: New1.site))
/-- the words ride from the start Z to the walk's own state -/
theorem moved {Z s : State} {a0 args : Array Value} (hZ : Z.Warmed39 s.vm) (hw : ∀ d ∈ words, d.before a0 Z = true) : ∀ d ∈ words, d.before args s = true := fun d hd => by
  have q := hw d hd
  have t : ∀ d ∈ words, d = .arrayClass .byte ∨ (d.onTables && d.keepsFace) = true := by decide +kernel
  rcases t d hd with rfl | t
  · exact RoadKit.mvA hZ q
  · exact RoadKit.mv hZ q t
/-- WHAT COMES BACK, over the tables of the start Z: h the heap at the call, h' behind it -/
def Q (Z : State) (x : Addr) (A : Cell) (h : Heap) (v : Option Value) (h' : Heap) (L : List Loc) : Prop := v = none ∧ (∀ y ∈ L, y.base = x) ∧ RoadKit.Keep h h' [x] ∧ h'.size = h.size + 1 ∧ RoadKit.Exa Z h' x ST ∧ RoadKit.Fld Z h' x ST "value" "[B" (.ref h.size) ∧ RoadKit.Fld Z h' x ST "coder" "B" (.int 0) ∧
  (∃ V : Cell, RoadKit.Arr Z h' h.size V .byte ∧ V.vm = .none ∧ Z.vm.findClass "[B" = some V.cls ∧ V.slots.size = A.slots.size ∧ ∀ j, j < A.slots.size → V.slots[j]? = some (.int (lo8 (cv A j)))) ∧
  ∀ (O n d : String) (w : Value), RoadKit.Fld Z h x O n d w → RoadKit.slotOf Z O n d ≠ RoadKit.slotOf Z ST "value" "[B" → RoadKit.slotOf Z O n d ≠ RoadKit.slotOf Z ST "coder" "B" → RoadKit.Fld Z h' x O n d w
/-- **new String(chars) AT A CALL, IN THE ROAD'S FORM**: for specialBack behind newO: x the fresh String, b the char[] with the cell A -/
theorem back {p : Program} {l : Launch} {e : Env} {R : Room} {s : State} {args : Array Value} {below : List Frame} {len W : Nat} {Z : State} {a0 : Array Value} {h : Heap} (hZ : Z.Warmed39 s.vm) (hw : ∀ d ∈ words, d.before a0 Z = true) {kI : Nat} (wi : (Jvm.Cond.instantiable ST kI).before a0 Z = true)
    {x b : Addr} {A : Cell} {z : Int32} {v0 c0 : Value} (E : RoadKit.Exa Z h x ST) (V : RoadKit.Fld Z h x ST "value" "[B" v0) (C : RoadKit.Fld Z h x ST "coder" "B" c0) (K : RoadKit.Arr Z h b A .char) (hty : Typed .char A) (S : RoadKit.Sta Z h ST "COMPACT_STRINGS" "Z" (.int z)) (hz : ¬ z = 0)
    (l0 : 0 < A.slots.size) (l2 : A.slots.size ≤ 536870912) (hp : ∀ i, i < A.slots.size → ¬ 255 < cv A i) (hfr : 4 ≤ R.frames) (hlo : W + 65 ≤ R.locals) :
    Back l R p e below s args New1.yN len W (fun P a => a = #[.ref x, .ref b] ∧ P.U.heap = h ∧ P.cells + 1 ≤ R.cells ∧ P.slots + A.slots.size ≤ R.slots)
      (fun P _ v B => ∃ L, Q Z x A h v B.U.heap L ∧ B.locs = P.locs ++ L ∧ B.cells = P.cells + 1 ∧ B.slots = P.slots + A.slots.size) := by
  intro m meth c P g ig mk a X hg hsize hdg hW hn hp'
  obtain ⟨rfl, rfl, r1, r2⟩ := hp'
  have al : Z.vm.Alike P.U.vm := hZ.alike.trans X.warmed.alike
  obtain ⟨D, cfV, kV, iV, fV, hD, gV, stV, knV, obV, asV, slV⟩ := id V
  obtain ⟨D', cfC, kC, iC, fC, hD', gC, stC, -, -, asC, slC⟩ := id C
  cases hD.symm.trans hD'
  obtain ⟨D2, kD, e1, e2, e3, e4, e5⟩ := id E
  cases hD.symm.trans e1
  obtain ⟨c2, k2, i1, i2, i3, -⟩ := Cond.instantiable_spec wi
  cases e2.symm.trans i1
  cases e3.symm.trans i2
  obtain ⟨kU, u1, u2⟩ := al.2.2 _ _ e3
  have hB : Blank ST x D P.U := ⟨hD, ⟨knV, fun q hq => by rw [hq] at obV; cases obV⟩, by rw [al.findClass]; exact e2, kU, u1, by rw [u2]; exact i3, by rw [u2]; exact e5 i3⟩
  have F1 : Found ST "value" "[B" fV P.U := ⟨SBG.found_only al ⟨cfV, kV, iV, gV⟩, stV⟩
  have F2 : Found ST "coder" "B" fC P.U := ⟨SBG.found_only al ⟨cfC, kC, iC, gC⟩, stC⟩
  have hA : Ch b A P.U := ⟨⟨K.1, State.isArrayOf_alike al K.2.1, K.2.2, by omega⟩, hty⟩
  have hS : StaticIs P.U ST "COMPACT_STRINGS" "Z" (.int z) := by
    obtain ⟨cfS, iS, kS, fS, st, cS, t1, t2, t3, t4, t5, t6, t7⟩ := S
    exact StaticIs.there (s := { Z with heap := P.U.heap }) ⟨cfS, iS, kS, fS, st, cS, t1, t2, t3, t4, t5, (fun q => by rw [q] at t6; cases t6), t7⟩ al rfl
  obtain ⟨v, B, X', ⟨⟨hv, E', V', q1, q2, q3, q4, q5, q6, q7, q8, q9, q10, q11⟩, hl, hc, hs⟩, st⟩ := New1.pays x D fV fC b A z (tab_of (moved hZ hw)) hfr hlo m meth c P g ig mk _ X hg hsize hdg hW hn ⟨r1, r2, rfl, hB, F1, F2, hA, hS, hz, l0, l2, hp⟩
  have al' : Z.vm.Alike B.U.vm := hZ.alike.trans X'.warmed.alike
  have hsz : E'.slots.size = D.slots.size := by
    obtain ⟨-, -, -, kB, w1, w2, w3⟩ := q1
    obtain ⟨kB', y1, y2⟩ := al'.2.2 _ _ e3
    rw [q2.2.1] at w1
    cases w1.symm.trans y1
    rw [w3, e5 i3, y2]
  refine ⟨v, B, X', ⟨_, ⟨hv, ?_, ⟨by omega, fun y cy hy hn' => q10 y cy (by simpa using hn') hy, fun y cy hy => ?_⟩, q11, ⟨E', _, q1.1, by rw [q2.2.1]; exact e2, by rw [q2.2.1]; exact e3, by rw [q2.1]; exact obV, fun _ => by rw [hsz]; exact e5 i3⟩,
    ⟨E', cfV, kV, iV, fV, q1.1, gV, stV, by rw [q2.1]; exact knV, by rw [q2.1]; exact obV, by rw [q2.2.1]; exact asV, q3⟩, ⟨E', cfC, kC, iC, fC, q1.1, gC, stC, by rw [q2.1]; exact knV, by rw [q2.1]; exact obV, by rw [q2.2.1]; exact asC, q4⟩,
    ⟨V', ⟨q5.1, State.isArrayOf_alike al'.symm q5.2.1, q5.2.2.1⟩, q6, by rw [← al'.findClass]; exact q7, q8, fun j hj => by have := q9 j hj; rwa [Nat.zero_add] at this⟩, fun O n d w F n1 n2 => ?_⟩, hl, hc, hs⟩, st⟩
  · intro y hy
    simp only [List.mem_cons, List.not_mem_nil, or_false] at hy
    rcases hy with rfl | rfl <;> rfl
  · by_cases q : y = x
    · subst q
      cases hD.symm.trans hy
      exact ⟨E', q1.1, q2.2.1, q2.1, hsz⟩
    · exact ⟨cy, q10 y cy q hy, rfl, rfl, rfl⟩
  · obtain ⟨D3, cf, k, i, f, g1, g2, g3, g4, g5, g6, g7⟩ := F
    cases hD.symm.trans g1
    simp only [RoadKit.slotOf, g2, gV, gC, Option.map_some, Option.getD_some] at n1 n2
    exact ⟨E', cf, k, i, f, q1.1, g2, g3, by rw [q2.1]; exact g4, by rw [q2.1]; exact g5, by rw [q2.2.1]; exact g6, by rw [q2.2.2 f.slot (by simp [n1, n2])]; exact g7⟩
end StrChars.Road
namespace StrChars.Road
open Jvm Sem ClassFile Op Lib Jvm.Stand Jvm.Free Jvm.Free.XT
/-- WHAT COMES BACK, the byte[] as a list of values -/
def QA (Z : State) (x : Addr) (zn : Int32) (cs : List Int32) (h : Heap) (v : Option Value) (h' : Heap) (L : List Loc) : Prop := v = none ∧ (∀ y ∈ L, y.base = x) ∧ RoadKit.Keep h h' [x] ∧ h'.size = h.size + 1 ∧ RoadKit.Exa Z h' x ST ∧ RoadKit.Fld Z h' x ST "value" "[B" (.ref h.size) ∧ RoadKit.Fld Z h' x ST "coder" "B" (.int 0) ∧
  (∃ kb, Z.vm.findClass "[B" = some kb ∧ RoadKit.Arv Z h' h.size kb .byte zn (cs.map fun c => .int (lo8 c)) (.int 0)) ∧
  ∀ (O n d : String) (w : Value), RoadKit.Fld Z h x O n d w → RoadKit.slotOf Z O n d ≠ RoadKit.slotOf Z ST "value" "[B" → RoadKit.slotOf Z O n d ≠ RoadKit.slotOf Z ST "coder" "B" → RoadKit.Fld Z h' x O n d w
/-- **new String(chars) AT A CALL, THE ARRAYS AS LISTS**: the char[] at b holds cs, not empty, no char above 255 -/
theorem backArv {p : Program} {l : Launch} {e : Env} {R : Room} {s : State} {args : Array Value} {below : List Frame} {len W : Nat} {Z : State} {a0 : Array Value} {h : Heap} (hZ : Z.Warmed39 s.vm) (hw : ∀ d ∈ words, d.before a0 Z = true) {kI : Nat} (wi : (Jvm.Cond.instantiable ST kI).before a0 Z = true)
    {x b : Addr} {k : ClassId} {zn z : Int32} {cs : List Int32} {dv v0 c0 : Value} (E : RoadKit.Exa Z h x ST) (V : RoadKit.Fld Z h x ST "value" "[B" v0) (C : RoadKit.Fld Z h x ST "coder" "B" c0) (K : RoadKit.Arv Z h b k .char zn (cs.map Value.int) dv) (S : RoadKit.Sta Z h ST "COMPACT_STRINGS" "Z" (.int z)) (hz : ¬ z = 0)
    (hlen : zn.toNatClampNeg = cs.length) (h0 : 0 < cs.length) (hbig : cs.length ≤ 536870912) (hall : ∀ c ∈ cs, ¬ 255 < c) (hfr : 4 ≤ R.frames) (hlo : W + 65 ≤ R.locals) :
    Back l R p e below s args New1.yN len W (fun P a => a = #[.ref x, .ref b] ∧ P.U.heap = h ∧ P.cells + 1 ≤ R.cells ∧ P.slots + cs.length ≤ R.slots)
      (fun P _ v B => ∃ L, QA Z x zn cs h v B.U.heap L ∧ B.locs = P.locs ++ L ∧ B.cells = P.cells + 1 ∧ B.slots = P.slots + cs.length) := by
  obtain ⟨A, K1, K2, K3, K4, K5, K6⟩ := K
  have e : A.slots.size = cs.length := K3.trans hlen
  have hat : ∀ (i : Nat) (hi : i < cs.length), A.slots[i]? = some (.int cs[i]) := fun i hi => by rw [K5 i (by omega)]; simp [List.getD_eq_getElem?_getD, hi]
  have hcv : ∀ (i : Nat) (hi : i < cs.length), cv A i = cs[i] := fun i hi => by unfold cv; rw [hat i hi]
  have hty : Typed .char A := fun i v hv => by
    have hi : i < A.slots.size := (Array.getElem?_eq_some_iff.mp hv).1
    have q := K5 i hi
    rw [hv] at q
    rw [Option.some.inj q]
    exact K6 i hi
  refine Back.mono (back hZ hw wi E V C K1 hty S hz (by omega) (by omega) (fun i hi => by rw [hcv i (by omega)]; exact hall _ (List.getElem_mem _)) hfr hlo) (fun P a hp => ⟨hp.1, hp.2.1, hp.2.2.1, by rw [e]; exact hp.2.2.2⟩) (fun P a v B hp hq => ?_)
  obtain ⟨L, ⟨q1, q2, q3, q4, q5, q6, q7, ⟨V', v1, v2, v3, v4, v5⟩, q9⟩, hl, hc, hs⟩ := hq
  refine ⟨L, ⟨q1, q2, q3, q4, q5, q6, q7, ⟨V'.cls, v3, V', v1, rfl, by rw [v4, e, hlen], K4, fun i hi => ?_, fun i hi => ?_⟩, q9⟩, hl, hc, by rw [hs, e]⟩
  · have hi' : i < cs.length := by omega
    rw [v5 i (by omega), hcv i hi']; simp [List.getD_eq_getElem?_getD, hi']
  · have hi' : i < cs.length := by omega
    simp only [List.getD_eq_getElem?_getD, List.getElem?_map, List.getElem?_eq_getElem hi', Option.map_some, Option.getD_some]
    exact fits_lo8 _
end StrChars.Road
namespace StrChars.Road
open Jvm Sem ClassFile Op Lib Jvm.Stand Jvm.Free Jvm.Free.XT
/-- WHAT COMES BACK, in the writer's own shape -/
def QV (Z : State) (x : Addr) (N : Int32) (bs : List Int32) (h : Heap) (n0 : Nat) (v : Option Value) (h' : Heap) (L : List Loc) : Prop := v = none ∧ RoadKit.Fr n0 L ∧ RoadKit.Keep h h' [x] ∧ RoadKit.Exa Z h' x ST ∧ RoadKit.Fld Z h' x ST "coder" "B" (.int 0) ∧
  ∃ (t : Addr) (kb : ClassId), n0 ≤ t ∧ h.size ≤ t ∧ ¬ t = x ∧ RoadKit.Fld Z h' x ST "value" "[B" (.ref t) ∧ RoadKit.Arv Z h' t kb .byte N (bs.map Value.int) (.int 0)
/-- **new String(chars) AT A CALL, FOR THE WRITER**: a char[] of n known ints, each 0 to 255 -/
theorem backV {p : Program} {l : Launch} {e : Env} {R : Room} {s : State} {args : Array Value} {below : List Frame} {len W : Nat} {Z : State} {a0 : Array Value} {h : Heap} (hZ : Z.Warmed39 s.vm) (hw : ∀ d ∈ words, d.before a0 Z = true) {kI : Nat} (wi : (Jvm.Cond.instantiable ST kI).before a0 Z = true)
    {x b : Addr} {kC : ClassId} {cs bs : List Int32} {d v0 c0 : Value} {z N : Int32} {n n0 : Nat} (hx0 : n0 ≤ x) (hh0 : n0 ≤ h.size) (E : RoadKit.Exa Z h x ST) (V : RoadKit.Fld Z h x ST "value" "[B" v0) (C : RoadKit.Fld Z h x ST "coder" "B" c0) (K : RoadKit.Arv Z h b kC .char N (cs.map Value.int) d) (S : RoadKit.Sta Z h ST "COMPACT_STRINGS" "Z" (.int z)) (hz : ¬ z = 0)
    (hn : cs.length = n) (hN : N = Int32.ofNat n) (l0 : 0 < n) (l2 : n ≤ 4000) (hp : ∀ c ∈ cs, ¬ c < 0 ∧ ¬ (255 : Int32) < c) (hb : bs = cs.map (fun c => c.toInt8.toInt32)) (hfr : 4 ≤ R.frames) (hlo : W + 65 ≤ R.locals) :
    Back l R p e below s args (⟨"java/lang/String", "<init>", "([C)V"⟩ : MethodName) len W (fun P a => a = #[.ref x, .ref b] ∧ P.U.heap = h ∧ P.cells + 1 ≤ R.cells ∧ P.slots + n ≤ R.slots)
      (fun P _ v B => ∃ L, QV Z x N bs h n0 v B.U.heap L ∧ B.locs = P.locs ++ L ∧ B.cells = P.cells + 1 ∧ B.slots = P.slots + n) := by
  subst hn hN hb
  refine Back.mono (backArv hZ hw wi E V C K S hz (n32 (by omega)) l0 (by omega) (fun c hc => (hp c hc).2) hfr hlo) (fun P a hp => hp) (fun P a v B hp hq => ?_)
  obtain ⟨L, ⟨q1, q2, q3, q4, q5, q6, q7, ⟨kb, v1, v2⟩, q9⟩, hl, hc, hs⟩ := hq
  exact ⟨L, ⟨q1, fun y hy => by rw [q2 y hy]; exact hx0, q3, q5, q7, h.size, kb, hh0, Nat.le_refl _, Nat.ne_of_gt E.lt, q6, by rw [List.map_map]; exact v2⟩, hl, hc, hs⟩
end StrChars.Road
namespace StrChars
open Jvm Sem ClassFile Op Lib Jvm.Stand Jvm.Free.XT Jvm.Free.ALB Jvm.Free.JM Jvm.Free
open Jvm.Lib.Cold (StaticIs)
def hi8 (x : Int32) : Int32 := lo8 (x >>> ((8 : Int32) &&& 31))
/-- what StringUTF16.getChar makes of two bytes -/
def pairCh (u v : Int32) : Int32 := (((u &&& 255) <<< ((0 : Int32) &&& 31)) ||| ((v &&& 255) <<< ((8 : Int32) &&& 31))).toUInt32.toUInt16.toUInt32.toInt32
theorem lo8_and (x : Int32) : (lo8 x &&& 255).toBitVec.toNat = x.toBitVec.toNat % 256 := by
  have h : (lo8 x).toBitVec = (x.toBitVec.signExtend 8).signExtend 32 := by rw [lo8, Int8.toBitVec_toInt32, Int32.toBitVec_toInt8]
  rw [Int32.toBitVec_and, BitVec.toNat_and, h]
  have e : ((x.toBitVec.signExtend 8).signExtend 32).toNat % 256 = x.toBitVec.toNat % 256 := by
    rw [BitVec.toNat_signExtend]
    have hlt := x.toBitVec.isLt
    simp only [BitVec.toNat_setWidth, BitVec.toNat_signExtend]
    split <;> split <;> omega
  rw [← e]
  exact Nat.and_two_pow_sub_one_eq_mod _ 8
theorem pair_says {c : Int32} (h0 : ¬ c < 0) (h1 : ¬ 65535 < c) : pairCh (lo8 c) (hi8 c) = c := by
  rw [Int32.lt_iff_toInt_lt] at h0 h1
  have e0 : (0 : Int32).toInt = 0 := rfl
  have e1 : (65535 : Int32).toInt = 65535 := rfl
  have hc : c.toInt = c.toBitVec.toNat := by
    have := c.toBitVec.isLt
    have e : c.toInt = c.toBitVec.toInt := rfl
    rw [e] at h0 h1
    rw [e]
    rw [BitVec.toInt_eq_toNat_cond] at h0 h1 ⊢
    split at h0 <;> split <;> omega
  have hn : c.toBitVec.toNat < 65536 := by omega
  have a1 := lo8_and c
  have a2 : (hi8 c &&& 255).toBitVec.toNat = c.toBitVec.toNat / 256 := by
    rw [hi8, lo8_and]
    have e : ((8 : Int32) &&& 31) = 8 := by decide
    rw [e, Int32.toBitVec_shiftRight]
    have e2 : ((8 : Int32).toBitVec.smod 32) = 8#32 := by decide
    rw [e2, BitVec.sshiftRight_eq', BitVec.toNat_sshiftRight_of_msb_false (by rw [BitVec.msb_eq_false_iff_two_mul_lt]; omega)]
    show c.toBitVec.toNat >>> 8 % 256 = _
    rw [Nat.shiftRight_eq_div_pow]
    omega
  unfold pairCh
  apply Int32.toBitVec_inj.mp
  apply BitVec.eq_of_toNat_eq
  have f0 : ((0 : Int32) &&& 31) = 0 := by decide
  have f8 : ((8 : Int32) &&& 31) = 8 := by decide
  rw [f0, f8]
  have g : (((lo8 c &&& 255) <<< (0 : Int32)) ||| ((hi8 c &&& 255) <<< (8 : Int32))).toBitVec.toNat = c.toBitVec.toNat := by
    rw [Int32.toBitVec_or, Int32.toBitVec_shiftLeft, Int32.toBitVec_shiftLeft]
    have s0 : ((0 : Int32).toBitVec.smod 32) = 0#32 := by decide
    have s8 : ((8 : Int32).toBitVec.smod 32) = 8#32 := by decide
    rw [s0, s8, BitVec.toNat_or]
    simp only [BitVec.shiftLeft_eq', BitVec.toNat_shiftLeft, a1, a2]
    show (c.toBitVec.toNat % 256) <<< 0 % 2 ^ 32 ||| (c.toBitVec.toNat / 256) <<< 8 % 2 ^ 32 = _
    rw [Nat.shiftLeft_zero, Nat.mod_eq_of_lt (show c.toBitVec.toNat % 256 < 2 ^ 32 by omega), Nat.mod_eq_of_lt (show (c.toBitVec.toNat / 256) <<< 8 < 2 ^ 32 by rw [Nat.shiftLeft_eq]; omega), Nat.or_comm, ← Nat.shiftLeft_add_eq_or_of_lt (by omega), Nat.shiftLeft_eq]
    omega
  show BitVec.toNat (((((lo8 c &&& 255) <<< (0 : Int32)) ||| ((hi8 c &&& 255) <<< (8 : Int32))).toBitVec.setWidth 16).setWidth 32) = _
  rw [BitVec.toNat_setWidth, BitVec.toNat_setWidth, g]
  omega
end StrChars
namespace StrChars
open Jvm Sem ClassFile Op Lib Jvm.Stand Jvm.Free.XT Jvm.Free.ALB Jvm.Free.JM Jvm.Free
open Jvm.Lib.Cold (StaticIs)
/-- the array's cell V codes the n chars f 0 .. f (n - 1) by the coder cd, as the JDK does: coder 1 just where some char is above 255 -/
def Cod (cd : Int32) (n : Nat) (f : Nat → Int32) (V : Cell) : Prop := (cd = 0 ∧ V.slots.size = n ∧ ∀ j, j < n → V.slots[j]? = some (.int (lo8 (f j))) ∧ ¬ 255 < f j) ∨ (cd = 1 ∧ V.slots.size = 2 * n ∧ (∀ j, j < n → V.slots[2 * j]? = some (.int (lo8 (f j))) ∧ V.slots[2 * j + 1]? = some (.int (hi8 (f j)))) ∧ ∃ j, j < n ∧ 255 < f j)
/-- **x is a String of the n chars f 0 .. f (n - 1)**, Latin-1 or UTF-16; its array at t has the cell V -/
def Txt (x t : Addr) (V : Cell) (cd : Int32) (n : Nat) (f : Nat → Int32) (U : State) : Prop := Exact "java/lang/String" x U ∧ Has x "java/lang/String" "value" "[B" (.ref t) U ∧ Has x "java/lang/String" "coder" "B" (.int cd) U ∧ XT.Arr .byte t V U ∧ Cod cd n f V ∧ ∀ j, j < n → ¬ f j < 0 ∧ ¬ 65535 < f j
theorem Txt.mv {x t : Addr} {V : Cell} {cd : Int32} {n : Nat} {f : Nat → Int32} {U U' : State} (h : Txt x t V cd n f U) (hal : U.vm.Alike U'.vm) (hh : U'.heap = U.heap) : Txt x t V cd n f U' := ⟨h.1.mv hal hh, h.2.1.mv hal hh, h.2.2.1.mv hal hh, h.2.2.2.1.mv hal hh, h.2.2.2.2⟩
end StrChars
namespace StrChars.Road
open Jvm Sem ClassFile Op Lib Jvm.Stand Jvm.Free Jvm.Free.XT
open Jvm.Lib.Cold (StaticIs)
theorem consq {a : Array Value} {s : State} {c : Jvm.Cond} {L : List Jvm.Cond} (h0 : c.before a s = true) (h : ∀ w ∈ L, w.before a s = true) : ∀ w ∈ c :: L, w.before a s = true := fun w hw => (List.mem_cons.mp hw).elim (fun e => e ▸ h0) (h w)
/-- the bytes of the chars cs, low before high -/
def wideBytes : List Int32 → List Value
  | [] => []
  | c :: cs => .int (lo8 c) :: .int (hi8 c) :: wideBytes cs
theorem wide_lo (d : Value) : ∀ (cs : List Int32) (j : Nat), j < cs.length → (wideBytes cs).getD (2 * j) d = .int (lo8 (cs.getD j 0))
  | [], j, h => absurd h (Nat.not_lt_zero j)
  | c :: cs, 0, _ => rfl
  | c :: cs, j + 1, h => by
    have q := wide_lo d cs j (by simpa using h)
    rw [show 2 * (j + 1) = 2 * j + 1 + 1 from by omega]
    simpa [wideBytes] using q
theorem wide_hi (d : Value) : ∀ (cs : List Int32) (j : Nat), j < cs.length → (wideBytes cs).getD (2 * j + 1) d = .int (hi8 (cs.getD j 0))
  | [], j, h => absurd h (Nat.not_lt_zero j)
  | c :: cs, 0, _ => rfl
  | c :: cs, j + 1, h => by
    have q := wide_hi d cs j (by simpa using h)
    rw [show 2 * (j + 1) + 1 = 2 * j + 1 + 1 + 1 from by omega]
    simpa [wideBytes] using q
theorem low_at (d : Value) (cs : List Int32) (j : Nat) (h : j < cs.length) : (cs.map fun c => Value.int (lo8 c)).getD j d = .int (lo8 (cs.getD j 0)) := by
  simp [List.getD_eq_getElem?_getD, h]
/-- an array of N2 bytes vs codes the chars cs by the coder cd -/
def CodA (cs : List Int32) (cd N2 : Int32) (vs : List Value) : Prop := (cd = 0 ∧ N2 = Int32.ofNat cs.length ∧ vs = (cs.map fun c => Value.int (lo8 c)) ∧ ∀ c ∈ cs, ¬ 255 < c) ∨ (cd = 1 ∧ N2 = Int32.ofNat (2 * cs.length) ∧ vs = wideBytes cs ∧ ∃ c ∈ cs, 255 < c)
theorem CodA.cod {cs : List Int32} {cd N2 : Int32} {vs : List Value} {V : Cell} (h : CodA cs cd N2 vs) (hn : 2 * cs.length < 2 ^ 31) (hs : V.slots.size = N2.toNatClampNeg) (hv : RoadKit.Has V vs (.int 0)) : Cod cd cs.length (fun j => cs.getD j 0) V := by
  rcases h with ⟨rfl, rfl, rfl, h⟩ | ⟨rfl, rfl, rfl, c, hc, hw⟩
  · rw [n32 (by omega)] at hs
    exact Or.inl ⟨rfl, hs, fun j hj => ⟨by rw [hv j (by omega), low_at _ _ _ hj], by
      have e : cs.getD j 0 = cs[j] := by simp [List.getD_eq_getElem?_getD, hj]
      show ¬ 255 < cs.getD j 0
      rw [e]; exact h _ (List.getElem_mem _)⟩⟩
  · rw [n32 (by omega)] at hs
    obtain ⟨j, hj, rfl⟩ := List.getElem_of_mem hc
    exact Or.inr ⟨rfl, hs, fun j hj => ⟨by rw [hv _ (by omega), wide_lo _ _ _ hj], by rw [hv _ (by omega), wide_hi _ _ _ hj]⟩, j, hj, by
      have e : cs.getD j 0 = cs[j] := by simp [List.getD_eq_getElem?_getD, hj]
      show 255 < cs.getD j 0
      rw [e]; exact hw⟩
/-- an object of exactly java/lang/String, its two fields found: as the laws ask it -/
theorem strObj {Z U : State} {a0 : Array Value} {kI : Nat} (wi : (Jvm.Cond.instantiable ST kI).before a0 Z = true) (al : Z.vm.Alike U.vm) {x : Addr} {v0 c0 : Value} (E : RoadKit.Exa Z U.heap x ST) (V : RoadKit.Fld Z U.heap x ST "value" "[B" v0) (C : RoadKit.Fld Z U.heap x ST "coder" "B" c0) :
    ∃ (D : Cell) (fV fC : Field), Blank ST x D U ∧ Found ST "value" "[B" fV U ∧ Found ST "coder" "B" fC U ∧ D.slots[fV.slot]? = some v0 ∧ D.slots[fC.slot]? = some c0 ∧ RoadKit.slotOf Z ST "value" "[B" = fV.slot ∧ RoadKit.slotOf Z ST "coder" "B" = fC.slot := by
  obtain ⟨D, cfV, kV, iV, fV, hD, gV, stV, knV, obV, asV, slV⟩ := V
  obtain ⟨D', cfC, kC, iC, fC, hD', gC, stC, -, -, asC, slC⟩ := C
  cases hD.symm.trans hD'
  obtain ⟨D2, kD, e1, e2, e3, e4, e5⟩ := E
  cases hD.symm.trans e1
  obtain ⟨c2, k2, i1, i2, i3, -⟩ := Cond.instantiable_spec wi
  cases e2.symm.trans i1
  cases e3.symm.trans i2
  obtain ⟨kU, u1, u2⟩ := al.2.2 _ _ e3
  exact ⟨D, fV, fC, ⟨hD, ⟨knV, fun q hq => by rw [hq] at obV; cases obV⟩, by rw [al.findClass]; exact e2, kU, u1, by rw [u2]; exact i3, by rw [u2]; exact e5 i3⟩, ⟨SBG.found_only al ⟨cfV, kV, iV, gV⟩, stV⟩, ⟨SBG.found_only al ⟨cfC, kC, iC, gC⟩, stC⟩, slV, slC, by simp [RoadKit.slotOf, gV], by simp [RoadKit.slotOf, gC]⟩
theorem sta_is {Z U : State} (al : Z.vm.Alike U.vm) {C n d : String} {v : Value} (S : RoadKit.Sta Z U.heap C n d v) : StaticIs U C n d v := by
  obtain ⟨cfS, iS, kS, fS, st, cS, t1, t2, t3, t4, t5, t6, t7⟩ := S
  exact StaticIs.there (s := { Z with heap := U.heap }) ⟨cfS, iS, kS, fS, st, cS, t1, t2, t3, t4, t5, (fun q => by rw [q] at t6; cases t6), t7⟩ al rfl
end StrChars.Road
namespace StrChars
open Jvm Sem ClassFile Op Lib Jvm.Stand Jvm.Free.XT Jvm.Free.ALB Jvm.Free.JM Jvm.Free
open Jvm.Lib.Cold (StaticIs)
/-- what place i of a byte[]'s cell holds -/
def yv (A : Cell) (i : Nat) : Int32 := match A.slots[i]? with | some (.int x) => x | _ => 0
theorem yv_get {a : Addr} {A : Cell} {U : State} (h : XT.Arr .byte a A U) (ht : Typed .byte A) {i : Nat} (hi : i < A.slots.size) : A.slots[i]? = some (.int (yv A i)) := by
  have e := Array.getElem?_eq_getElem hi
  have f := ht i _ e
  unfold yv; rw [e]
  generalize A.slots[i] = v at f
  cases v <;> simp [fits] at f ⊢
/-- the two arrays are equal, place for place -/
def EqC (A B : Cell) : Prop := A.slots.size = B.slots.size ∧ ∀ i, i < A.slots.size → yv A i = yv B i
/-- a boolean that says whether p -/
def Says01 (q : Prop) (r : Option Value) (s u : State) : Prop := ∃ v : Int32, r = some (.int v) ∧ u.heap = s.heap ∧ ((v = 1 ∧ q) ∨ (v = 0 ∧ ¬ q))
theorem Says01.mv {q : Prop} : ∀ r (U U' V V' : State), U'.heap = U.heap → V.vm.Alike V'.vm → V'.heap = V.heap → Says01 q r U V → Says01 q r U' V' :=
  fun r U U' V V' h1 _ h2 ⟨v, a, b, c⟩ => ⟨v, a, by rw [h1, h2]; exact b, c⟩
namespace LEq
def yN : MethodName := ⟨"java/lang/StringLatin1", "equals", "([B[B)Z"⟩
abbrev yB : ByteArray := jdk_43_method_13_code
theorem d0 : decode yB 0 = .ok (.aload_n 0, 1) := by decide +kernel
theorem d1 : decode yB 1 = .ok (.arraylength, 1) := by decide +kernel
theorem d2 : decode yB 2 = .ok (.aload_n 1, 1) := by decide +kernel
theorem d3 : decode yB 3 = .ok (.arraylength, 1) := by decide +kernel
theorem d4 : decode yB 4 = .ok (.if_icmp (.ne) 30, 3) := by decide +kernel
theorem d7 : decode yB 7 = .ok (.iconst 0, 1) := by decide +kernel
theorem d8 : decode yB 8 = .ok (.istore_n 2, 1) := by decide +kernel
theorem d9 : decode yB 9 = .ok (.iload_n 2, 1) := by decide +kernel
theorem d10 : decode yB 10 = .ok (.aload_n 0, 1) := by decide +kernel
theorem d11 : decode yB 11 = .ok (.arraylength, 1) := by decide +kernel
theorem d12 : decode yB 12 = .ok (.if_icmp (.ge) 20, 3) := by decide +kernel
theorem d15 : decode yB 15 = .ok (.aload_n 0, 1) := by decide +kernel
theorem d16 : decode yB 16 = .ok (.iload_n 2, 1) := by decide +kernel
theorem d17 : decode yB 17 = .ok (.baload, 1) := by decide +kernel
theorem d18 : decode yB 18 = .ok (.aload_n 1, 1) := by decide +kernel
theorem d19 : decode yB 19 = .ok (.iload_n 2, 1) := by decide +kernel
theorem d20 : decode yB 20 = .ok (.baload, 1) := by decide +kernel
theorem d21 : decode yB 21 = .ok (.if_icmp (.eq) 5, 3) := by decide +kernel
theorem d24 : decode yB 24 = .ok (.iconst 0, 1) := by decide +kernel
theorem d25 : decode yB 25 = .ok (.ireturn, 1) := by decide +kernel
theorem d26 : decode yB 26 = .ok (.iinc 2 1, 3) := by decide +kernel
theorem d29 : decode yB 29 = .ok (.goto (-20), 3) := by decide +kernel
theorem d32 : decode yB 32 = .ok (.iconst 1, 1) := by decide +kernel
theorem d33 : decode yB 33 = .ok (.ireturn, 1) := by decide +kernel
theorem d34 : decode yB 34 = .ok (.iconst 0, 1) := by decide +kernel
theorem d35 : decode yB 35 = .ok (.ireturn, 1) := by decide +kernel
def site : List Cond := []
def tab : Cond := tabOf yN yB 3 (some .boolean) site
def P (a : Addr) (A : Cell) (b : Addr) (B : Cell) (args : Array Value) (s : State) : Prop := args = #[.ref a, .ref b] ∧ XT.Arr .byte a A s ∧ Typed .byte A ∧ XT.Arr .byte b B s ∧ Typed .byte B
/-- whether two byte[] are equal, place for place -/
theorem law (l : Launch) (a : Addr) (A : Cell) (b : Addr) (B : Cell) : Law l yN 2 2 0 0 yB 3 (some .boolean) site (P a A b B) (Says01 (EqC A B)) [] 0 0 := by
  refine Law.of_walk (plainFor_of_name (by decide +kernel)) (by decide +kernel) (by decide +kernel) (by decide) (fun _ _ h => by rw [h.1]; rfl) (fun _ U U' hal hh h => ⟨h.1, h.2.1.mv hal hh, h.2.2.1, h.2.2.2.1.mv hal hh, h.2.2.2.2⟩) (fun r U U' V V' h1 hal h2 h => Says01.mv r U U' V V' h1 hal h2 h) ?_
  intro p e s m args below meth c s₁ X0 hexec hbytes hml hret hlk hnm hown hh0 W hP
  obtain ⟨rfl, hA, tA, hB, tB⟩ := hP
  have a31 := hA.2.2.2
  have b31 := hB.2.2.2
  have hA0 := hA.mv X0.warmed.alike hh0
  have hB0 := hB.mv X0.warmed.alike hh0
  have c1 : Steps p.tables e below (s₁.setTop (entryFrame m #[.ref a, .ref b] 3)) (s₁.setTop (mkF m 0 #[.val (.ref a), .val (.ref b), .unset] [])) := entry rfl
  have c2 : Steps p.tables e below (s₁.setTop (entryFrame m #[.ref a, .ref b] 3)) (s₁.setTop (mkF m 4 #[.val (.ref a), .val (.ref b), .unset] [.int (Int32.ofNat B.slots.size), .int (Int32.ofNat A.slots.size)])) := c1.trans (by
    refine XS.aloadN X0.here hexec rfl (hb hbytes d0) rfl rfl ?_
    refine X0.alen hexec hA0 rfl rfl (hb hbytes d1) ?_
    refine XS.aloadN X0.here hexec rfl (hb hbytes d2) rfl rfl ?_
    refine X0.alen hexec hB0 rfl rfl (hb hbytes d3) ?_
    exact Steps.refl _)
  by_cases hs : A.slots.size = B.slots.size
  · have c3 : Steps p.tables e below (s₁.setTop (entryFrame m #[.ref a, .ref b] 3)) (s₁.setTop (mkF m 9 #[.val (.ref a), .val (.ref b), .val (.int 0)] [])) := c2.trans (by
      refine XS.icmpNo X0.here hexec rfl (hb hbytes d4) rfl (ii_ne_f (by rw [hs])) ?_
      refine iconstV X0.here hexec rfl 0 (hb hbytes d7) (by decide) ?_
      refine XS.istoreN X0.here hexec rfl (hb hbytes d8) rfl rfl ?_
      exact Steps.refl _)
    have loop : ∀ (r i : Nat), i + r = A.slots.size → (∀ j, j < i → yv A j = yv B j) → Steps p.tables e below (s₁.setTop (entryFrame m #[.ref a, .ref b] 3)) (s₁.setTop (mkF m 9 #[.val (.ref a), .val (.ref b), .val (.int (Int32.ofNat i))] [])) → ∃ (pc : Nat) (Ls : Array Slot) (v : Int32), (pc = 25 ∨ pc = 33) ∧ ((v = 1 ∧ EqC A B) ∨ (v = 0 ∧ ¬ EqC A B)) ∧ Steps p.tables e below (s₁.setTop (entryFrame m #[.ref a, .ref b] 3)) (s₁.setTop (mkF m pc Ls [.int v])) := by
      intro r
      induction r with
      | zero =>
        intro i hi he cl
        exact ⟨33, _, 1, Or.inr rfl, Or.inl ⟨rfl, hs, fun j hj => he j (by omega)⟩, cl.trans (by
          refine XS.iloadN X0.here hexec rfl (hb hbytes d9) rfl ?_
          refine XS.aloadN X0.here hexec rfl (hb hbytes d10) rfl rfl ?_
          refine X0.alen hexec hA0 rfl rfl (hb hbytes d11) ?_
          refine XS.icmpYes X0.here hexec rfl (pc0 := 12) rfl (hb hbytes d12) rfl (ii_ge_t (nlt32 (by omega) (by omega))) (by decide) rfl ?_
          refine iconstV X0.here hexec rfl 1 (hb hbytes d32) (by decide) ?_
          exact Steps.refl _)⟩
      | succ r ih =>
        intro i hi he cl
        have c4 : Steps p.tables e below (s₁.setTop (entryFrame m #[.ref a, .ref b] 3)) (s₁.setTop (mkF m 21 #[.val (.ref a), .val (.ref b), .val (.int (Int32.ofNat i))] [.int (yv B i), .int (yv A i)])) := cl.trans (by
          refine XS.iloadN X0.here hexec rfl (hb hbytes d9) rfl ?_
          refine XS.aloadN X0.here hexec rfl (hb hbytes d10) rfl rfl ?_
          refine X0.alen hexec hA0 rfl rfl (hb hbytes d11) ?_
          refine XS.icmpNo X0.here hexec rfl (hb hbytes d12) rfl (ii_ge_f (lt32 (by omega) (by omega))) ?_
          refine XS.aloadN X0.here hexec rfl (hb hbytes d15) rfl rfl ?_
          refine XS.iloadN X0.here hexec rfl (hb hbytes d16) rfl ?_
          refine X0.aget hexec hA0 rfl (yv_get hA tA (i := i) (by omega)) rfl rfl (hb hbytes d17) ?_
          refine XS.aloadN X0.here hexec rfl (hb hbytes d18) rfl rfl ?_
          refine XS.iloadN X0.here hexec rfl (hb hbytes d19) rfl ?_
          refine X0.aget hexec hB0 rfl (yv_get hB tB (i := i) (by omega)) rfl rfl (hb hbytes d20) ?_
          exact Steps.refl _)
        by_cases hv : yv A i = yv B i
        · have c5 : Steps p.tables e below (s₁.setTop (entryFrame m #[.ref a, .ref b] 3)) (s₁.setTop (mkF m 9 #[.val (.ref a), .val (.ref b), .val (.int (Int32.ofNat i + 1))] [])) := c4.trans (by
            refine XS.icmpYes X0.here hexec rfl (pc0 := 21) rfl (hb hbytes d21) rfl (ii_eq_t hv) (by decide) rfl ?_
            refine iincV X0.here hexec rfl 1 (hb hbytes d26) (by decide) rfl rfl ?_
            refine XS.goto X0.here hexec rfl (pc0 := 29) rfl (hb hbytes d29) (by decide) rfl ?_
            exact Steps.refl _)
          rw [succ32] at c5
          exact ih (i + 1) (by omega) (fun j hj => by
            by_cases e : j = i
            · rw [e]; exact hv
            · exact he j (by omega)) c5
        · exact ⟨25, _, 0, Or.inl rfl, Or.inr ⟨rfl, fun q => hv (q.2 i (by omega))⟩, c4.trans (by
            refine XS.icmpNo X0.here hexec rfl (hb hbytes d21) rfl (ii_eq_f hv) ?_
            refine iconstV X0.here hexec rfl 0 (hb hbytes d24) (by decide) ?_
            exact Steps.refl _)⟩
    obtain ⟨pc, Ls, v, hpc, hv, cz⟩ := loop A.slots.size 0 (by omega) (fun j hj => absurd hj (Nat.not_lt_zero j)) c3
    have nv : narrow .boolean (.int v) = .int v := by rcases hv with ⟨rfl, -⟩ | ⟨rfl, -⟩ <;> rfl
    rcases hpc with rfl | rfl
    · exact ⟨s₁, some (.int v), _, _, _, X0, rfl, rfl, rfl, (fun h => by cases h), ⟨v, rfl, hh0, hv⟩, fun fs hl => cz.trans (X0.ireturnOut hexec hret nv (Or.inr (Or.inl rfl)) (hb hbytes d25) hl)⟩
    · exact ⟨s₁, some (.int v), _, _, _, X0, rfl, rfl, rfl, (fun h => by cases h), ⟨v, rfl, hh0, hv⟩, fun fs hl => cz.trans (X0.ireturnOut hexec hret nv (Or.inr (Or.inl rfl)) (hb hbytes d33) hl)⟩
  · have c3 : Steps p.tables e below (s₁.setTop (entryFrame m #[.ref a, .ref b] 3)) (s₁.setTop (mkF m 35 #[.val (.ref a), .val (.ref b), .unset] [.int 0])) := c2.trans (by
      refine XS.icmpYes X0.here hexec rfl (pc0 := 4) rfl (hb hbytes d4) rfl (ii_ne_t (ne32 a31 b31 hs)) (by decide) rfl ?_
      refine iconstV X0.here hexec rfl 0 (hb hbytes d34) (by decide) ?_
      exact Steps.refl _)
    exact ⟨s₁, some (.int 0), _, _, _, X0, rfl, rfl, rfl, (fun h => by cases h), ⟨0, rfl, hh0, Or.inr ⟨rfl, fun q => hs q.1⟩⟩, fun fs hl => c3.trans (X0.ireturnOut hexec hret rfl (Or.inr (Or.inl rfl)) (hb hbytes d35) hl)⟩
end LEq
theorem Cod.ty {cd : Int32} {n : Nat} {f : Nat → Int32} {V : Cell} (h : Cod cd n f V) : Typed .byte V := fun i v hv => by
  have hi : i < V.slots.size := (Array.getElem?_eq_some_iff.mp hv).1
  rcases h with ⟨-, k1, k2⟩ | ⟨-, k1, k2, -⟩
  · rw [(k2 i (by omega)).1] at hv; cases hv; exact fits_lo8 _
  · rcases Nat.mod_two_eq_zero_or_one i with e | e
    · obtain ⟨j, rfl⟩ : ∃ j, i = 2 * j := ⟨i / 2, by omega⟩
      rw [(k2 j (by omega)).1] at hv; cases hv; exact fits_lo8 _
    · obtain ⟨j, rfl⟩ : ∃ j, i = 2 * j + 1 := ⟨i / 2, by omega⟩
      rw [(k2 j (by omega)).2] at hv; cases hv; exact fits_lo8 _
/-- the same text -/
def SameT (n : Nat) (f : Nat → Int32) (k : Nat) (g : Nat → Int32) : Prop := n = k ∧ ∀ j, j < n → f j = g j
theorem lo8_inj {x y : Int32} (h0 : ¬ x < 0) (h1 : ¬ 255 < x) (k0 : ¬ y < 0) (k1 : ¬ 255 < y) (h : lo8 x = lo8 y) : x = y := by
  rw [← lo8_mask h0 h1, ← lo8_mask k0 k1, h]
/-- arrays coded by one coder are equal just where the texts are -/
theorem Cod.eqv {cd : Int32} {n k : Nat} {f g : Nat → Int32} {V V' : Cell} (h : Cod cd n f V) (h' : Cod cd k g V') (hf : ∀ j, j < n → ¬ f j < 0 ∧ ¬ 65535 < f j) (hg : ∀ j, j < k → ¬ g j < 0 ∧ ¬ 65535 < g j) : EqC V V' ↔ SameT n f k g := by
  have yvv : ∀ {W : Cell} {i : Nat} {x : Int32}, W.slots[i]? = some (.int x) → yv W i = x := fun q => by unfold yv; rw [q]
  rcases h with ⟨rfl, k1, k2⟩ | ⟨rfl, k1, k2, -⟩
  · rcases h' with ⟨-, m1, m2⟩ | ⟨e, -⟩
    · constructor
      · rintro ⟨e1, e2⟩
        refine ⟨by omega, fun j hj => ?_⟩
        have q := e2 j (by omega)
        rw [yvv (k2 j hj).1, yvv (m2 j (by omega)).1] at q
        exact lo8_inj (hf j hj).1 (k2 j hj).2 (hg j (by omega)).1 (m2 j (by omega)).2 q
      · rintro ⟨rfl, e2⟩
        refine ⟨by omega, fun j hj => ?_⟩
        rw [yvv (k2 j (by omega)).1, yvv (m2 j (by omega)).1, e2 j (by omega)]
    · exact absurd e (by decide)
  · rcases h' with ⟨e, -⟩ | ⟨-, m1, m2, -⟩
    · exact absurd e (by decide)
    · constructor
      · rintro ⟨e1, e2⟩
        refine ⟨by omega, fun j hj => ?_⟩
        have q1 := e2 (2 * j) (by omega)
        have q2 := e2 (2 * j + 1) (by omega)
        rw [yvv (k2 j hj).1, yvv (m2 j (by omega)).1] at q1
        rw [yvv (k2 j hj).2, yvv (m2 j (by omega)).2] at q2
        rw [← pair_says (hf j hj).1 (hf j hj).2, ← pair_says (hg j (by omega)).1 (hg j (by omega)).2, q1, q2]
      · rintro ⟨rfl, e2⟩
        refine ⟨by omega, fun i hi => ?_⟩
        rcases Nat.mod_two_eq_zero_or_one i with e | e
        · obtain ⟨j, rfl⟩ : ∃ j, i = 2 * j := ⟨i / 2, by omega⟩
          rw [yvv (k2 j (by omega)).1, yvv (m2 j (by omega)).1, e2 j (by omega)]
        · obtain ⟨j, rfl⟩ : ∃ j, i = 2 * j + 1 := ⟨i / 2, by omega⟩
          rw [yvv (k2 j (by omega)).2, yvv (m2 j (by omega)).2, e2 j (by omega)]
/-- two codings differ: so do the texts -/
theorem Cod.dif {cd cd' : Int32} {n k : Nat} {f g : Nat → Int32} {V V' : Cell} (h : Cod cd n f V) (h' : Cod cd' k g V') (hne : ¬ cd = cd') : ¬ SameT n f k g := by
  rintro ⟨rfl, e⟩
  rcases h with ⟨rfl, -, k2⟩ | ⟨rfl, -, -, j, hj, hw⟩
  · rcases h' with ⟨rfl, -⟩ | ⟨-, -, -, j, hj, hw⟩
    · exact hne rfl
    · exact (k2 j hj).2 (by rw [e j hj]; exact hw)
  · rcases h' with ⟨-, -, m2⟩ | ⟨rfl, -⟩
    · exact (m2 j hj).2 (by rw [← e j hj]; exact hw)
    · exact hne rfl
/-- an object of exactly C is an instance of C -/
theorem cinst {p : Program} {l : Launch} {e : Env} {R : Room} {s : State} {m : MethodId} {args : Array Value} {below : List Frame} {meth : Method} {c : Code} {T : State} {locs : List Loc} {cells slots : Nat} (X : Stand p l e R s m args below meth c T locs cells slots) (hexec : p.tables.exec = Jvm.exec) {own C : String} {index : Nat} (hown : s.vm.findClass own = some m.cls) (hlink : (Cond.classLink own index C).before args s = true) {a : Addr} (hE : Exact C a T)
    {g : JFrame} (hg : g.method = m) {rest : List Value} (hstack : g.stack = .ref a :: rest) (hdg : decode c.code g.pc = .ok (.instanceof index, 3)) :
    ∃ T', Stand p l e R s m args below meth c T' locs cells slots ∧ T'.heap = T.heap ∧ ∀ target, Steps p.tables e below (T'.setTop { g with pc := g.pc + 3, stack := .int 1 :: rest }) target → Steps p.tables e below (T.setTop g) target := by
  obtain ⟨cB, h1, D, h2, h3, h4⟩ := hE
  have h1' : s.vm.findClass C = some cB := by rw [← X.warmed.alike.findClass]; exact h1
  obtain ⟨vm', X', st⟩ := X.instanceofYes hexec hown hlink h2 h4 h1' (by rw [h3]; exact Jvm.Free.SB.assignable_self _ _) hg hstack hdg
  exact ⟨_, X', rfl, st⟩
theorem cself {p : Program} {l : Launch} {e : Env} {R : Room} {s : State} {m : MethodId} {args : Array Value} {below : List Frame} {meth : Method} {c : Code} {T : State} {locs : List Loc} {cells slots : Nat} (X : Stand p l e R s m args below meth c T locs cells slots) (hexec : p.tables.exec = Jvm.exec) {own C : String} {index : Nat} (hown : s.vm.findClass own = some m.cls) (hlink : (Cond.classLink own index C).before args s = true) {a : Addr} (hE : Exact C a T)
    {g : JFrame} (hg : g.method = m) {rest : List Value} (hstack : g.stack = .ref a :: rest) (hdg : decode c.code g.pc = .ok (.checkcast index, 3)) :
    ∃ T', Stand p l e R s m args below meth c T' locs cells slots ∧ T'.heap = T.heap ∧ ∀ target, Steps p.tables e below (T'.setTop { g with pc := g.pc + 3, stack := .ref a :: rest }) target → Steps p.tables e below (T.setTop g) target := by
  obtain ⟨cB, h1, D, h2, h3, h4⟩ := hE
  have h1' : s.vm.findClass C = some cB := by rw [← X.warmed.alike.findClass]; exact h1
  obtain ⟨vm', X', st⟩ := X.checkcastYes hexec hown hlink h2 h4 h1' (by rw [h3]; exact Jvm.Free.SB.assignable_self _ _) hg hstack hdg
  exact ⟨_, X', rfl, fun t h => st t (by rw [← hstack] at h; exact h)⟩
namespace SEq
def yN : MethodName := ⟨"java/lang/String", "equals", "(Ljava/lang/Object;)Z"⟩
abbrev yB : ByteArray := jdk_42_method_66_code
theorem d0 : decode yB 0 = .ok (.aload_n 0, 1) := by decide +kernel
theorem d1 : decode yB 1 = .ok (.aload_n 1, 1) := by decide +kernel
theorem d2 : decode yB 2 = .ok (.if_acmp (.ne) 5, 3) := by decide +kernel
theorem d5 : decode yB 5 = .ok (.iconst 1, 1) := by decide +kernel
theorem d6 : decode yB 6 = .ok (.ireturn, 1) := by decide +kernel
theorem d7 : decode yB 7 = .ok (.aload_n 1, 1) := by decide +kernel
theorem d8 : decode yB 8 = .ok (.instanceof 10, 3) := by decide +kernel
theorem d11 : decode yB 11 = .ok (.ifCond (.eq) 43, 3) := by decide +kernel
theorem d14 : decode yB 14 = .ok (.aload_n 1, 1) := by decide +kernel
theorem d15 : decode yB 15 = .ok (.checkcast 10, 3) := by decide +kernel
theorem d18 : decode yB 18 = .ok (.astore_n 2, 1) := by decide +kernel
theorem d19 : decode yB 19 = .ok (.getstatic 38, 3) := by decide +kernel
theorem d22 : decode yB 22 = .ok (.ifCond (.eq) 14, 3) := by decide +kernel
theorem d25 : decode yB 25 = .ok (.aload_n 0, 1) := by decide +kernel
theorem d26 : decode yB 26 = .ok (.getfield 15, 3) := by decide +kernel
theorem d29 : decode yB 29 = .ok (.aload_n 2, 1) := by decide +kernel
theorem d30 : decode yB 30 = .ok (.getfield 15, 3) := by decide +kernel
theorem d33 : decode yB 33 = .ok (.if_icmp (.ne) 21, 3) := by decide +kernel
theorem d36 : decode yB 36 = .ok (.aload_n 0, 1) := by decide +kernel
theorem d37 : decode yB 37 = .ok (.getfield 9, 3) := by decide +kernel
theorem d40 : decode yB 40 = .ok (.aload_n 2, 1) := by decide +kernel
theorem d41 : decode yB 41 = .ok (.getfield 9, 3) := by decide +kernel
theorem d44 : decode yB 44 = .ok (.invokestatic 541, 3) := by decide +kernel
theorem d47 : decode yB 47 = .ok (.ifCond (.eq) 7, 3) := by decide +kernel
theorem d50 : decode yB 50 = .ok (.iconst 1, 1) := by decide +kernel
theorem d51 : decode yB 51 = .ok (.goto 4, 3) := by decide +kernel
theorem d54 : decode yB 54 = .ok (.iconst 0, 1) := by decide +kernel
theorem d55 : decode yB 55 = .ok (.ireturn, 1) := by decide +kernel
def site : List Cond := [.classLink "java/lang/String" 10 "java/lang/String", .fieldLink "java/lang/String" 38 "java/lang/String" "COMPACT_STRINGS" "Z", .fieldLink "java/lang/String" 15 "java/lang/String" "coder" "B", .fieldLink "java/lang/String" 9 "java/lang/String" "value" "[B", LEq.tab] ++ staticW "java/lang/String" 541 LEq.yN
def tab : Cond := tabOf yN yB 3 (some .boolean) site
def P (x t : Addr) (V : Cell) (cd : Int32) (n : Nat) (f : Nat → Int32) (y t' : Addr) (V' : Cell) (cd' : Int32) (k : Nat) (g : Nat → Int32) (z : Int32) (args : Array Value) (s : State) : Prop := args = #[.ref x, .ref y] ∧ Txt x t V cd n f s ∧ Txt y t' V' cd' k g s ∧ StaticIs s "java/lang/String" "COMPACT_STRINGS" "Z" (.int z) ∧ ¬ z = 0
/-- equals(Object) of two Strings: whether the texts are the same -/
theorem law (l : Launch) (x t : Addr) (V : Cell) (cd : Int32) (n : Nat) (f : Nat → Int32) (y t' : Addr) (V' : Cell) (cd' : Int32) (k : Nat) (g : Nat → Int32) (z : Int32) : Law l yN 2 1 1 14 yB 3 (some .boolean) site (P x t V cd n f y t' V' cd' k g z) (Says01 (SameT n f k g)) [] 0 0 := by
  refine Law.of_walk (plainFor_of_name (by decide +kernel)) (by decide +kernel) (by decide +kernel) (by decide) (fun _ _ h => by rw [h.1]; rfl) (fun _ U U' hal hh h => ⟨h.1, h.2.1.mv hal hh, h.2.2.1.mv hal hh, h.2.2.2.1.there hal hh, h.2.2.2.2⟩) (fun r U U' V V' h1 hal h2 h => Says01.mv r U U' V V' h1 hal h2 h) ?_
  intro p e s m args below meth c s₁ X0 hexec hbytes hml hret hlk hnm hown hh0 W hP
  obtain ⟨rfl, hx, hy, s1, hz⟩ := hP
  have c1 : Steps p.tables e below (s₁.setTop (entryFrame m #[.ref x, .ref y] 3)) (s₁.setTop (mkF m 2 #[.val (.ref x), .val (.ref y), .unset] [.ref y, .ref x])) := Steps.trans (entry rfl) (by
    show Steps p.tables e below (s₁.setTop (mkF m 0 #[.val (.ref x), .val (.ref y), .unset] [])) _
    refine XS.aloadN X0.here hexec rfl (hb hbytes d0) rfl rfl ?_
    refine XS.aloadN X0.here hexec rfl (hb hbytes d1) rfl rfl ?_
    exact Steps.refl _)
  by_cases hxy : x = y
  · have c2 : Steps p.tables e below (s₁.setTop (entryFrame m #[.ref x, .ref y] 3)) (s₁.setTop (mkF m 6 #[.val (.ref x), .val (.ref y), .unset] [.int 1])) := c1.trans (by
      refine acmpNo X0.here hexec rfl (hb hbytes d2) rfl rfl rfl (by simp [acmp, hxy]) ?_
      refine iconstV X0.here hexec rfl 1 (hb hbytes d5) (by decide) ?_
      exact Steps.refl _)
    subst hxy
    have ec : cd = cd' := by
      obtain ⟨D, fd, a1, a2, a3⟩ := hx.2.2.1
      obtain ⟨D', fd', b1, b2, b3⟩ := hy.2.2.1
      cases a1.symm.trans b1
      obtain ⟨q1, q2, q3, q4⟩ := a2.1
      obtain ⟨r1, r2, r3, r4⟩ := b2.1
      cases q4.symm.trans r4
      cases a3.symm.trans b3; rfl
    have et : t = t' := by
      obtain ⟨D, fd, a1, a2, a3⟩ := hx.2.1
      obtain ⟨D', fd', b1, b2, b3⟩ := hy.2.1
      cases a1.symm.trans b1
      obtain ⟨q1, q2, q3, q4⟩ := a2.1
      obtain ⟨r1, r2, r3, r4⟩ := b2.1
      cases q4.symm.trans r4
      cases a3.symm.trans b3; rfl
    subst ec et
    have ev : V = V' := by cases hx.2.2.2.1.1.symm.trans hy.2.2.2.1.1; rfl
    subst ev
    have hs : SameT n f k g := (Cod.eqv hx.2.2.2.2.1 hy.2.2.2.2.1 hx.2.2.2.2.2 hy.2.2.2.2.2).mp ⟨rfl, fun _ _ => rfl⟩
    exact ⟨s₁, some (.int 1), _, _, _, X0, rfl, rfl, rfl, (fun h => by cases h), ⟨1, rfl, hh0, Or.inl ⟨rfl, hs⟩⟩, fun fs hl => c2.trans (X0.ireturnOut hexec hret rfl (Or.inr (Or.inl rfl)) (hb hbytes d6) hl)⟩
  · have c2 : Steps p.tables e below (s₁.setTop (entryFrame m #[.ref x, .ref y] 3)) (s₁.setTop (mkF m 8 #[.val (.ref x), .val (.ref y), .unset] [.ref y])) := c1.trans (by
      refine acmpYes X0.here hexec rfl (pc0 := 2) rfl (hb hbytes d2) rfl rfl rfl (by simp [acmp, hxy]) (by decide) rfl ?_
      refine XS.aloadN X0.here hexec rfl (hb hbytes d7) rfl rfl ?_
      exact Steps.refl _)
    obtain ⟨T3, X3, q3, st3⟩ := cinst X0 hexec hown (wk W (.classLink "java/lang/String" 10 "java/lang/String")) (hy.mv X0.warmed.alike hh0).1 (g := (mkF m 8 #[.val (.ref x), .val (.ref y), .unset] [.ref y])) rfl (rest := []) rfl (hb hbytes d8)
    have hh3 := q3.trans hh0
    have c4 : Steps p.tables e below (s₁.setTop (entryFrame m #[.ref x, .ref y] 3)) (T3.setTop (mkF m 15 #[.val (.ref x), .val (.ref y), .unset] [.ref y])) := (c2.trans (st3 _ (Steps.refl _))).trans (by
      refine XS.ifNo X3.here hexec rfl (hb hbytes d11) rfl (i0_eq_f (by decide)) ?_
      refine XS.aloadN X3.here hexec rfl (hb hbytes d14) rfl rfl ?_
      exact Steps.refl _)
    obtain ⟨T5, X5, q5, st5⟩ := cself X3 hexec hown (wk W (.classLink "java/lang/String" 10 "java/lang/String")) (hy.mv X3.warmed.alike hh3).1 (g := (mkF m 15 #[.val (.ref x), .val (.ref y), .unset] [.ref y])) rfl (rest := []) rfl (hb hbytes d15)
    have hh5 := q5.trans hh3
    have c6 : Steps p.tables e below (s₁.setTop (entryFrame m #[.ref x, .ref y] 3)) (T5.setTop (mkF m 19 #[.val (.ref x), .val (.ref y), .val (.ref y)] [])) := (c4.trans (st5 _ (Steps.refl _))).trans (by
      refine XS.astoreN X5.here hexec rfl (hb hbytes d18) rfl rfl rfl ?_
      exact Steps.refl _)
    obtain ⟨T7, X7, q7, st7⟩ := X5.sget hexec hown (wk W (.fieldLink "java/lang/String" 38 "java/lang/String" "COMPACT_STRINGS" "Z")) s1 (fun _ _ h => by rw [hh5]; exact h) (g := (mkF m 19 #[.val (.ref x), .val (.ref y), .val (.ref y)] [])) rfl (hb hbytes d19)
    have hh7 := q7.trans hh5
    have c8 : Steps p.tables e below (s₁.setTop (entryFrame m #[.ref x, .ref y] 3)) (T7.setTop (mkF m 26 #[.val (.ref x), .val (.ref y), .val (.ref y)] [.ref x])) := (c6.trans (st7 _ (Steps.refl _))).trans (by
      refine XS.ifNo X7.here hexec rfl (hb hbytes d22) rfl (i0_eq_f hz) ?_
      refine XS.aloadN X7.here hexec rfl (hb hbytes d25) rfl rfl ?_
      exact Steps.refl _)
    obtain ⟨T9, X9, q9, st9⟩ := X7.hget hexec hown (wk W (.fieldLink "java/lang/String" 15 "java/lang/String" "coder" "B")) (hx.mv X7.warmed.alike hh7).2.2.1 (g := (mkF m 26 #[.val (.ref x), .val (.ref y), .val (.ref y)] [.ref x])) rfl (rest := []) rfl (hb hbytes d26)
    have hh9 := q9.trans hh7
    have c10 : Steps p.tables e below (s₁.setTop (entryFrame m #[.ref x, .ref y] 3)) (T9.setTop (mkF m 30 #[.val (.ref x), .val (.ref y), .val (.ref y)] [.ref y, .int cd])) := (c8.trans (st9 _ (Steps.refl _))).trans (by
      refine XS.aloadN X9.here hexec rfl (hb hbytes d29) rfl rfl ?_
      exact Steps.refl _)
    obtain ⟨T11, X11, q11, st11⟩ := X9.hget hexec hown (wk W (.fieldLink "java/lang/String" 15 "java/lang/String" "coder" "B")) (hy.mv X9.warmed.alike hh9).2.2.1 (g := (mkF m 30 #[.val (.ref x), .val (.ref y), .val (.ref y)] [.ref y, .int cd])) rfl (rest := [.int cd]) rfl (hb hbytes d30)
    have hh11 := q11.trans hh9
    have c12 : Steps p.tables e below (s₁.setTop (entryFrame m #[.ref x, .ref y] 3)) (T11.setTop (mkF m 33 #[.val (.ref x), .val (.ref y), .val (.ref y)] [.int cd', .int cd])) := c10.trans (st11 _ (Steps.refl _))
    by_cases hcd : cd = cd'
    · subst hcd
      have c13 : Steps p.tables e below (s₁.setTop (entryFrame m #[.ref x, .ref y] 3)) (T11.setTop (mkF m 37 #[.val (.ref x), .val (.ref y), .val (.ref y)] [.ref x])) := c12.trans (by
        refine XS.icmpNo X11.here hexec rfl (hb hbytes d33) rfl (ii_ne_f rfl) ?_
        refine XS.aloadN X11.here hexec rfl (hb hbytes d36) rfl rfl ?_
        exact Steps.refl _)
      obtain ⟨T14, X14, q14, st14⟩ := X11.hget hexec hown (wk W (.fieldLink "java/lang/String" 9 "java/lang/String" "value" "[B")) (hx.mv X11.warmed.alike hh11).2.1 (g := (mkF m 37 #[.val (.ref x), .val (.ref y), .val (.ref y)] [.ref x])) rfl (rest := []) rfl (hb hbytes d37)
      have hh14 := q14.trans hh11
      have c15 : Steps p.tables e below (s₁.setTop (entryFrame m #[.ref x, .ref y] 3)) (T14.setTop (mkF m 41 #[.val (.ref x), .val (.ref y), .val (.ref y)] [.ref y, .ref t])) := (c13.trans (st14 _ (Steps.refl _))).trans (by
        refine XS.aloadN X14.here hexec rfl (hb hbytes d40) rfl rfl ?_
        exact Steps.refl _)
      obtain ⟨T16, X16, q16, st16⟩ := X14.hget hexec hown (wk W (.fieldLink "java/lang/String" 9 "java/lang/String" "value" "[B")) (hy.mv X14.warmed.alike hh14).2.1 (g := (mkF m 41 #[.val (.ref x), .val (.ref y), .val (.ref y)] [.ref y, .ref t])) rfl (rest := [.ref t]) rfl (hb hbytes d41)
      have hh16 := q16.trans hh14
      have c17 : Steps p.tables e below (s₁.setTop (entryFrame m #[.ref x, .ref y] 3)) (T16.setTop (mkF m 44 #[.val (.ref x), .val (.ref y), .val (.ref y)] [.ref t', .ref t])) := c15.trans (st16 _ (Steps.refl _))
      obtain ⟨v18, T18, X18, E18, g18⟩ := X16.callS hexec (LEq.law l t V t' V') hown (wks W (staticW "java/lang/String" 541 LEq.yN)) (wk W LEq.tab) (W := 0) (Nat.le_of_ble_eq_true rfl) (Nat.le_of_ble_eq_true rfl) (Nat.le_refl _) (Nat.le_refl _) (g := (mkF m 44 #[.val (.ref x), .val (.ref y), .val (.ref y)] [.ref t', .ref t])) rfl (by rw [hml]; rfl) c17 (argsL := [.ref t, .ref t']) (rest := []) rfl rfl (by show 2 * 0 + 0 ≤ _; decide) (hb hbytes d44) (⟨rfl, hx.2.2.2.1.mv X16.warmed.alike hh16, hx.2.2.2.2.1.ty, hy.2.2.2.1.mv X16.warmed.alike hh16, hy.2.2.2.2.1.ty⟩)
      obtain ⟨v, rfl, q18, hv⟩ := E18
      have iff := Cod.eqv hx.2.2.2.2.1 hy.2.2.2.2.1 hx.2.2.2.2.2 hy.2.2.2.2.2
      rcases hv with ⟨rfl, he⟩ | ⟨rfl, he⟩
      · have c19 : Steps p.tables e below (s₁.setTop (entryFrame m #[.ref x, .ref y] 3)) (T18.setTop (mkF m 55 #[.val (.ref x), .val (.ref y), .val (.ref y)] [.int 1])) := Steps.trans g18 (by
          refine XS.ifNo X18.here hexec rfl (hb hbytes d47) rfl (i0_eq_f (by decide)) ?_
          refine iconstV X18.here hexec rfl 1 (hb hbytes d50) (by decide) ?_
          refine XS.goto X18.here hexec rfl (pc0 := 51) rfl (hb hbytes d51) (by decide) rfl ?_
          exact Steps.refl _)
        exact ⟨T18, some (.int 1), _, _, _, X18, rfl, rfl, rfl, (fun h => by cases h), ⟨1, rfl, q18.trans hh16, Or.inl ⟨rfl, iff.mp he⟩⟩, fun fs hl => c19.trans (X18.ireturnOut hexec hret rfl (Or.inr (Or.inl rfl)) (hb hbytes d55) hl)⟩
      · have c19 : Steps p.tables e below (s₁.setTop (entryFrame m #[.ref x, .ref y] 3)) (T18.setTop (mkF m 55 #[.val (.ref x), .val (.ref y), .val (.ref y)] [.int 0])) := Steps.trans g18 (by
          refine XS.ifYes X18.here hexec rfl (pc0 := 47) rfl (hb hbytes d47) rfl (i0_eq_t rfl) (by decide) rfl ?_
          refine iconstV X18.here hexec rfl 0 (hb hbytes d54) (by decide) ?_
          exact Steps.refl _)
        exact ⟨T18, some (.int 0), _, _, _, X18, rfl, rfl, rfl, (fun h => by cases h), ⟨0, rfl, q18.trans hh16, Or.inr ⟨rfl, fun q => he (iff.mpr q)⟩⟩, fun fs hl => c19.trans (X18.ireturnOut hexec hret rfl (Or.inr (Or.inl rfl)) (hb hbytes d55) hl)⟩
    · have c13 : Steps p.tables e below (s₁.setTop (entryFrame m #[.ref x, .ref y] 3)) (T11.setTop (mkF m 55 #[.val (.ref x), .val (.ref y), .val (.ref y)] [.int 0])) := c12.trans (by
        refine XS.icmpYes X11.here hexec rfl (pc0 := 33) rfl (hb hbytes d33) rfl (ii_ne_t hcd) (by decide) rfl ?_
        refine iconstV X11.here hexec rfl 0 (hb hbytes d54) (by decide) ?_
        exact Steps.refl _)
      exact ⟨T11, some (.int 0), _, _, _, X11, rfl, rfl, rfl, (fun h => by cases h), ⟨0, rfl, hh11, Or.inr ⟨rfl, Cod.dif hx.2.2.2.2.1 hy.2.2.2.2.1 hcd⟩⟩, fun fs hl => c13.trans (X11.ireturnOut hexec hret rfl (Or.inr (Or.inl rfl)) (hb hbytes d55) hl)⟩
theorem pays {l : Launch} {R : Room} {p : Program} {e : Env} {below : List Frame} {s : State} {sargs : Array Value} {len W : Nat} (x t : Addr) (V : Cell) (cd : Int32) (n : Nat) (f : Nat → Int32) (y t' : Addr) (V' : Cell) (cd' : Int32) (k : Nat) (g : Nat → Int32) (z : Int32) (htab : tab.before sargs s = true) (hfr : 2 ≤ R.frames) (hlo : W + 28 ≤ R.locals) :
    Back l R p e below s sargs yN len W (fun A₁ a₁ => A₁.cells + 0 ≤ R.cells ∧ A₁.slots + 0 ≤ R.slots ∧ P x t V cd n f y t' V' cd' k g z a₁ A₁.U) (fun A₁ _ v₁ B₁ => Says01 (SameT n f k g) v₁ A₁.U B₁.U ∧ B₁.locs = A₁.locs ++ [] ∧ B₁.cells = A₁.cells + 0 ∧ B₁.slots = A₁.slots + 0) :=
  (law l x t V cd n f y t' V' cd' k g z).pays htab hfr (by omega)
end SEq
end StrChars
namespace StrChars.Road
open Jvm Sem ClassFile Op Lib Jvm.Stand Jvm.Free Jvm.Free.XT
open Jvm.Lib.Cold (StaticIs)
/-- the words of String.equals(Object) -/
abbrev wordsEq : List Jvm.Cond := [.code SEq.yN SEq.yB 3 (some .boolean), .initialized ST, .classLink ST 10 ST, .fieldLink ST 38 ST "COMPACT_STRINGS" "Z", .fieldLink ST 15 ST "coder" "B", .fieldLink ST 9 ST "value" "[B", .methodLink ST 541 LEq.yN, .static LEq.yN, .code LEq.yN LEq.yB 3 (some .boolean), .initialized "java/lang/StringLatin1"]
theorem tabEq_of {a : Array Value} {s : State} (h : ∀ w ∈ wordsEq, w.before a s = true) : SEq.tab.before a s = true := by
  have hl : LEq.tab.before a s = true := unparts (wk h (.code LEq.yN LEq.yB 3 (some .boolean))) (wks h (.initialized LEq.yN.cls :: LEq.site))
  have q := consq hl h
  exact unparts (wk q (.code SEq.yN SEq.yB 3 (some .boolean))) (wks q (.initialized SEq.yN.cls :: SEq.site))
theorem movedEq {Z s : State} {a0 args : Array Value} (hZ : Z.Warmed39 s.vm) (hw : ∀ d ∈ wordsEq, d.before a0 Z = true) : ∀ d ∈ wordsEq, d.before args s = true := fun d hd => by
  have t : ∀ d ∈ wordsEq, (d.onTables && d.keepsFace) = true := by decide +kernel
  exact RoadKit.mv hZ (hw d hd) (t d hd)
/-- the road's facts of a String, as the laws ask it -/
theorem txt_of {Z U : State} {a0 : Array Value} {kI : Nat} (wi : (Jvm.Cond.instantiable ST kI).before a0 Z = true) (al : Z.vm.Alike U.vm) {x t : Addr} {kb : ClassId} {cs : List Int32} {cd N2 : Int32} {vs : List Value} (E : RoadKit.Exa Z U.heap x ST) (V : RoadKit.Fld Z U.heap x ST "value" "[B" (.ref t)) (C : RoadKit.Fld Z U.heap x ST "coder" "B" (.int cd)) (K : RoadKit.Arv Z U.heap t kb .byte N2 vs (.int 0)) (hc : CodA cs cd N2 vs) (hb : ∀ c ∈ cs, ¬ c < 0 ∧ ¬ (65535 : Int32) < c) (l2 : cs.length ≤ 4000) :
    ∃ A, Txt x t A cd cs.length (fun j => cs.getD j 0) U := by
  obtain ⟨A, K1, K2, K3, K4, K5, K6⟩ := K
  have hcod := hc.cod (by omega) K3 K5
  obtain ⟨D, fV, fC, hB, F1, F2, g1, g2, -, -⟩ := strObj wi al E V C
  exact ⟨A, ⟨_, hB.2.2.1, D, hB.1, rfl, by cases q : D.vm <;> first | rfl | exact absurd q (hB.2.1.2 _)⟩, Has.of hB F1 g1, Has.of hB F2 g2, ⟨K1.1, State.isArrayOf_alike al K1.2.1, K1.2.2, by rcases hcod with ⟨-, q, -⟩ | ⟨-, q, -⟩ <;> omega⟩, hcod, fun j hj => by
    have e : cs.getD j 0 = cs[j] := by simp [List.getD_eq_getElem?_getD, hj]
    show ¬ cs.getD j 0 < 0 ∧ ¬ 65535 < cs.getD j 0
    rw [e]; exact hb _ (List.getElem_mem _)⟩
theorem same_list (cs ds : List Int32) : SameT cs.length (fun j => cs.getD j 0) ds.length (fun j => ds.getD j 0) ↔ cs = ds := by
  constructor
  · rintro ⟨e, q⟩
    refine List.ext_getElem e fun j h1 h2 => ?_
    have := q j h1
    simpa [List.getD_eq_getElem?_getD, h1, h2] using this
  · rintro rfl
    exact ⟨rfl, fun _ _ => rfl⟩
/-- **equals(Object) OF TWO SUCH STRINGS**: 1 just where the chars are the same -/
theorem eqW {p : Program} {l : Launch} {e : Env} {R : Room} {s : State} {args : Array Value} {below : List Frame} {len W : Nat} {Z : State} {a0 : Array Value} {h : Heap} (hZ : Z.Warmed39 s.vm) (hw : ∀ d ∈ wordsEq, d.before a0 Z = true) {kI : Nat} (wi : (Jvm.Cond.instantiable ST kI).before a0 Z = true)
    {x t : Addr} {kb : ClassId} {cs : List Int32} {cd N2 : Int32} {vs : List Value} (E : RoadKit.Exa Z h x ST) (V : RoadKit.Fld Z h x ST "value" "[B" (.ref t)) (C : RoadKit.Fld Z h x ST "coder" "B" (.int cd)) (K : RoadKit.Arv Z h t kb .byte N2 vs (.int 0)) (hc : CodA cs cd N2 vs) (hb : ∀ c ∈ cs, ¬ c < 0 ∧ ¬ (65535 : Int32) < c) (l2 : cs.length ≤ 4000)
    {y t' : Addr} {kb' : ClassId} {ds : List Int32} {cd' N2' : Int32} {vs' : List Value} (E' : RoadKit.Exa Z h y ST) (V' : RoadKit.Fld Z h y ST "value" "[B" (.ref t')) (C' : RoadKit.Fld Z h y ST "coder" "B" (.int cd')) (K' : RoadKit.Arv Z h t' kb' .byte N2' vs' (.int 0)) (hc' : CodA ds cd' N2' vs') (hb' : ∀ c ∈ ds, ¬ c < 0 ∧ ¬ (65535 : Int32) < c) (l2' : ds.length ≤ 4000)
    {z : Int32} (S : RoadKit.Sta Z h ST "COMPACT_STRINGS" "Z" (.int z)) (hz : ¬ z = 0) (hfr : 2 ≤ R.frames) (hlo : W + 28 ≤ R.locals) :
    Back l R p e below s args (⟨"java/lang/String", "equals", "(Ljava/lang/Object;)Z"⟩ : MethodName) len W (fun P a => a = #[.ref x, .ref y] ∧ P.U.heap = h ∧ P.cells + 0 ≤ R.cells ∧ P.slots + 0 ≤ R.slots)
      (fun P _ v B => ∃ L, (((v = some (.int 1) ∧ cs = ds) ∨ (v = some (.int 0) ∧ ¬ cs = ds)) ∧ L = [] ∧ B.U.heap = h) ∧ B.locs = P.locs ++ L ∧ B.cells = P.cells + 0 ∧ B.slots = P.slots + 0) := by
  intro m meth c P g ig mk a X hg hsize hdg hW hn hp'
  obtain ⟨rfl, rfl, r1, r2⟩ := hp'
  have al : Z.vm.Alike P.U.vm := hZ.alike.trans X.warmed.alike
  obtain ⟨A, hx⟩ := txt_of wi al E V C K hc hb l2
  obtain ⟨A', hy⟩ := txt_of wi al E' V' C' K' hc' hb' l2'
  obtain ⟨v, B, X', ⟨⟨w, hv, hh, hq⟩, hl, hk, hs⟩, st⟩ := SEq.pays x t A cd cs.length (fun j => cs.getD j 0) y t' A' cd' ds.length (fun j => ds.getD j 0) z (tabEq_of (movedEq hZ hw)) hfr hlo m meth c P g ig mk _ X hg hsize hdg hW hn ⟨r1, r2, rfl, hx, hy, sta_is al S, hz⟩
  refine ⟨v, B, X', ⟨[], ⟨?_, rfl, hh⟩, hl, hk, hs⟩, st⟩
  rcases hq with ⟨rfl, q⟩ | ⟨rfl, q⟩
  · exact Or.inl ⟨hv, (same_list cs ds).mp q⟩
  · exact Or.inr ⟨hv, fun e => q ((same_list cs ds).mpr e)⟩
end StrChars.Road
namespace StrChars.Road
open Jvm Sem ClassFile Op Lib Jvm.Stand Jvm.Free Jvm.Free.XT
open Jvm.Lib.Cold (StaticIs)
/-- what backV says of its String, as the contracts of this text ask it: cs's low bytes, coder 0 -/
theorem codOf {cs : List Int32} {n : Nat} (hn : cs.length = n) (hb : ∀ c ∈ cs, ¬ 255 < c) : CodA cs 0 (Int32.ofNat n) ((cs.map lo8).map Value.int) := Or.inl ⟨rfl, by rw [hn], by simp [List.map_map, Function.comp_def], hb⟩
end StrChars.Road
end Jvm.Pilot.@@N@@
namespace Jvm.Pilot.@@N@@
open Jvm Jvm.ClassFile Sem Op Lib Jvm.Free Jvm.Stand Jvm.LawKit Jvm.RoadKit Bundle Jvm.Pilot.@@N@@.Jvm.D
def irm (a b : Int32) : Int32 := a - a / b * b
theorem wi {Z : State} {a0 : Array Value} (hw : ∀ d ∈ tables_1, d.before a0 Z = true) {d : Jvm.Cond} (i : Nat) (h : tables_1[i]? = some d) : d.before a0 Z = true := hw d (List.mem_of_getElem? h)
theorem own_uniq {Z : State} {h : Heap} {a : Addr} {C n d : String} {v w : Value} (F : Fld Z h a C n d v) (G : Fld Z h a C n d w) : v = w := by
  obtain ⟨c1, cf1, k1, i1, f1, a1, a2, -, -, -, -, a7⟩ := F
  obtain ⟨c2, cf2, k2, i2, f2, b1, b2, -, -, -, -, b7⟩ := G
  cases a1.symm.trans b1
  cases a2.symm.trans b2
  exact Option.some.inj (a7.symm.trans b7)
theorem own_ne {Z : State} {h : Heap} {a b : Addr} {C n d : String} {v w : Value} (F : Fld Z h a C n d v) (G : Fld Z h b C n d w) (hn : v ≠ w) : a ≠ b := fun e => by
  subst e
  exact hn (own_uniq F G)
theorem own_fldI {s : State} {args : Array Value} {t : Term} {a : Addr} {C n d : String} {k : Int32} (ev : t.eval args s none [] s = some (.ref a)) (h : (Cond.eq (Term.field t C n d) (Term.int k)).value args s none s [] = some true) : Fld s s.heap a C n d (.int k) := Fld.start ((fld_at ev).symm.trans (eqv_i rfl h))
theorem own_len {s : State} {args : Array Value} {t : Term} {a : Addr} {cl : Cell} {ty : FieldType} {n : Int32} (ev : t.eval args s none [] s = some (.ref a)) (A : Arr s s.heap a cl ty) (h : (Cond.eq (Term.length t) (Term.int n)).value args s none s [] = some true) : cl.slots.size < 2 ^ 31 ∧ cl.slots.size.toInt32 = n := by
  have e := eqv_i rfl h
  have ha := A.fin (Vm.Alike.refl _)
  simp only [Term.eval, ev, Option.bind_eq_bind, Option.bind_some, ha] at e
  split at e
  · rename_i hl
    exact ⟨hl, by simpa using e⟩
  · cases e
theorem own_elI {s : State} {args : Array Value} {t : Term} {a : Addr} {cl : Cell} {ty : FieldType} {j v : Int32} (ev : t.eval args s none [] s = some (.ref a)) (A : Arr s s.heap a cl ty) (h : (Cond.eq (Term.elem t (Term.int j)) (Term.int v)).value args s none s [] = some true) : cl.slots[j.toNatClampNeg]? = some (.int v) := (elem_in (eqv_i rfl h) ev rfl A.1).2
theorem own_eqv_r {Z : State} {args : Array Value} {X F : Term} {idx : List Nat} {y : Addr} (hF : F.eval args Z none idx Z = some (.ref y)) (h : (Cond.eq X F).value args Z none Z idx = some true) : X.eval args Z none idx Z = some (.ref y) := by
  obtain ⟨x, y', e1, e2, k1, k2⟩ := cmp_v (Or.inl h)
  cases hF.symm.trans e2
  have hx : x.isRef = true := k2.2
  rw [e1, gotT (eq_R e1 hF hx rfl) h]
theorem own_elR {s : State} {args : Array Value} {t F : Term} {a w : Addr} {cl : Cell} {ty : FieldType} {j : Int32} (ev : t.eval args s none [] s = some (.ref a)) (A : Arr s s.heap a cl ty) (hF : F.eval args s none [] s = some (.ref w)) (h : (Cond.eq (Term.elem t (Term.int j)) F).value args s none s [] = some true) : cl.slots[j.toNatClampNeg]? = some (.ref w) := (elem_in (own_eqv_r hF h) ev rfl A.1).2
theorem own_and255 (x : Int32) : ¬ nar .char ((x &&& (255 : Int32)).toUInt32.toUInt16.toUInt32.toInt32) < 0 ∧ ¬ (255 : Int32) < nar .char ((x &&& (255 : Int32)).toUInt32.toUInt16.toUInt32.toInt32) := by
  have t : ∀ k : Fin 256, ¬ nar .char ((Int32.ofNat k.val).toUInt32.toUInt16.toUInt32.toInt32) < 0 ∧ ¬ (255 : Int32) < nar .char ((Int32.ofNat k.val).toUInt32.toUInt16.toUInt32.toInt32) := by decide +kernel
  have h : (x &&& 255).toBitVec.toNat < 256 := by
    simp only [Int32.toBitVec_and, BitVec.toNat_and]
    exact Nat.lt_succ_of_le Nat.and_le_right
  have e : (x &&& 255) = Int32.ofNat (x &&& 255).toBitVec.toNat := by
    apply Int32.toBitVec_inj.mp
    show _ = BitVec.ofNat 32 _
    rw [BitVec.ofNat_toNat]; simp
  rw [e]
  exact t ⟨_, h⟩
theorem own_nar {x : Int32} (h : ¬ x < 0 ∧ ¬ (255 : Int32) < x) : nar .char x = x := by
  have t : ∀ k : Fin 256, nar .char (Int32.ofNat k.val) = Int32.ofNat k.val := by decide +kernel
  obtain ⟨h1, h2⟩ := h
  rw [Int32.lt_iff_toInt_lt] at h1 h2
  have e0 : (0 : Int32).toInt = 0 := rfl
  have e1 : (255 : Int32).toInt = 255 := rfl
  have e : x = Int32.ofNat x.toInt.toNat := by
    apply Int32.toInt_inj.mp
    rw [Int32.toInt_ofNat_of_lt (by omega)]
    omega
  rw [e]
  exact t ⟨x.toInt.toNat, by omega⟩
theorem own_safe0 {Z : State} {EL : List (String × Nat)} {vm : Vm} {h : Heap} {x : Addr} (hal : Z.vm.Alike vm) (E : Exa Z h x "java/lang/String") (F : Fld Z h x "java/lang/String" "value" "[B" .null) : Safe Z EL vm h x := fun B => by
  obtain ⟨cell, k, e1, e2, e3, -, -⟩ := E
  obtain ⟨p, -, u, a, -, q, -, G, rfl | rfl⟩ := B
  · obtain ⟨c2, cf, kf, i, f, g1, g2, g3, g4, g5, g6, g7⟩ := F
    cases (show h[q.sa]? = some q.sC from G.ha).symm.trans g1
    obtain ⟨cS, ⟨⟨-, -, -, ⟨c1, k1, i1, f1, -⟩, -, -, -, v1, -⟩, -⟩, -⟩ := G
    obtain ⟨k3, e3', -⟩ := State.fieldFound?_setVm (s := Z) hal g2
    have e4 := (show (Wst Z vm h).fieldFound? _ _ _ = _ from e3').symm.trans f1
    simp only [Option.some.injEq, Prod.mk.injEq] at e4
    rw [← e4.2.2.2, g7] at v1
    cases v1
  · cases (show h[q.sd]? = some q.SA from G.hd).symm.trans e1
    obtain ⟨cS, -, -, f, -⟩ := G
    have f' := f
    rw [show (Wst Z vm h).vm.findClass "[B" = Z.vm.findClass "[B" from hal.findClass _ _] at f'
    obtain ⟨k1, q1, q2⟩ := Vm.findClass_spec f'
    obtain ⟨k2, q3, q4⟩ := Vm.findClass_spec e2
    cases q1.symm.trans q3
    exact absurd (q2.symm.trans q4) (by decide)
theorem own_up (cs : List Int32) (h : ∀ c ∈ cs, ¬ c < 0 ∧ ¬ (255 : Int32) < c) : ∀ c ∈ cs, ¬ c < 0 ∧ ¬ (65535 : Int32) < c := fun c hc => ⟨(h c hc).1, fun q => (h c hc).2 (by rw [Int32.lt_iff_toInt_lt] at q ⊢; have e1 : (65535 : Int32).toInt = 65535 := rfl; have e2 : (255 : Int32).toInt = 255 := rfl; omega)⟩
theorem own_memS {a : Int32} {l : List Int32} (h : ¬ a < 0 ∧ ¬ (255 : Int32) < a) (r : ∀ c ∈ l, ¬ c < 0 ∧ ¬ (255 : Int32) < c) : ∀ c ∈ a :: l, ¬ c < 0 ∧ ¬ (255 : Int32) < c := fun c hc => by
  rcases List.mem_cons.mp hc with q | q
  · rw [q]; exact h
  · exact r c q
theorem own_mem0 : ∀ c ∈ ([] : List Int32), ¬ c < 0 ∧ ¬ (255 : Int32) < c := fun _ q => nomatch q
def Str (Z : State) (h : Heap) (x : Addr) (cs : List Int32) : Prop := ∃ (t : Addr) (kb : ClassId) (N : Int32) (vs : List Value), Exa Z h x "java/lang/String" ∧ Fld Z h x "java/lang/String" "value" "[B" (.ref t) ∧ Fld Z h x "java/lang/String" "coder" "B" (.int 0) ∧ Arv Z h t kb .byte N vs (.int 0) ∧ StrChars.Road.CodA cs 0 N vs ∧ (∀ c ∈ cs, ¬ c < 0 ∧ ¬ (255 : Int32) < c) ∧ cs.length ≤ 4000
theorem Str.ext {Z : State} {h h' : Heap} {x : Addr} {cs : List Int32} (E : Ext h h') (S : Str Z h x cs) : Str Z h' x cs := by
  obtain ⟨t, kb, N, vs, q1, q2, q3, q4, q5, q6, q7⟩ := S
  exact ⟨t, kb, N, vs, q1.ext E, q2.ext E, q3.ext E, q4.ext E, q5, q6, q7⟩
theorem own_ext {h h' : Heap} (K : Keep h h' []) : Ext h h' := ⟨K.1, fun a c q => K.2.1 a c q nin0⟩
theorem own_EW {Z : State} {a0 : Array Value} (hw : ∀ d ∈ tables_1, d.before a0 Z = true) : EW Z a0 consts_1 := EW.cons (wi hw 30 rfl) (by decide) (EW.cons (wi hw 79 rfl) (by decide) (EW.cons (wi hw 18 rfl) (by decide) EW.nil))
def drawF (x : Int32) : Int32 := if (x &&& (256 : Int32)) = 0 then nar .char ((x &&& (255 : Int32)).toUInt32.toUInt16.toUInt32.toInt32) else if (x &&& (3 : Int32)) = 0 then 61 else if (x &&& (3 : Int32)) = 1 then 60 else if (x &&& (3 : Int32)) = 2 then 62 else 33
theorem own_draw (x : Int32) : ¬ drawF x < 0 ∧ ¬ (255 : Int32) < drawF x := by
  unfold drawF
  split
  · exact own_and255 x
  · split
    · decide
    · split
      · decide
      · split <;> decide
def expF (w0 w1 w2 w3 w4 w5 : Addr) (q c0 c1 : Int32) : Value := if q = 1 then (if c0 = 61 then .ref w0 else if c0 = 60 then .ref w2 else if c0 = 62 then .ref w3 else .null) else if q = 2 then (if c0 = 60 ∧ c1 = 62 then .ref w1 else if c0 = 33 ∧ c1 = 61 then .ref w1 else if c0 = 60 ∧ c1 = 61 then .ref w4 else if c0 = 62 ∧ c1 = 61 then .ref w5 else .null) else .null
def specF (w0 w1 w2 w3 w4 w5 : Addr) (cs : List Int32) : Value := if cs = [33, 61] then .ref w1 else if cs = [61] then .ref w0 else if cs = [60, 62] then .ref w1 else if cs = [60] then .ref w2 else if cs = [62] then .ref w3 else if cs = [60, 61] then .ref w4 else if cs = [62, 61] then .ref w5 else .null
def QP (r : Value) (h0 : Heap) (n0 : Nat) (v : Option Value) (h : Heap) (L : List Loc) : Prop := v = some r ∧ Fr n0 L ∧ h = h0
theorem d1_0 : decode method_2_code 0 = .ok (.iload_n 0, 1) := by decide +kernel
theorem d1_1 : decode method_2_code 1 = .ok (.sipush 256, 3) := by decide +kernel
theorem d1_4 : decode method_2_code 4 = .ok (.iand, 1) := by decide +kernel
theorem d1_5 : decode method_2_code 5 = .ok (.ifCond .eq 33, 3) := by decide +kernel
theorem d1_38 : decode method_2_code 38 = .ok (.iload_n 0, 1) := by decide +kernel
theorem d1_39 : decode method_2_code 39 = .ok (.sipush 255, 3) := by decide +kernel
theorem d1_42 : decode method_2_code 42 = .ok (.iand, 1) := by decide +kernel
theorem d1_43 : decode method_2_code 43 = .ok (.i2c, 1) := by decide +kernel
theorem d1_44 : decode method_2_code 44 = .ok (.ireturn, 1) := by decide +kernel
theorem ef_I_2 (m : MethodId) (x0 : Int32) : entryFrame m #[(.int x0)] 2 = mkF m 0 #[.val (.int x0), .unset] [] := by first | (simp [entryFrame, mkF, argsToLocals, Value.category]; done) | rfl
theorem pn_0 : plainName "com/example/plugroot/plugroot/sql/ComparisonOfPinLaw" = true := by first | (simp [plainName, overriddenIn]; done) | decide +kernel
set_option maxRecDepth 65536 in
set_option maxHeartbeats 40000000 in
theorem rm1_a (l : Launch) (Z : State) (a0 : Array Value) (hw : ∀ d ∈ tables_1, d.before a0 Z = true) (ws : List Jvm.Cond) (p1 : Int32) (h0 : Heap) (n0 : Nat) (O0 : Old Z n0 h0) (hc5 : (p1 &&& (256 : Int32)) = (0 : Int32)) :
    MetFree l (⟨"com/example/plugroot/plugroot/sql/ComparisonOfPinLaw", "draw", "(I)C"⟩ : MethodName) (head1 (Jvm.Cond.code (⟨"com/example/plugroot/plugroot/sql/ComparisonOfPinLaw", "draw", "(I)C"⟩ : MethodName) method_2_code 2 (some .char) :: ws) ({ frames := 0, cells := 0, slots := 0, locals := 0 } : Room)) (fun a_ U => a_ = #[(.int p1)] ∧ Z.Warmed39 U.vm ∧ U.heap = h0) (fun _ _ _ _ _ => True) (fun _ U o U' => ∃ v L, o = .returned v ∧ QP (.int (nar .char ((p1 &&& (255 : Int32)).toUInt32.toUInt16.toUInt32.toInt32))) h0 n0 v U'.heap L ∧ FrameEnd U o U' L ({ frames := 0, cells := 0, slots := 0, locals := 0 } : Room).cells ({ frames := 0, cells := 0, slots := 0, locals := 0 } : Room).slots) := by
  refine MetFree.of_bodySF (plainFor_of_name pn_0) hisR ?_
  intro p e s m args below meth c s₁ Bd hml0 hP hK
  obtain ⟨rfl, hZ, hh⟩ := hP
  have hx := Bd.exec
  have hby := Bd.bytes
  have hml : c.maxLocals = 2 := hml0
  have hown : s.vm.findClass "com/example/plugroot/plugroot/sql/ComparisonOfPinLaw" = some m.cls := findClass_of_methodNamed Bd.named
  have hnm := (name_of_methodNamed Bd.named Bd.method).1
  have X0 : Stand p l e ({ frames := 0, cells := 0, slots := 0, locals := 0 } : Room) s m #[(.int p1)] below meth c s₁ [] 0 0 := Stand.of_body Bd
  have e0 : s₁.heap = h0 := by rw [← hh, Bd.state]; rfl
  have N0 := Fr.nil n0
  have pre0 : ∀ tg, Steps p.tables e below (s₁.setTop (mkF m 0 #[.val (.int p1), .unset] [])) tg → Steps p.tables e below (s₁.setTop (entryFrame m #[(.int p1)] 2)) tg := fun tg kq => castTop (ef_I_2 m p1) kq
  obtain ⟨fs, hr, hrun, hended, hW, hsame⟩ := X0.leave (v := some (.int (nar .char ((p1 &&& (255 : Int32)).toUInt32.toUInt16.toUInt32.toInt32)))) (fun h => by rw [Bd.returns] at h; cases h)
  refine ⟨_, _, pre0 _ ?_, hrun, hended, _, _, rfl, ?_, ⟨_, rfl⟩, hW, hsame.mono (by decide) (by decide)⟩
  · show Steps p.tables e below (s₁.setTop (mkF m 0 #[.val (.int p1), .unset] [])) _
    refine XS.iloadN X0.here hx rfl (hb hby d1_0) rfl ?_
    show Steps p.tables e below (s₁.setTop (mkF m 1 #[.val (.int p1), .unset] [(.int p1)])) _
    refine XS.sipush X0.here hx rfl (hb hby d1_1) ?_
    show Steps p.tables e below (s₁.setTop (mkF m 4 #[.val (.int p1), .unset] [(.int (256 : Int32)), (.int p1)])) _
    refine XS.iand X0.here hx rfl (hb hby d1_4) rfl ?_
    show Steps p.tables e below (s₁.setTop (mkF m 5 #[.val (.int p1), .unset] [(.int (p1 &&& (256 : Int32)))])) _
    refine XS.ifYes X0.here hx rfl (pc0 := 5) (pc' := 38) rfl (hb hby d1_5) rfl ((if0 _ _).trans (teq hc5).1) (by decide) (by decide) ?_
    show Steps p.tables e below (s₁.setTop (mkF m 38 #[.val (.int p1), .unset] [])) _
    refine XS.iloadN X0.here hx rfl (hb hby d1_38) rfl ?_
    show Steps p.tables e below (s₁.setTop (mkF m 39 #[.val (.int p1), .unset] [(.int p1)])) _
    refine XS.sipush X0.here hx rfl (hb hby d1_39) ?_
    show Steps p.tables e below (s₁.setTop (mkF m 42 #[.val (.int p1), .unset] [(.int (255 : Int32)), (.int p1)])) _
    refine XS.iand X0.here hx rfl (hb hby d1_42) rfl ?_
    show Steps p.tables e below (s₁.setTop (mkF m 43 #[.val (.int p1), .unset] [(.int (p1 &&& (255 : Int32)))])) _
    refine XS.i2c X0.here hx rfl (hb hby d1_43) rfl ?_
    show Steps p.tables e below (s₁.setTop (mkF m 44 #[.val (.int p1), .unset] [(.int ((p1 &&& (255 : Int32)).toUInt32.toUInt16.toUInt32.toInt32))])) _
    exact retN X0 hx (t := .char) Bd.returns (by simp) (hb hby d1_44) hr
  · show QP (.int (nar .char ((p1 &&& (255 : Int32)).toUInt32.toUInt16.toUInt32.toInt32))) h0 n0 _ s₁.heap _
    rw [e0]
    exact ⟨rfl, N0, rfl⟩
theorem d1_8 : decode method_2_code 8 = .ok (.iload_n 0, 1) := by decide +kernel
theorem d1_9 : decode method_2_code 9 = .ok (.iconst 3, 1) := by decide +kernel
theorem d1_10 : decode method_2_code 10 = .ok (.iand, 1) := by decide +kernel
theorem d1_11 : decode method_2_code 11 = .ok (.istore_n 1, 1) := by decide +kernel
theorem d1_12 : decode method_2_code 12 = .ok (.iload_n 1, 1) := by decide +kernel
theorem d1_13 : decode method_2_code 13 = .ok (.ifCond .ne 6, 3) := by decide +kernel
theorem d1_16 : decode method_2_code 16 = .ok (.bipush 61, 2) := by decide +kernel
theorem d1_18 : decode method_2_code 18 = .ok (.ireturn, 1) := by decide +kernel
set_option maxRecDepth 65536 in
set_option maxHeartbeats 40000000 in
theorem rm1_b (l : Launch) (Z : State) (a0 : Array Value) (hw : ∀ d ∈ tables_1, d.before a0 Z = true) (ws : List Jvm.Cond) (p1 : Int32) (h0 : Heap) (n0 : Nat) (O0 : Old Z n0 h0) (hc5 : ¬ ((p1 &&& (256 : Int32)) = (0 : Int32))) (hc13 : (p1 &&& (3 : Int32)) = (0 : Int32)) :
    MetFree l (⟨"com/example/plugroot/plugroot/sql/ComparisonOfPinLaw", "draw", "(I)C"⟩ : MethodName) (head1 (Jvm.Cond.code (⟨"com/example/plugroot/plugroot/sql/ComparisonOfPinLaw", "draw", "(I)C"⟩ : MethodName) method_2_code 2 (some .char) :: ws) ({ frames := 0, cells := 0, slots := 0, locals := 0 } : Room)) (fun a_ U => a_ = #[(.int p1)] ∧ Z.Warmed39 U.vm ∧ U.heap = h0) (fun _ _ _ _ _ => True) (fun _ U o U' => ∃ v L, o = .returned v ∧ QP (.int (61 : Int32)) h0 n0 v U'.heap L ∧ FrameEnd U o U' L ({ frames := 0, cells := 0, slots := 0, locals := 0 } : Room).cells ({ frames := 0, cells := 0, slots := 0, locals := 0 } : Room).slots) := by
  refine MetFree.of_bodySF (plainFor_of_name pn_0) hisR ?_
  intro p e s m args below meth c s₁ Bd hml0 hP hK
  obtain ⟨rfl, hZ, hh⟩ := hP
  have hx := Bd.exec
  have hby := Bd.bytes
  have hml : c.maxLocals = 2 := hml0
  have hown : s.vm.findClass "com/example/plugroot/plugroot/sql/ComparisonOfPinLaw" = some m.cls := findClass_of_methodNamed Bd.named
  have hnm := (name_of_methodNamed Bd.named Bd.method).1
  have X0 : Stand p l e ({ frames := 0, cells := 0, slots := 0, locals := 0 } : Room) s m #[(.int p1)] below meth c s₁ [] 0 0 := Stand.of_body Bd
  have e0 : s₁.heap = h0 := by rw [← hh, Bd.state]; rfl
  have N0 := Fr.nil n0
  have pre0 : ∀ tg, Steps p.tables e below (s₁.setTop (mkF m 0 #[.val (.int p1), .unset] [])) tg → Steps p.tables e below (s₁.setTop (entryFrame m #[(.int p1)] 2)) tg := fun tg kq => castTop (ef_I_2 m p1) kq
  obtain ⟨fs, hr, hrun, hended, hW, hsame⟩ := X0.leave (v := some (.int (61 : Int32))) (fun h => by rw [Bd.returns] at h; cases h)
  refine ⟨_, _, pre0 _ ?_, hrun, hended, _, _, rfl, ?_, ⟨_, rfl⟩, hW, hsame.mono (by decide) (by decide)⟩
  · show Steps p.tables e below (s₁.setTop (mkF m 0 #[.val (.int p1), .unset] [])) _
    refine XS.iloadN X0.here hx rfl (hb hby d1_0) rfl ?_
    show Steps p.tables e below (s₁.setTop (mkF m 1 #[.val (.int p1), .unset] [(.int p1)])) _
    refine XS.sipush X0.here hx rfl (hb hby d1_1) ?_
    show Steps p.tables e below (s₁.setTop (mkF m 4 #[.val (.int p1), .unset] [(.int (256 : Int32)), (.int p1)])) _
    refine XS.iand X0.here hx rfl (hb hby d1_4) rfl ?_
    show Steps p.tables e below (s₁.setTop (mkF m 5 #[.val (.int p1), .unset] [(.int (p1 &&& (256 : Int32)))])) _
    refine XS.ifNo X0.here hx rfl (hb hby d1_5) rfl ((if0 _ _).trans (feq hc5).1) ?_
    show Steps p.tables e below (s₁.setTop (mkF m 8 #[.val (.int p1), .unset] [])) _
    refine XS.iloadN X0.here hx rfl (hb hby d1_8) rfl ?_
    show Steps p.tables e below (s₁.setTop (mkF m 9 #[.val (.int p1), .unset] [(.int p1)])) _
    refine XS.iconst X0.here hx rfl (hb hby d1_9) ?_
    show Steps p.tables e below (s₁.setTop (mkF m 10 #[.val (.int p1), .unset] [(.int (3 : Int32)), (.int p1)])) _
    refine XS.iand X0.here hx rfl (hb hby d1_10) rfl ?_
    show Steps p.tables e below (s₁.setTop (mkF m 11 #[.val (.int p1), .unset] [(.int (p1 &&& (3 : Int32)))])) _
    refine XS.istoreN X0.here hx rfl (hb hby d1_11) rfl (l' := #[.val (.int p1), .val (.int (p1 &&& (3 : Int32)))]) rfl ?_
    show Steps p.tables e below (s₁.setTop (mkF m 12 #[.val (.int p1), .val (.int (p1 &&& (3 : Int32)))] [])) _
    refine XS.iloadN X0.here hx rfl (hb hby d1_12) rfl ?_
    show Steps p.tables e below (s₁.setTop (mkF m 13 #[.val (.int p1), .val (.int (p1 &&& (3 : Int32)))] [(.int (p1 &&& (3 : Int32)))])) _
    refine XS.ifNo X0.here hx rfl (hb hby d1_13) rfl ((if0 _ _).trans (teq hc13).2) ?_
    show Steps p.tables e below (s₁.setTop (mkF m 16 #[.val (.int p1), .val (.int (p1 &&& (3 : Int32)))] [])) _
    refine XS.bipush X0.here hx rfl (hb hby d1_16) ?_
    show Steps p.tables e below (s₁.setTop (mkF m 18 #[.val (.int p1), .val (.int (p1 &&& (3 : Int32)))] [(.int (61 : Int32))])) _
    exact retN X0 hx (t := .char) Bd.returns (by simp) (hb hby d1_18) hr
  · show QP (.int (61 : Int32)) h0 n0 _ s₁.heap _
    rw [e0]
    exact ⟨rfl, N0, rfl⟩
theorem d1_19 : decode method_2_code 19 = .ok (.iload_n 1, 1) := by decide +kernel
theorem d1_20 : decode method_2_code 20 = .ok (.iconst 1, 1) := by decide +kernel
theorem d1_21 : decode method_2_code 21 = .ok (.if_icmp .ne 6, 3) := by decide +kernel
theorem d1_24 : decode method_2_code 24 = .ok (.bipush 60, 2) := by decide +kernel
theorem d1_26 : decode method_2_code 26 = .ok (.ireturn, 1) := by decide +kernel
set_option maxRecDepth 65536 in
set_option maxHeartbeats 40000000 in
theorem rm1_c (l : Launch) (Z : State) (a0 : Array Value) (hw : ∀ d ∈ tables_1, d.before a0 Z = true) (ws : List Jvm.Cond) (p1 : Int32) (h0 : Heap) (n0 : Nat) (O0 : Old Z n0 h0) (hc5 : ¬ ((p1 &&& (256 : Int32)) = (0 : Int32))) (hc13 : ¬ ((p1 &&& (3 : Int32)) = (0 : Int32))) (hc21 : (p1 &&& (3 : Int32)) = (1 : Int32)) :
    MetFree l (⟨"com/example/plugroot/plugroot/sql/ComparisonOfPinLaw", "draw", "(I)C"⟩ : MethodName) (head1 (Jvm.Cond.code (⟨"com/example/plugroot/plugroot/sql/ComparisonOfPinLaw", "draw", "(I)C"⟩ : MethodName) method_2_code 2 (some .char) :: ws) ({ frames := 0, cells := 0, slots := 0, locals := 0 } : Room)) (fun a_ U => a_ = #[(.int p1)] ∧ Z.Warmed39 U.vm ∧ U.heap = h0) (fun _ _ _ _ _ => True) (fun _ U o U' => ∃ v L, o = .returned v ∧ QP (.int (60 : Int32)) h0 n0 v U'.heap L ∧ FrameEnd U o U' L ({ frames := 0, cells := 0, slots := 0, locals := 0 } : Room).cells ({ frames := 0, cells := 0, slots := 0, locals := 0 } : Room).slots) := by
  refine MetFree.of_bodySF (plainFor_of_name pn_0) hisR ?_
  intro p e s m args below meth c s₁ Bd hml0 hP hK
  obtain ⟨rfl, hZ, hh⟩ := hP
  have hx := Bd.exec
  have hby := Bd.bytes
  have hml : c.maxLocals = 2 := hml0
  have hown : s.vm.findClass "com/example/plugroot/plugroot/sql/ComparisonOfPinLaw" = some m.cls := findClass_of_methodNamed Bd.named
  have hnm := (name_of_methodNamed Bd.named Bd.method).1
  have X0 : Stand p l e ({ frames := 0, cells := 0, slots := 0, locals := 0 } : Room) s m #[(.int p1)] below meth c s₁ [] 0 0 := Stand.of_body Bd
  have e0 : s₁.heap = h0 := by rw [← hh, Bd.state]; rfl
  have N0 := Fr.nil n0
  have pre0 : ∀ tg, Steps p.tables e below (s₁.setTop (mkF m 0 #[.val (.int p1), .unset] [])) tg → Steps p.tables e below (s₁.setTop (entryFrame m #[(.int p1)] 2)) tg := fun tg kq => castTop (ef_I_2 m p1) kq
  obtain ⟨fs, hr, hrun, hended, hW, hsame⟩ := X0.leave (v := some (.int (60 : Int32))) (fun h => by rw [Bd.returns] at h; cases h)
  refine ⟨_, _, pre0 _ ?_, hrun, hended, _, _, rfl, ?_, ⟨_, rfl⟩, hW, hsame.mono (by decide) (by decide)⟩
  · show Steps p.tables e below (s₁.setTop (mkF m 0 #[.val (.int p1), .unset] [])) _
    refine XS.iloadN X0.here hx rfl (hb hby d1_0) rfl ?_
    show Steps p.tables e below (s₁.setTop (mkF m 1 #[.val (.int p1), .unset] [(.int p1)])) _
    refine XS.sipush X0.here hx rfl (hb hby d1_1) ?_
    show Steps p.tables e below (s₁.setTop (mkF m 4 #[.val (.int p1), .unset] [(.int (256 : Int32)), (.int p1)])) _
    refine XS.iand X0.here hx rfl (hb hby d1_4) rfl ?_
    show Steps p.tables e below (s₁.setTop (mkF m 5 #[.val (.int p1), .unset] [(.int (p1 &&& (256 : Int32)))])) _
    refine XS.ifNo X0.here hx rfl (hb hby d1_5) rfl ((if0 _ _).trans (feq hc5).1) ?_
    show Steps p.tables e below (s₁.setTop (mkF m 8 #[.val (.int p1), .unset] [])) _
    refine XS.iloadN X0.here hx rfl (hb hby d1_8) rfl ?_
    show Steps p.tables e below (s₁.setTop (mkF m 9 #[.val (.int p1), .unset] [(.int p1)])) _
    refine XS.iconst X0.here hx rfl (hb hby d1_9) ?_
    show Steps p.tables e below (s₁.setTop (mkF m 10 #[.val (.int p1), .unset] [(.int (3 : Int32)), (.int p1)])) _
    refine XS.iand X0.here hx rfl (hb hby d1_10) rfl ?_
    show Steps p.tables e below (s₁.setTop (mkF m 11 #[.val (.int p1), .unset] [(.int (p1 &&& (3 : Int32)))])) _
    refine XS.istoreN X0.here hx rfl (hb hby d1_11) rfl (l' := #[.val (.int p1), .val (.int (p1 &&& (3 : Int32)))]) rfl ?_
    show Steps p.tables e below (s₁.setTop (mkF m 12 #[.val (.int p1), .val (.int (p1 &&& (3 : Int32)))] [])) _
    refine XS.iloadN X0.here hx rfl (hb hby d1_12) rfl ?_
    show Steps p.tables e below (s₁.setTop (mkF m 13 #[.val (.int p1), .val (.int (p1 &&& (3 : Int32)))] [(.int (p1 &&& (3 : Int32)))])) _
    refine XS.ifYes X0.here hx rfl (pc0 := 13) (pc' := 19) rfl (hb hby d1_13) rfl ((if0 _ _).trans (feq hc13).2) (by decide) (by decide) ?_
    show Steps p.tables e below (s₁.setTop (mkF m 19 #[.val (.int p1), .val (.int (p1 &&& (3 : Int32)))] [])) _
    refine XS.iloadN X0.here hx rfl (hb hby d1_19) rfl ?_
    show Steps p.tables e below (s₁.setTop (mkF m 20 #[.val (.int p1), .val (.int (p1 &&& (3 : Int32)))] [(.int (p1 &&& (3 : Int32)))])) _
    refine XS.iconst X0.here hx rfl (hb hby d1_20) ?_
    show Steps p.tables e below (s₁.setTop (mkF m 21 #[.val (.int p1), .val (.int (p1 &&& (3 : Int32)))] [(.int (1 : Int32)), (.int (p1 &&& (3 : Int32)))])) _
    refine XS.icmpNo X0.here hx rfl (hb hby d1_21) rfl (teq hc21).2 ?_
    show Steps p.tables e below (s₁.setTop (mkF m 24 #[.val (.int p1), .val (.int (p1 &&& (3 : Int32)))] [])) _
    refine XS.bipush X0.here hx rfl (hb hby d1_24) ?_
    show Steps p.tables e below (s₁.setTop (mkF m 26 #[.val (.int p1), .val (.int (p1 &&& (3 : Int32)))] [(.int (60 : Int32))])) _
    exact retN X0 hx (t := .char) Bd.returns (by simp) (hb hby d1_26) hr
  · show QP (.int (60 : Int32)) h0 n0 _ s₁.heap _
    rw [e0]
    exact ⟨rfl, N0, rfl⟩
theorem d1_27 : decode method_2_code 27 = .ok (.iload_n 1, 1) := by decide +kernel
theorem d1_28 : decode method_2_code 28 = .ok (.iconst 2, 1) := by decide +kernel
theorem d1_29 : decode method_2_code 29 = .ok (.if_icmp .ne 6, 3) := by decide +kernel
theorem d1_32 : decode method_2_code 32 = .ok (.bipush 62, 2) := by decide +kernel
theorem d1_34 : decode method_2_code 34 = .ok (.ireturn, 1) := by decide +kernel
set_option maxRecDepth 65536 in
set_option maxHeartbeats 40000000 in
theorem rm1_d (l : Launch) (Z : State) (a0 : Array Value) (hw : ∀ d ∈ tables_1, d.before a0 Z = true) (ws : List Jvm.Cond) (p1 : Int32) (h0 : Heap) (n0 : Nat) (O0 : Old Z n0 h0) (hc5 : ¬ ((p1 &&& (256 : Int32)) = (0 : Int32))) (hc13 : ¬ ((p1 &&& (3 : Int32)) = (0 : Int32))) (hc21 : ¬ ((p1 &&& (3 : Int32)) = (1 : Int32))) (hc29 : (p1 &&& (3 : Int32)) = (2 : Int32)) :
    MetFree l (⟨"com/example/plugroot/plugroot/sql/ComparisonOfPinLaw", "draw", "(I)C"⟩ : MethodName) (head1 (Jvm.Cond.code (⟨"com/example/plugroot/plugroot/sql/ComparisonOfPinLaw", "draw", "(I)C"⟩ : MethodName) method_2_code 2 (some .char) :: ws) ({ frames := 0, cells := 0, slots := 0, locals := 0 } : Room)) (fun a_ U => a_ = #[(.int p1)] ∧ Z.Warmed39 U.vm ∧ U.heap = h0) (fun _ _ _ _ _ => True) (fun _ U o U' => ∃ v L, o = .returned v ∧ QP (.int (62 : Int32)) h0 n0 v U'.heap L ∧ FrameEnd U o U' L ({ frames := 0, cells := 0, slots := 0, locals := 0 } : Room).cells ({ frames := 0, cells := 0, slots := 0, locals := 0 } : Room).slots) := by
  refine MetFree.of_bodySF (plainFor_of_name pn_0) hisR ?_
  intro p e s m args below meth c s₁ Bd hml0 hP hK
  obtain ⟨rfl, hZ, hh⟩ := hP
  have hx := Bd.exec
  have hby := Bd.bytes
  have hml : c.maxLocals = 2 := hml0
  have hown : s.vm.findClass "com/example/plugroot/plugroot/sql/ComparisonOfPinLaw" = some m.cls := findClass_of_methodNamed Bd.named
  have hnm := (name_of_methodNamed Bd.named Bd.method).1
  have X0 : Stand p l e ({ frames := 0, cells := 0, slots := 0, locals := 0 } : Room) s m #[(.int p1)] below meth c s₁ [] 0 0 := Stand.of_body Bd
  have e0 : s₁.heap = h0 := by rw [← hh, Bd.state]; rfl
  have N0 := Fr.nil n0
  have pre0 : ∀ tg, Steps p.tables e below (s₁.setTop (mkF m 0 #[.val (.int p1), .unset] [])) tg → Steps p.tables e below (s₁.setTop (entryFrame m #[(.int p1)] 2)) tg := fun tg kq => castTop (ef_I_2 m p1) kq
  obtain ⟨fs, hr, hrun, hended, hW, hsame⟩ := X0.leave (v := some (.int (62 : Int32))) (fun h => by rw [Bd.returns] at h; cases h)
  refine ⟨_, _, pre0 _ ?_, hrun, hended, _, _, rfl, ?_, ⟨_, rfl⟩, hW, hsame.mono (by decide) (by decide)⟩
  · show Steps p.tables e below (s₁.setTop (mkF m 0 #[.val (.int p1), .unset] [])) _
    refine XS.iloadN X0.here hx rfl (hb hby d1_0) rfl ?_
    show Steps p.tables e below (s₁.setTop (mkF m 1 #[.val (.int p1), .unset] [(.int p1)])) _
    refine XS.sipush X0.here hx rfl (hb hby d1_1) ?_
    show Steps p.tables e below (s₁.setTop (mkF m 4 #[.val (.int p1), .unset] [(.int (256 : Int32)), (.int p1)])) _
    refine XS.iand X0.here hx rfl (hb hby d1_4) rfl ?_
    show Steps p.tables e below (s₁.setTop (mkF m 5 #[.val (.int p1), .unset] [(.int (p1 &&& (256 : Int32)))])) _
    refine XS.ifNo X0.here hx rfl (hb hby d1_5) rfl ((if0 _ _).trans (feq hc5).1) ?_
    show Steps p.tables e below (s₁.setTop (mkF m 8 #[.val (.int p1), .unset] [])) _
    refine XS.iloadN X0.here hx rfl (hb hby d1_8) rfl ?_
    show Steps p.tables e below (s₁.setTop (mkF m 9 #[.val (.int p1), .unset] [(.int p1)])) _
    refine XS.iconst X0.here hx rfl (hb hby d1_9) ?_
    show Steps p.tables e below (s₁.setTop (mkF m 10 #[.val (.int p1), .unset] [(.int (3 : Int32)), (.int p1)])) _
    refine XS.iand X0.here hx rfl (hb hby d1_10) rfl ?_
    show Steps p.tables e below (s₁.setTop (mkF m 11 #[.val (.int p1), .unset] [(.int (p1 &&& (3 : Int32)))])) _
    refine XS.istoreN X0.here hx rfl (hb hby d1_11) rfl (l' := #[.val (.int p1), .val (.int (p1 &&& (3 : Int32)))]) rfl ?_
    show Steps p.tables e below (s₁.setTop (mkF m 12 #[.val (.int p1), .val (.int (p1 &&& (3 : Int32)))] [])) _
    refine XS.iloadN X0.here hx rfl (hb hby d1_12) rfl ?_
    show Steps p.tables e below (s₁.setTop (mkF m 13 #[.val (.int p1), .val (.int (p1 &&& (3 : Int32)))] [(.int (p1 &&& (3 : Int32)))])) _
    refine XS.ifYes X0.here hx rfl (pc0 := 13) (pc' := 19) rfl (hb hby d1_13) rfl ((if0 _ _).trans (feq hc13).2) (by decide) (by decide) ?_
    show Steps p.tables e below (s₁.setTop (mkF m 19 #[.val (.int p1), .val (.int (p1 &&& (3 : Int32)))] [])) _
    refine XS.iloadN X0.here hx rfl (hb hby d1_19) rfl ?_
    show Steps p.tables e below (s₁.setTop (mkF m 20 #[.val (.int p1), .val (.int (p1 &&& (3 : Int32)))] [(.int (p1 &&& (3 : Int32)))])) _
    refine XS.iconst X0.here hx rfl (hb hby d1_20) ?_
    show Steps p.tables e below (s₁.setTop (mkF m 21 #[.val (.int p1), .val (.int (p1 &&& (3 : Int32)))] [(.int (1 : Int32)), (.int (p1 &&& (3 : Int32)))])) _
    refine XS.icmpYes X0.here hx rfl (pc0 := 21) (pc' := 27) rfl (hb hby d1_21) rfl (feq hc21).2 (by decide) (by decide) ?_
    show Steps p.tables e below (s₁.setTop (mkF m 27 #[.val (.int p1), .val (.int (p1 &&& (3 : Int32)))] [])) _
    refine XS.iloadN X0.here hx rfl (hb hby d1_27) rfl ?_
    show Steps p.tables e below (s₁.setTop (mkF m 28 #[.val (.int p1), .val (.int (p1 &&& (3 : Int32)))] [(.int (p1 &&& (3 : Int32)))])) _
    refine XS.iconst X0.here hx rfl (hb hby d1_28) ?_
    show Steps p.tables e below (s₁.setTop (mkF m 29 #[.val (.int p1), .val (.int (p1 &&& (3 : Int32)))] [(.int (2 : Int32)), (.int (p1 &&& (3 : Int32)))])) _
    refine XS.icmpNo X0.here hx rfl (hb hby d1_29) rfl (teq hc29).2 ?_
    show Steps p.tables e below (s₁.setTop (mkF m 32 #[.val (.int p1), .val (.int (p1 &&& (3 : Int32)))] [])) _
    refine XS.bipush X0.here hx rfl (hb hby d1_32) ?_
    show Steps p.tables e below (s₁.setTop (mkF m 34 #[.val (.int p1), .val (.int (p1 &&& (3 : Int32)))] [(.int (62 : Int32))])) _
    exact retN X0 hx (t := .char) Bd.returns (by simp) (hb hby d1_34) hr
  · show QP (.int (62 : Int32)) h0 n0 _ s₁.heap _
    rw [e0]
    exact ⟨rfl, N0, rfl⟩
theorem d1_35 : decode method_2_code 35 = .ok (.bipush 33, 2) := by decide +kernel
theorem d1_37 : decode method_2_code 37 = .ok (.ireturn, 1) := by decide +kernel
set_option maxRecDepth 65536 in
set_option maxHeartbeats 40000000 in
theorem rm1_e (l : Launch) (Z : State) (a0 : Array Value) (hw : ∀ d ∈ tables_1, d.before a0 Z = true) (ws : List Jvm.Cond) (p1 : Int32) (h0 : Heap) (n0 : Nat) (O0 : Old Z n0 h0) (hc5 : ¬ ((p1 &&& (256 : Int32)) = (0 : Int32))) (hc13 : ¬ ((p1 &&& (3 : Int32)) = (0 : Int32))) (hc21 : ¬ ((p1 &&& (3 : Int32)) = (1 : Int32))) (hc29 : ¬ ((p1 &&& (3 : Int32)) = (2 : Int32))) :
    MetFree l (⟨"com/example/plugroot/plugroot/sql/ComparisonOfPinLaw", "draw", "(I)C"⟩ : MethodName) (head1 (Jvm.Cond.code (⟨"com/example/plugroot/plugroot/sql/ComparisonOfPinLaw", "draw", "(I)C"⟩ : MethodName) method_2_code 2 (some .char) :: ws) ({ frames := 0, cells := 0, slots := 0, locals := 0 } : Room)) (fun a_ U => a_ = #[(.int p1)] ∧ Z.Warmed39 U.vm ∧ U.heap = h0) (fun _ _ _ _ _ => True) (fun _ U o U' => ∃ v L, o = .returned v ∧ QP (.int (33 : Int32)) h0 n0 v U'.heap L ∧ FrameEnd U o U' L ({ frames := 0, cells := 0, slots := 0, locals := 0 } : Room).cells ({ frames := 0, cells := 0, slots := 0, locals := 0 } : Room).slots) := by
  refine MetFree.of_bodySF (plainFor_of_name pn_0) hisR ?_
  intro p e s m args below meth c s₁ Bd hml0 hP hK
  obtain ⟨rfl, hZ, hh⟩ := hP
  have hx := Bd.exec
  have hby := Bd.bytes
  have hml : c.maxLocals = 2 := hml0
  have hown : s.vm.findClass "com/example/plugroot/plugroot/sql/ComparisonOfPinLaw" = some m.cls := findClass_of_methodNamed Bd.named
  have hnm := (name_of_methodNamed Bd.named Bd.method).1
  have X0 : Stand p l e ({ frames := 0, cells := 0, slots := 0, locals := 0 } : Room) s m #[(.int p1)] below meth c s₁ [] 0 0 := Stand.of_body Bd
  have e0 : s₁.heap = h0 := by rw [← hh, Bd.state]; rfl
  have N0 := Fr.nil n0
  have pre0 : ∀ tg, Steps p.tables e below (s₁.setTop (mkF m 0 #[.val (.int p1), .unset] [])) tg → Steps p.tables e below (s₁.setTop (entryFrame m #[(.int p1)] 2)) tg := fun tg kq => castTop (ef_I_2 m p1) kq
  obtain ⟨fs, hr, hrun, hended, hW, hsame⟩ := X0.leave (v := some (.int (33 : Int32))) (fun h => by rw [Bd.returns] at h; cases h)
  refine ⟨_, _, pre0 _ ?_, hrun, hended, _, _, rfl, ?_, ⟨_, rfl⟩, hW, hsame.mono (by decide) (by decide)⟩
  · show Steps p.tables e below (s₁.setTop (mkF m 0 #[.val (.int p1), .unset] [])) _
    refine XS.iloadN X0.here hx rfl (hb hby d1_0) rfl ?_
    show Steps p.tables e below (s₁.setTop (mkF m 1 #[.val (.int p1), .unset] [(.int p1)])) _
    refine XS.sipush X0.here hx rfl (hb hby d1_1) ?_
    show Steps p.tables e below (s₁.setTop (mkF m 4 #[.val (.int p1), .unset] [(.int (256 : Int32)), (.int p1)])) _
    refine XS.iand X0.here hx rfl (hb hby d1_4) rfl ?_
    show Steps p.tables e below (s₁.setTop (mkF m 5 #[.val (.int p1), .unset] [(.int (p1 &&& (256 : Int32)))])) _
    refine XS.ifNo X0.here hx rfl (hb hby d1_5) rfl ((if0 _ _).trans (feq hc5).1) ?_
    show Steps p.tables e below (s₁.setTop (mkF m 8 #[.val (.int p1), .unset] [])) _
    refine XS.iloadN X0.here hx rfl (hb hby d1_8) rfl ?_
    show Steps p.tables e below (s₁.setTop (mkF m 9 #[.val (.int p1), .unset] [(.int p1)])) _
    refine XS.iconst X0.here hx rfl (hb hby d1_9) ?_
    show Steps p.tables e below (s₁.setTop (mkF m 10 #[.val (.int p1), .unset] [(.int (3 : Int32)), (.int p1)])) _
    refine XS.iand X0.here hx rfl (hb hby d1_10) rfl ?_
    show Steps p.tables e below (s₁.setTop (mkF m 11 #[.val (.int p1), .unset] [(.int (p1 &&& (3 : Int32)))])) _
    refine XS.istoreN X0.here hx rfl (hb hby d1_11) rfl (l' := #[.val (.int p1), .val (.int (p1 &&& (3 : Int32)))]) rfl ?_
    show Steps p.tables e below (s₁.setTop (mkF m 12 #[.val (.int p1), .val (.int (p1 &&& (3 : Int32)))] [])) _
    refine XS.iloadN X0.here hx rfl (hb hby d1_12) rfl ?_
    show Steps p.tables e below (s₁.setTop (mkF m 13 #[.val (.int p1), .val (.int (p1 &&& (3 : Int32)))] [(.int (p1 &&& (3 : Int32)))])) _
    refine XS.ifYes X0.here hx rfl (pc0 := 13) (pc' := 19) rfl (hb hby d1_13) rfl ((if0 _ _).trans (feq hc13).2) (by decide) (by decide) ?_
    show Steps p.tables e below (s₁.setTop (mkF m 19 #[.val (.int p1), .val (.int (p1 &&& (3 : Int32)))] [])) _
    refine XS.iloadN X0.here hx rfl (hb hby d1_19) rfl ?_
    show Steps p.tables e below (s₁.setTop (mkF m 20 #[.val (.int p1), .val (.int (p1 &&& (3 : Int32)))] [(.int (p1 &&& (3 : Int32)))])) _
    refine XS.iconst X0.here hx rfl (hb hby d1_20) ?_
    show Steps p.tables e below (s₁.setTop (mkF m 21 #[.val (.int p1), .val (.int (p1 &&& (3 : Int32)))] [(.int (1 : Int32)), (.int (p1 &&& (3 : Int32)))])) _
    refine XS.icmpYes X0.here hx rfl (pc0 := 21) (pc' := 27) rfl (hb hby d1_21) rfl (feq hc21).2 (by decide) (by decide) ?_
    show Steps p.tables e below (s₁.setTop (mkF m 27 #[.val (.int p1), .val (.int (p1 &&& (3 : Int32)))] [])) _
    refine XS.iloadN X0.here hx rfl (hb hby d1_27) rfl ?_
    show Steps p.tables e below (s₁.setTop (mkF m 28 #[.val (.int p1), .val (.int (p1 &&& (3 : Int32)))] [(.int (p1 &&& (3 : Int32)))])) _
    refine XS.iconst X0.here hx rfl (hb hby d1_28) ?_
    show Steps p.tables e below (s₁.setTop (mkF m 29 #[.val (.int p1), .val (.int (p1 &&& (3 : Int32)))] [(.int (2 : Int32)), (.int (p1 &&& (3 : Int32)))])) _
    refine XS.icmpYes X0.here hx rfl (pc0 := 29) (pc' := 35) rfl (hb hby d1_29) rfl (feq hc29).2 (by decide) (by decide) ?_
    show Steps p.tables e below (s₁.setTop (mkF m 35 #[.val (.int p1), .val (.int (p1 &&& (3 : Int32)))] [])) _
    refine XS.bipush X0.here hx rfl (hb hby d1_35) ?_
    show Steps p.tables e below (s₁.setTop (mkF m 37 #[.val (.int p1), .val (.int (p1 &&& (3 : Int32)))] [(.int (33 : Int32))])) _
    exact retN X0 hx (t := .char) Bd.returns (by simp) (hb hby d1_37) hr
  · show QP (.int (33 : Int32)) h0 n0 _ s₁.heap _
    rw [e0]
    exact ⟨rfl, N0, rfl⟩
theorem rm1 (l : Launch) (Z : State) (a0 : Array Value) (hw : ∀ d ∈ tables_1, d.before a0 Z = true) (ws : List Jvm.Cond) (p1 ch : Int32) (h0 : Heap) (n0 : Nat) (O0 : Old Z n0 h0) (hd : ch = drawF p1) :
    MetFree l (⟨"com/example/plugroot/plugroot/sql/ComparisonOfPinLaw", "draw", "(I)C"⟩ : MethodName) (head1 (Jvm.Cond.code (⟨"com/example/plugroot/plugroot/sql/ComparisonOfPinLaw", "draw", "(I)C"⟩ : MethodName) method_2_code 2 (some .char) :: ws) ({ frames := 0, cells := 0, slots := 0, locals := 0 } : Room)) (fun a_ U => a_ = #[(.int p1)] ∧ Z.Warmed39 U.vm ∧ U.heap = h0) (fun _ _ _ _ _ => True) (fun _ U o U' => ∃ v L, o = .returned v ∧ QP (.int ch) h0 n0 v U'.heap L ∧ FrameEnd U o U' L ({ frames := 0, cells := 0, slots := 0, locals := 0 } : Room).cells ({ frames := 0, cells := 0, slots := 0, locals := 0 } : Room).slots) := by
  subst hd
  unfold drawF
  by_cases k0 : (p1 &&& (256 : Int32)) = 0
  · rw [if_pos k0]; exact rm1_a l Z a0 hw ws p1 h0 n0 O0 k0
  rw [if_neg k0]
  by_cases k1 : (p1 &&& (3 : Int32)) = 0
  · rw [if_pos k1]; exact rm1_b l Z a0 hw ws p1 h0 n0 O0 k0 k1
  rw [if_neg k1]
  by_cases k2 : (p1 &&& (3 : Int32)) = 1
  · rw [if_pos k2]; exact rm1_c l Z a0 hw ws p1 h0 n0 O0 k0 k1 k2
  rw [if_neg k2]
  by_cases k3 : (p1 &&& (3 : Int32)) = 2
  · rw [if_pos k3]; exact rm1_d l Z a0 hw ws p1 h0 n0 O0 k0 k1 k2 k3
  · rw [if_neg k3]; exact rm1_e l Z a0 hw ws p1 h0 n0 O0 k0 k1 k2 k3
theorem d9_0 : decode method_3_code 0 = .ok (.iload_n 0, 1) := by decide +kernel
theorem d9_1 : decode method_3_code 1 = .ok (.iconst 1, 1) := by decide +kernel
theorem d9_2 : decode method_3_code 2 = .ok (.if_icmp .ne 35, 3) := by decide +kernel
theorem d9_5 : decode method_3_code 5 = .ok (.iload_n 1, 1) := by decide +kernel
theorem d9_6 : decode method_3_code 6 = .ok (.bipush 61, 2) := by decide +kernel
theorem d9_8 : decode method_3_code 8 = .ok (.if_icmp .ne 7, 3) := by decide +kernel
theorem d9_11 : decode method_3_code 11 = .ok (.getstatic 7, 3) := by decide +kernel
theorem d9_14 : decode method_3_code 14 = .ok (.areturn, 1) := by decide +kernel
theorem ef_III_3 (m : MethodId) (x0 : Int32) (x1 : Int32) (x2 : Int32) : entryFrame m #[(.int x0), (.int x1), (.int x2)] 3 = mkF m 0 #[.val (.int x0), .val (.int x1), .val (.int x2)] [] := by first | (simp [entryFrame, mkF, argsToLocals, Value.category]; done) | rfl
set_option maxRecDepth 65536 in
set_option maxHeartbeats 40000000 in
theorem rm9_1a (l : Launch) (Z : State) (a0 : Array Value) (hw : ∀ d ∈ tables_1, d.before a0 Z = true) (ws : List Jvm.Cond) (w0 w1 w2 w3 w4 w5 : Addr) (q c0 c1 : Int32) (h0 : Heap) (n0 : Nat) (O0 : Old Z n0 h0) (S0 : Sta Z Z.heap "com/example/plugroot/plugroot/sql/Comparison" "EQUAL" "Lcom/example/plugroot/plugroot/sql/Comparison;" (.ref w0)) (S1 : Sta Z Z.heap "com/example/plugroot/plugroot/sql/Comparison" "NOT_EQUAL" "Lcom/example/plugroot/plugroot/sql/Comparison;" (.ref w1)) (S2 : Sta Z Z.heap "com/example/plugroot/plugroot/sql/Comparison" "LESS" "Lcom/example/plugroot/plugroot/sql/Comparison;" (.ref w2)) (S3 : Sta Z Z.heap "com/example/plugroot/plugroot/sql/Comparison" "GREATER" "Lcom/example/plugroot/plugroot/sql/Comparison;" (.ref w3)) (S4 : Sta Z Z.heap "com/example/plugroot/plugroot/sql/Comparison" "LESS_OR_EQUAL" "Lcom/example/plugroot/plugroot/sql/Comparison;" (.ref w4)) (S5 : Sta Z Z.heap "com/example/plugroot/plugroot/sql/Comparison" "GREATER_OR_EQUAL" "Lcom/example/plugroot/plugroot/sql/Comparison;" (.ref w5)) (hq : q = 1) (hc : c0 = 61) :
    MetFree l (⟨"com/example/plugroot/plugroot/sql/ComparisonOfPinLaw", "expected", "(ICC)Lcom/example/plugroot/plugroot/sql/Comparison;"⟩ : MethodName) (head1 (Jvm.Cond.code (⟨"com/example/plugroot/plugroot/sql/ComparisonOfPinLaw", "expected", "(ICC)Lcom/example/plugroot/plugroot/sql/Comparison;"⟩ : MethodName) method_3_code 3 (some (.object "com/example/plugroot/plugroot/sql/Comparison")) :: ws) ({ frames := 0, cells := 0, slots := 0, locals := 0 } : Room)) (fun a_ U => a_ = #[(.int q), (.int c0), (.int c1)] ∧ Z.Warmed39 U.vm ∧ U.heap = h0) (fun _ _ _ _ _ => True) (fun _ U o U' => ∃ v L, o = .returned v ∧ QP (.ref w0) h0 n0 v U'.heap L ∧ FrameEnd U o U' L ({ frames := 0, cells := 0, slots := 0, locals := 0 } : Room).cells ({ frames := 0, cells := 0, slots := 0, locals := 0 } : Room).slots) := by
  refine MetFree.of_bodySF (plainFor_of_name pn_0) hisR ?_
  intro p e s m args below meth c s₁ Bd hml0 hP hK
  obtain ⟨rfl, hZ, hh⟩ := hP
  have hx := Bd.exec
  have hby := Bd.bytes
  have hml : c.maxLocals = 3 := hml0
  have hown : s.vm.findClass "com/example/plugroot/plugroot/sql/ComparisonOfPinLaw" = some m.cls := findClass_of_methodNamed Bd.named
  have hnm := (name_of_methodNamed Bd.named Bd.method).1
  have X0 : Stand p l e ({ frames := 0, cells := 0, slots := 0, locals := 0 } : Room) s m #[(.int q), (.int c0), (.int c1)] below meth c s₁ [] 0 0 := Stand.of_body Bd
  have e0 : s₁.heap = h0 := by rw [← hh, Bd.state]; rfl
  have N0 := Fr.nil n0
  have pre0 : ∀ tg, Steps p.tables e below (s₁.setTop (mkF m 0 #[.val (.int q), .val (.int c0), .val (.int c1)] [])) tg → Steps p.tables e below (s₁.setTop (entryFrame m #[(.int q), (.int c0), (.int c1)] 3)) tg := fun tg kq => castTop (ef_III_3 m q c0 c1) kq
  obtain ⟨T101, X101, e101, st101⟩ := getS2 X0 hx hZ hown (host := "") (Or.inl (wi hw 82 rfl)) Via.refl e0 (S0.ext O0.2) (g := (mkF m 11 #[.val (.int q), .val (.int c0), .val (.int c1)] [])) rfl (hb hby d9_11)
  obtain ⟨fs, hr, hrun, hended, hW, hsame⟩ := X101.leave (v := some (.ref w0)) (fun h => by rw [Bd.returns] at h; cases h)
  refine ⟨_, _, pre0 _ ?_, hrun, hended, _, _, rfl, ?_, ⟨_, rfl⟩, hW, hsame.mono (by decide) (by decide)⟩
  · show Steps p.tables e below (s₁.setTop (mkF m 0 #[.val (.int q), .val (.int c0), .val (.int c1)] [])) _
    refine XS.iloadN X0.here hx rfl (hb hby d9_0) rfl ?_
    show Steps p.tables e below (s₁.setTop (mkF m 1 #[.val (.int q), .val (.int c0), .val (.int c1)] [(.int q)])) _
    refine XS.iconst X0.here hx rfl (hb hby d9_1) ?_
    show Steps p.tables e below (s₁.setTop (mkF m 2 #[.val (.int q), .val (.int c0), .val (.int c1)] [(.int (1 : Int32)), (.int q)])) _
    refine XS.icmpNo X0.here hx rfl (hb hby d9_2) rfl (teq hq).2 ?_
    show Steps p.tables e below (s₁.setTop (mkF m 5 #[.val (.int q), .val (.int c0), .val (.int c1)] [])) _
    refine XS.iloadN X0.here hx rfl (hb hby d9_5) rfl ?_
    show Steps p.tables e below (s₁.setTop (mkF m 6 #[.val (.int q), .val (.int c0), .val (.int c1)] [(.int c0)])) _
    refine XS.bipush X0.here hx rfl (hb hby d9_6) ?_
    show Steps p.tables e below (s₁.setTop (mkF m 8 #[.val (.int q), .val (.int c0), .val (.int c1)] [(.int (61 : Int32)), (.int c0)])) _
    refine XS.icmpNo X0.here hx rfl (hb hby d9_8) rfl (teq hc).2 ?_
    show Steps p.tables e below (s₁.setTop (mkF m 11 #[.val (.int q), .val (.int c0), .val (.int c1)] [])) _
    refine st101 _ ?_
    show Steps p.tables e below (T101.setTop (mkF m 14 #[.val (.int q), .val (.int c0), .val (.int c1)] [(.ref w0)])) _
    jvm_step X101.here [X101.here.top, hx, (hb hby d9_14), X101.method', Bd.returns, Value.isRef, FieldType.isReference]
    first | (intro acts; rw [hr _ acts rfl rfl rfl]) | rw [hr _ _ rfl rfl rfl]
    exact Steps.refl _
  · show QP (.ref w0) h0 n0 _ T101.heap _
    rw [e101]
    exact ⟨rfl, N0, rfl⟩
theorem d9_15 : decode method_3_code 15 = .ok (.iload_n 1, 1) := by decide +kernel
theorem d9_16 : decode method_3_code 16 = .ok (.bipush 60, 2) := by decide +kernel
theorem d9_18 : decode method_3_code 18 = .ok (.if_icmp .ne 7, 3) := by decide +kernel
theorem d9_21 : decode method_3_code 21 = .ok (.getstatic 13, 3) := by decide +kernel
theorem d9_24 : decode method_3_code 24 = .ok (.areturn, 1) := by decide +kernel
set_option maxRecDepth 65536 in
set_option maxHeartbeats 40000000 in
theorem rm9_1b (l : Launch) (Z : State) (a0 : Array Value) (hw : ∀ d ∈ tables_1, d.before a0 Z = true) (ws : List Jvm.Cond) (w0 w1 w2 w3 w4 w5 : Addr) (q c0 c1 : Int32) (h0 : Heap) (n0 : Nat) (O0 : Old Z n0 h0) (S0 : Sta Z Z.heap "com/example/plugroot/plugroot/sql/Comparison" "EQUAL" "Lcom/example/plugroot/plugroot/sql/Comparison;" (.ref w0)) (S1 : Sta Z Z.heap "com/example/plugroot/plugroot/sql/Comparison" "NOT_EQUAL" "Lcom/example/plugroot/plugroot/sql/Comparison;" (.ref w1)) (S2 : Sta Z Z.heap "com/example/plugroot/plugroot/sql/Comparison" "LESS" "Lcom/example/plugroot/plugroot/sql/Comparison;" (.ref w2)) (S3 : Sta Z Z.heap "com/example/plugroot/plugroot/sql/Comparison" "GREATER" "Lcom/example/plugroot/plugroot/sql/Comparison;" (.ref w3)) (S4 : Sta Z Z.heap "com/example/plugroot/plugroot/sql/Comparison" "LESS_OR_EQUAL" "Lcom/example/plugroot/plugroot/sql/Comparison;" (.ref w4)) (S5 : Sta Z Z.heap "com/example/plugroot/plugroot/sql/Comparison" "GREATER_OR_EQUAL" "Lcom/example/plugroot/plugroot/sql/Comparison;" (.ref w5)) (hq : q = 1) (hc : c0 = 60) :
    MetFree l (⟨"com/example/plugroot/plugroot/sql/ComparisonOfPinLaw", "expected", "(ICC)Lcom/example/plugroot/plugroot/sql/Comparison;"⟩ : MethodName) (head1 (Jvm.Cond.code (⟨"com/example/plugroot/plugroot/sql/ComparisonOfPinLaw", "expected", "(ICC)Lcom/example/plugroot/plugroot/sql/Comparison;"⟩ : MethodName) method_3_code 3 (some (.object "com/example/plugroot/plugroot/sql/Comparison")) :: ws) ({ frames := 0, cells := 0, slots := 0, locals := 0 } : Room)) (fun a_ U => a_ = #[(.int q), (.int c0), (.int c1)] ∧ Z.Warmed39 U.vm ∧ U.heap = h0) (fun _ _ _ _ _ => True) (fun _ U o U' => ∃ v L, o = .returned v ∧ QP (.ref w2) h0 n0 v U'.heap L ∧ FrameEnd U o U' L ({ frames := 0, cells := 0, slots := 0, locals := 0 } : Room).cells ({ frames := 0, cells := 0, slots := 0, locals := 0 } : Room).slots) := by
  refine MetFree.of_bodySF (plainFor_of_name pn_0) hisR ?_
  intro p e s m args below meth c s₁ Bd hml0 hP hK
  obtain ⟨rfl, hZ, hh⟩ := hP
  have hx := Bd.exec
  have hby := Bd.bytes
  have hml : c.maxLocals = 3 := hml0
  have hown : s.vm.findClass "com/example/plugroot/plugroot/sql/ComparisonOfPinLaw" = some m.cls := findClass_of_methodNamed Bd.named
  have hnm := (name_of_methodNamed Bd.named Bd.method).1
  have X0 : Stand p l e ({ frames := 0, cells := 0, slots := 0, locals := 0 } : Room) s m #[(.int q), (.int c0), (.int c1)] below meth c s₁ [] 0 0 := Stand.of_body Bd
  have e0 : s₁.heap = h0 := by rw [← hh, Bd.state]; rfl
  have N0 := Fr.nil n0
  have pre0 : ∀ tg, Steps p.tables e below (s₁.setTop (mkF m 0 #[.val (.int q), .val (.int c0), .val (.int c1)] [])) tg → Steps p.tables e below (s₁.setTop (entryFrame m #[(.int q), (.int c0), (.int c1)] 3)) tg := fun tg kq => castTop (ef_III_3 m q c0 c1) kq
  obtain ⟨T101, X101, e101, st101⟩ := getS2 X0 hx hZ hown (host := "") (Or.inl (wi hw 78 rfl)) Via.refl e0 (S2.ext O0.2) (g := (mkF m 21 #[.val (.int q), .val (.int c0), .val (.int c1)] [])) rfl (hb hby d9_21)
  obtain ⟨fs, hr, hrun, hended, hW, hsame⟩ := X101.leave (v := some (.ref w2)) (fun h => by rw [Bd.returns] at h; cases h)
  refine ⟨_, _, pre0 _ ?_, hrun, hended, _, _, rfl, ?_, ⟨_, rfl⟩, hW, hsame.mono (by decide) (by decide)⟩
  · show Steps p.tables e below (s₁.setTop (mkF m 0 #[.val (.int q), .val (.int c0), .val (.int c1)] [])) _
    refine XS.iloadN X0.here hx rfl (hb hby d9_0) rfl ?_
    show Steps p.tables e below (s₁.setTop (mkF m 1 #[.val (.int q), .val (.int c0), .val (.int c1)] [(.int q)])) _
    refine XS.iconst X0.here hx rfl (hb hby d9_1) ?_
    show Steps p.tables e below (s₁.setTop (mkF m 2 #[.val (.int q), .val (.int c0), .val (.int c1)] [(.int (1 : Int32)), (.int q)])) _
    refine XS.icmpNo X0.here hx rfl (hb hby d9_2) rfl (teq hq).2 ?_
    show Steps p.tables e below (s₁.setTop (mkF m 5 #[.val (.int q), .val (.int c0), .val (.int c1)] [])) _
    refine XS.iloadN X0.here hx rfl (hb hby d9_5) rfl ?_
    show Steps p.tables e below (s₁.setTop (mkF m 6 #[.val (.int q), .val (.int c0), .val (.int c1)] [(.int c0)])) _
    refine XS.bipush X0.here hx rfl (hb hby d9_6) ?_
    show Steps p.tables e below (s₁.setTop (mkF m 8 #[.val (.int q), .val (.int c0), .val (.int c1)] [(.int (61 : Int32)), (.int c0)])) _
    refine XS.icmpYes X0.here hx rfl (pc0 := 8) (pc' := 15) rfl (hb hby d9_8) rfl (feq (fun z => absurd (hc.symm.trans z) (by decide))).2 (by decide) (by decide) ?_
    show Steps p.tables e below (s₁.setTop (mkF m 15 #[.val (.int q), .val (.int c0), .val (.int c1)] [])) _
    refine XS.iloadN X0.here hx rfl (hb hby d9_15) rfl ?_
    show Steps p.tables e below (s₁.setTop (mkF m 16 #[.val (.int q), .val (.int c0), .val (.int c1)] [(.int c0)])) _
    refine XS.bipush X0.here hx rfl (hb hby d9_16) ?_
    show Steps p.tables e below (s₁.setTop (mkF m 18 #[.val (.int q), .val (.int c0), .val (.int c1)] [(.int (60 : Int32)), (.int c0)])) _
    refine XS.icmpNo X0.here hx rfl (hb hby d9_18) rfl (teq hc).2 ?_
    show Steps p.tables e below (s₁.setTop (mkF m 21 #[.val (.int q), .val (.int c0), .val (.int c1)] [])) _
    refine st101 _ ?_
    show Steps p.tables e below (T101.setTop (mkF m 24 #[.val (.int q), .val (.int c0), .val (.int c1)] [(.ref w2)])) _
    jvm_step X101.here [X101.here.top, hx, (hb hby d9_24), X101.method', Bd.returns, Value.isRef, FieldType.isReference]
    first | (intro acts; rw [hr _ acts rfl rfl rfl]) | rw [hr _ _ rfl rfl rfl]
    exact Steps.refl _
  · show QP (.ref w2) h0 n0 _ T101.heap _
    rw [e101]
    exact ⟨rfl, N0, rfl⟩
theorem d9_25 : decode method_3_code 25 = .ok (.iload_n 1, 1) := by decide +kernel
theorem d9_26 : decode method_3_code 26 = .ok (.bipush 62, 2) := by decide +kernel
theorem d9_28 : decode method_3_code 28 = .ok (.if_icmp .ne 7, 3) := by decide +kernel
theorem d9_31 : decode method_3_code 31 = .ok (.getstatic 16, 3) := by decide +kernel
theorem d9_34 : decode method_3_code 34 = .ok (.areturn, 1) := by decide +kernel
set_option maxRecDepth 65536 in
set_option maxHeartbeats 40000000 in
theorem rm9_1c (l : Launch) (Z : State) (a0 : Array Value) (hw : ∀ d ∈ tables_1, d.before a0 Z = true) (ws : List Jvm.Cond) (w0 w1 w2 w3 w4 w5 : Addr) (q c0 c1 : Int32) (h0 : Heap) (n0 : Nat) (O0 : Old Z n0 h0) (S0 : Sta Z Z.heap "com/example/plugroot/plugroot/sql/Comparison" "EQUAL" "Lcom/example/plugroot/plugroot/sql/Comparison;" (.ref w0)) (S1 : Sta Z Z.heap "com/example/plugroot/plugroot/sql/Comparison" "NOT_EQUAL" "Lcom/example/plugroot/plugroot/sql/Comparison;" (.ref w1)) (S2 : Sta Z Z.heap "com/example/plugroot/plugroot/sql/Comparison" "LESS" "Lcom/example/plugroot/plugroot/sql/Comparison;" (.ref w2)) (S3 : Sta Z Z.heap "com/example/plugroot/plugroot/sql/Comparison" "GREATER" "Lcom/example/plugroot/plugroot/sql/Comparison;" (.ref w3)) (S4 : Sta Z Z.heap "com/example/plugroot/plugroot/sql/Comparison" "LESS_OR_EQUAL" "Lcom/example/plugroot/plugroot/sql/Comparison;" (.ref w4)) (S5 : Sta Z Z.heap "com/example/plugroot/plugroot/sql/Comparison" "GREATER_OR_EQUAL" "Lcom/example/plugroot/plugroot/sql/Comparison;" (.ref w5)) (hq : q = 1) (hc : c0 = 62) :
    MetFree l (⟨"com/example/plugroot/plugroot/sql/ComparisonOfPinLaw", "expected", "(ICC)Lcom/example/plugroot/plugroot/sql/Comparison;"⟩ : MethodName) (head1 (Jvm.Cond.code (⟨"com/example/plugroot/plugroot/sql/ComparisonOfPinLaw", "expected", "(ICC)Lcom/example/plugroot/plugroot/sql/Comparison;"⟩ : MethodName) method_3_code 3 (some (.object "com/example/plugroot/plugroot/sql/Comparison")) :: ws) ({ frames := 0, cells := 0, slots := 0, locals := 0 } : Room)) (fun a_ U => a_ = #[(.int q), (.int c0), (.int c1)] ∧ Z.Warmed39 U.vm ∧ U.heap = h0) (fun _ _ _ _ _ => True) (fun _ U o U' => ∃ v L, o = .returned v ∧ QP (.ref w3) h0 n0 v U'.heap L ∧ FrameEnd U o U' L ({ frames := 0, cells := 0, slots := 0, locals := 0 } : Room).cells ({ frames := 0, cells := 0, slots := 0, locals := 0 } : Room).slots) := by
  refine MetFree.of_bodySF (plainFor_of_name pn_0) hisR ?_
  intro p e s m args below meth c s₁ Bd hml0 hP hK
  obtain ⟨rfl, hZ, hh⟩ := hP
  have hx := Bd.exec
  have hby := Bd.bytes
  have hml : c.maxLocals = 3 := hml0
  have hown : s.vm.findClass "com/example/plugroot/plugroot/sql/ComparisonOfPinLaw" = some m.cls := findClass_of_methodNamed Bd.named
  have hnm := (name_of_methodNamed Bd.named Bd.method).1
  have X0 : Stand p l e ({ frames := 0, cells := 0, slots := 0, locals := 0 } : Room) s m #[(.int q), (.int c0), (.int c1)] below meth c s₁ [] 0 0 := Stand.of_body Bd
  have e0 : s₁.heap = h0 := by rw [← hh, Bd.state]; rfl
  have N0 := Fr.nil n0
  have pre0 : ∀ tg, Steps p.tables e below (s₁.setTop (mkF m 0 #[.val (.int q), .val (.int c0), .val (.int c1)] [])) tg → Steps p.tables e below (s₁.setTop (entryFrame m #[(.int q), (.int c0), (.int c1)] 3)) tg := fun tg kq => castTop (ef_III_3 m q c0 c1) kq
  obtain ⟨T101, X101, e101, st101⟩ := getS2 X0 hx hZ hown (host := "") (Or.inl (wi hw 81 rfl)) Via.refl e0 (S3.ext O0.2) (g := (mkF m 31 #[.val (.int q), .val (.int c0), .val (.int c1)] [])) rfl (hb hby d9_31)
  obtain ⟨fs, hr, hrun, hended, hW, hsame⟩ := X101.leave (v := some (.ref w3)) (fun h => by rw [Bd.returns] at h; cases h)
  refine ⟨_, _, pre0 _ ?_, hrun, hended, _, _, rfl, ?_, ⟨_, rfl⟩, hW, hsame.mono (by decide) (by decide)⟩
  · show Steps p.tables e below (s₁.setTop (mkF m 0 #[.val (.int q), .val (.int c0), .val (.int c1)] [])) _
    refine XS.iloadN X0.here hx rfl (hb hby d9_0) rfl ?_
    show Steps p.tables e below (s₁.setTop (mkF m 1 #[.val (.int q), .val (.int c0), .val (.int c1)] [(.int q)])) _
    refine XS.iconst X0.here hx rfl (hb hby d9_1) ?_
    show Steps p.tables e below (s₁.setTop (mkF m 2 #[.val (.int q), .val (.int c0), .val (.int c1)] [(.int (1 : Int32)), (.int q)])) _
    refine XS.icmpNo X0.here hx rfl (hb hby d9_2) rfl (teq hq).2 ?_
    show Steps p.tables e below (s₁.setTop (mkF m 5 #[.val (.int q), .val (.int c0), .val (.int c1)] [])) _
    refine XS.iloadN X0.here hx rfl (hb hby d9_5) rfl ?_
    show Steps p.tables e below (s₁.setTop (mkF m 6 #[.val (.int q), .val (.int c0), .val (.int c1)] [(.int c0)])) _
    refine XS.bipush X0.here hx rfl (hb hby d9_6) ?_
    show Steps p.tables e below (s₁.setTop (mkF m 8 #[.val (.int q), .val (.int c0), .val (.int c1)] [(.int (61 : Int32)), (.int c0)])) _
    refine XS.icmpYes X0.here hx rfl (pc0 := 8) (pc' := 15) rfl (hb hby d9_8) rfl (feq (fun z => absurd (hc.symm.trans z) (by decide))).2 (by decide) (by decide) ?_
    show Steps p.tables e below (s₁.setTop (mkF m 15 #[.val (.int q), .val (.int c0), .val (.int c1)] [])) _
    refine XS.iloadN X0.here hx rfl (hb hby d9_15) rfl ?_
    show Steps p.tables e below (s₁.setTop (mkF m 16 #[.val (.int q), .val (.int c0), .val (.int c1)] [(.int c0)])) _
    refine XS.bipush X0.here hx rfl (hb hby d9_16) ?_
    show Steps p.tables e below (s₁.setTop (mkF m 18 #[.val (.int q), .val (.int c0), .val (.int c1)] [(.int (60 : Int32)), (.int c0)])) _
    refine XS.icmpYes X0.here hx rfl (pc0 := 18) (pc' := 25) rfl (hb hby d9_18) rfl (feq (fun z => absurd (hc.symm.trans z) (by decide))).2 (by decide) (by decide) ?_
    show Steps p.tables e below (s₁.setTop (mkF m 25 #[.val (.int q), .val (.int c0), .val (.int c1)] [])) _
    refine XS.iloadN X0.here hx rfl (hb hby d9_25) rfl ?_
    show Steps p.tables e below (s₁.setTop (mkF m 26 #[.val (.int q), .val (.int c0), .val (.int c1)] [(.int c0)])) _
    refine XS.bipush X0.here hx rfl (hb hby d9_26) ?_
    show Steps p.tables e below (s₁.setTop (mkF m 28 #[.val (.int q), .val (.int c0), .val (.int c1)] [(.int (62 : Int32)), (.int c0)])) _
    refine XS.icmpNo X0.here hx rfl (hb hby d9_28) rfl (teq hc).2 ?_
    show Steps p.tables e below (s₁.setTop (mkF m 31 #[.val (.int q), .val (.int c0), .val (.int c1)] [])) _
    refine st101 _ ?_
    show Steps p.tables e below (T101.setTop (mkF m 34 #[.val (.int q), .val (.int c0), .val (.int c1)] [(.ref w3)])) _
    jvm_step X101.here [X101.here.top, hx, (hb hby d9_34), X101.method', Bd.returns, Value.isRef, FieldType.isReference]
    first | (intro acts; rw [hr _ acts rfl rfl rfl]) | rw [hr _ _ rfl rfl rfl]
    exact Steps.refl _
  · show QP (.ref w3) h0 n0 _ T101.heap _
    rw [e101]
    exact ⟨rfl, N0, rfl⟩
theorem d9_35 : decode method_3_code 35 = .ok (.aconst_null, 1) := by decide +kernel
theorem d9_36 : decode method_3_code 36 = .ok (.areturn, 1) := by decide +kernel
set_option maxRecDepth 65536 in
set_option maxHeartbeats 40000000 in
theorem rm9_1d (l : Launch) (Z : State) (a0 : Array Value) (hw : ∀ d ∈ tables_1, d.before a0 Z = true) (ws : List Jvm.Cond) (w0 w1 w2 w3 w4 w5 : Addr) (q c0 c1 : Int32) (h0 : Heap) (n0 : Nat) (O0 : Old Z n0 h0) (S0 : Sta Z Z.heap "com/example/plugroot/plugroot/sql/Comparison" "EQUAL" "Lcom/example/plugroot/plugroot/sql/Comparison;" (.ref w0)) (S1 : Sta Z Z.heap "com/example/plugroot/plugroot/sql/Comparison" "NOT_EQUAL" "Lcom/example/plugroot/plugroot/sql/Comparison;" (.ref w1)) (S2 : Sta Z Z.heap "com/example/plugroot/plugroot/sql/Comparison" "LESS" "Lcom/example/plugroot/plugroot/sql/Comparison;" (.ref w2)) (S3 : Sta Z Z.heap "com/example/plugroot/plugroot/sql/Comparison" "GREATER" "Lcom/example/plugroot/plugroot/sql/Comparison;" (.ref w3)) (S4 : Sta Z Z.heap "com/example/plugroot/plugroot/sql/Comparison" "LESS_OR_EQUAL" "Lcom/example/plugroot/plugroot/sql/Comparison;" (.ref w4)) (S5 : Sta Z Z.heap "com/example/plugroot/plugroot/sql/Comparison" "GREATER_OR_EQUAL" "Lcom/example/plugroot/plugroot/sql/Comparison;" (.ref w5)) (hq : q = 1) (u : ¬ (c0 = 61)) (v : ¬ (c0 = 60)) (y : ¬ (c0 = 62)) :
    MetFree l (⟨"com/example/plugroot/plugroot/sql/ComparisonOfPinLaw", "expected", "(ICC)Lcom/example/plugroot/plugroot/sql/Comparison;"⟩ : MethodName) (head1 (Jvm.Cond.code (⟨"com/example/plugroot/plugroot/sql/ComparisonOfPinLaw", "expected", "(ICC)Lcom/example/plugroot/plugroot/sql/Comparison;"⟩ : MethodName) method_3_code 3 (some (.object "com/example/plugroot/plugroot/sql/Comparison")) :: ws) ({ frames := 0, cells := 0, slots := 0, locals := 0 } : Room)) (fun a_ U => a_ = #[(.int q), (.int c0), (.int c1)] ∧ Z.Warmed39 U.vm ∧ U.heap = h0) (fun _ _ _ _ _ => True) (fun _ U o U' => ∃ v L, o = .returned v ∧ QP .null h0 n0 v U'.heap L ∧ FrameEnd U o U' L ({ frames := 0, cells := 0, slots := 0, locals := 0 } : Room).cells ({ frames := 0, cells := 0, slots := 0, locals := 0 } : Room).slots) := by
  refine MetFree.of_bodySF (plainFor_of_name pn_0) hisR ?_
  intro p e s m args below meth c s₁ Bd hml0 hP hK
  obtain ⟨rfl, hZ, hh⟩ := hP
  have hx := Bd.exec
  have hby := Bd.bytes
  have hml : c.maxLocals = 3 := hml0
  have hown : s.vm.findClass "com/example/plugroot/plugroot/sql/ComparisonOfPinLaw" = some m.cls := findClass_of_methodNamed Bd.named
  have hnm := (name_of_methodNamed Bd.named Bd.method).1
  have X0 : Stand p l e ({ frames := 0, cells := 0, slots := 0, locals := 0 } : Room) s m #[(.int q), (.int c0), (.int c1)] below meth c s₁ [] 0 0 := Stand.of_body Bd
  have e0 : s₁.heap = h0 := by rw [← hh, Bd.state]; rfl
  have N0 := Fr.nil n0
  have pre0 : ∀ tg, Steps p.tables e below (s₁.setTop (mkF m 0 #[.val (.int q), .val (.int c0), .val (.int c1)] [])) tg → Steps p.tables e below (s₁.setTop (entryFrame m #[(.int q), (.int c0), (.int c1)] 3)) tg := fun tg kq => castTop (ef_III_3 m q c0 c1) kq
  obtain ⟨fs, hr, hrun, hended, hW, hsame⟩ := X0.leave (v := some .null) (fun h => by rw [Bd.returns] at h; cases h)
  refine ⟨_, _, pre0 _ ?_, hrun, hended, _, _, rfl, ?_, ⟨_, rfl⟩, hW, hsame.mono (by decide) (by decide)⟩
  · show Steps p.tables e below (s₁.setTop (mkF m 0 #[.val (.int q), .val (.int c0), .val (.int c1)] [])) _
    refine XS.iloadN X0.here hx rfl (hb hby d9_0) rfl ?_
    show Steps p.tables e below (s₁.setTop (mkF m 1 #[.val (.int q), .val (.int c0), .val (.int c1)] [(.int q)])) _
    refine XS.iconst X0.here hx rfl (hb hby d9_1) ?_
    show Steps p.tables e below (s₁.setTop (mkF m 2 #[.val (.int q), .val (.int c0), .val (.int c1)] [(.int (1 : Int32)), (.int q)])) _
    refine XS.icmpNo X0.here hx rfl (hb hby d9_2) rfl (teq hq).2 ?_
    show Steps p.tables e below (s₁.setTop (mkF m 5 #[.val (.int q), .val (.int c0), .val (.int c1)] [])) _
    refine XS.iloadN X0.here hx rfl (hb hby d9_5) rfl ?_
    show Steps p.tables e below (s₁.setTop (mkF m 6 #[.val (.int q), .val (.int c0), .val (.int c1)] [(.int c0)])) _
    refine XS.bipush X0.here hx rfl (hb hby d9_6) ?_
    show Steps p.tables e below (s₁.setTop (mkF m 8 #[.val (.int q), .val (.int c0), .val (.int c1)] [(.int (61 : Int32)), (.int c0)])) _
    refine XS.icmpYes X0.here hx rfl (pc0 := 8) (pc' := 15) rfl (hb hby d9_8) rfl (feq u).2 (by decide) (by decide) ?_
    show Steps p.tables e below (s₁.setTop (mkF m 15 #[.val (.int q), .val (.int c0), .val (.int c1)] [])) _
    refine XS.iloadN X0.here hx rfl (hb hby d9_15) rfl ?_
    show Steps p.tables e below (s₁.setTop (mkF m 16 #[.val (.int q), .val (.int c0), .val (.int c1)] [(.int c0)])) _
    refine XS.bipush X0.here hx rfl (hb hby d9_16) ?_
    show Steps p.tables e below (s₁.setTop (mkF m 18 #[.val (.int q), .val (.int c0), .val (.int c1)] [(.int (60 : Int32)), (.int c0)])) _
    refine XS.icmpYes X0.here hx rfl (pc0 := 18) (pc' := 25) rfl (hb hby d9_18) rfl (feq v).2 (by decide) (by decide) ?_
    show Steps p.tables e below (s₁.setTop (mkF m 25 #[.val (.int q), .val (.int c0), .val (.int c1)] [])) _
    refine XS.iloadN X0.here hx rfl (hb hby d9_25) rfl ?_
    show Steps p.tables e below (s₁.setTop (mkF m 26 #[.val (.int q), .val (.int c0), .val (.int c1)] [(.int c0)])) _
    refine XS.bipush X0.here hx rfl (hb hby d9_26) ?_
    show Steps p.tables e below (s₁.setTop (mkF m 28 #[.val (.int q), .val (.int c0), .val (.int c1)] [(.int (62 : Int32)), (.int c0)])) _
    refine XS.icmpYes X0.here hx rfl (pc0 := 28) (pc' := 35) rfl (hb hby d9_28) rfl (feq y).2 (by decide) (by decide) ?_
    show Steps p.tables e below (s₁.setTop (mkF m 35 #[.val (.int q), .val (.int c0), .val (.int c1)] [])) _
    refine XS.aconstNull X0.here hx rfl (hb hby d9_35) ?_
    show Steps p.tables e below (s₁.setTop (mkF m 36 #[.val (.int q), .val (.int c0), .val (.int c1)] [.null])) _
    jvm_step X0.here [X0.here.top, hx, (hb hby d9_36), X0.method', Bd.returns, Value.isRef, FieldType.isReference]
    first | (intro acts; rw [hr _ acts rfl rfl rfl]) | rw [hr _ _ rfl rfl rfl]
    exact Steps.refl _
  · show QP .null h0 n0 _ s₁.heap _
    rw [e0]
    exact ⟨rfl, N0, rfl⟩
theorem d9_37 : decode method_3_code 37 = .ok (.iload_n 0, 1) := by decide +kernel
theorem d9_38 : decode method_3_code 38 = .ok (.iconst 2, 1) := by decide +kernel
theorem d9_39 : decode method_3_code 39 = .ok (.if_icmp .ne 69, 3) := by decide +kernel
theorem d9_42 : decode method_3_code 42 = .ok (.iload_n 1, 1) := by decide +kernel
theorem d9_43 : decode method_3_code 43 = .ok (.bipush 60, 2) := by decide +kernel
theorem d9_45 : decode method_3_code 45 = .ok (.if_icmp .ne 13, 3) := by decide +kernel
theorem d9_48 : decode method_3_code 48 = .ok (.iload_n 2, 1) := by decide +kernel
theorem d9_49 : decode method_3_code 49 = .ok (.bipush 62, 2) := by decide +kernel
theorem d9_51 : decode method_3_code 51 = .ok (.if_icmp .ne 7, 3) := by decide +kernel
theorem d9_54 : decode method_3_code 54 = .ok (.getstatic 19, 3) := by decide +kernel
theorem d9_57 : decode method_3_code 57 = .ok (.areturn, 1) := by decide +kernel
set_option maxRecDepth 65536 in
set_option maxHeartbeats 40000000 in
theorem rm9_2a (l : Launch) (Z : State) (a0 : Array Value) (hw : ∀ d ∈ tables_1, d.before a0 Z = true) (ws : List Jvm.Cond) (w0 w1 w2 w3 w4 w5 : Addr) (q c0 c1 : Int32) (h0 : Heap) (n0 : Nat) (O0 : Old Z n0 h0) (S0 : Sta Z Z.heap "com/example/plugroot/plugroot/sql/Comparison" "EQUAL" "Lcom/example/plugroot/plugroot/sql/Comparison;" (.ref w0)) (S1 : Sta Z Z.heap "com/example/plugroot/plugroot/sql/Comparison" "NOT_EQUAL" "Lcom/example/plugroot/plugroot/sql/Comparison;" (.ref w1)) (S2 : Sta Z Z.heap "com/example/plugroot/plugroot/sql/Comparison" "LESS" "Lcom/example/plugroot/plugroot/sql/Comparison;" (.ref w2)) (S3 : Sta Z Z.heap "com/example/plugroot/plugroot/sql/Comparison" "GREATER" "Lcom/example/plugroot/plugroot/sql/Comparison;" (.ref w3)) (S4 : Sta Z Z.heap "com/example/plugroot/plugroot/sql/Comparison" "LESS_OR_EQUAL" "Lcom/example/plugroot/plugroot/sql/Comparison;" (.ref w4)) (S5 : Sta Z Z.heap "com/example/plugroot/plugroot/sql/Comparison" "GREATER_OR_EQUAL" "Lcom/example/plugroot/plugroot/sql/Comparison;" (.ref w5)) (hq : q = 2) (hc : c0 = 60) (hd : c1 = 62) :
    MetFree l (⟨"com/example/plugroot/plugroot/sql/ComparisonOfPinLaw", "expected", "(ICC)Lcom/example/plugroot/plugroot/sql/Comparison;"⟩ : MethodName) (head1 (Jvm.Cond.code (⟨"com/example/plugroot/plugroot/sql/ComparisonOfPinLaw", "expected", "(ICC)Lcom/example/plugroot/plugroot/sql/Comparison;"⟩ : MethodName) method_3_code 3 (some (.object "com/example/plugroot/plugroot/sql/Comparison")) :: ws) ({ frames := 0, cells := 0, slots := 0, locals := 0 } : Room)) (fun a_ U => a_ = #[(.int q), (.int c0), (.int c1)] ∧ Z.Warmed39 U.vm ∧ U.heap = h0) (fun _ _ _ _ _ => True) (fun _ U o U' => ∃ v L, o = .returned v ∧ QP (.ref w1) h0 n0 v U'.heap L ∧ FrameEnd U o U' L ({ frames := 0, cells := 0, slots := 0, locals := 0 } : Room).cells ({ frames := 0, cells := 0, slots := 0, locals := 0 } : Room).slots) := by
  refine MetFree.of_bodySF (plainFor_of_name pn_0) hisR ?_
  intro p e s m args below meth c s₁ Bd hml0 hP hK
  obtain ⟨rfl, hZ, hh⟩ := hP
  have hx := Bd.exec
  have hby := Bd.bytes
  have hml : c.maxLocals = 3 := hml0
  have hown : s.vm.findClass "com/example/plugroot/plugroot/sql/ComparisonOfPinLaw" = some m.cls := findClass_of_methodNamed Bd.named
  have hnm := (name_of_methodNamed Bd.named Bd.method).1
  have X0 : Stand p l e ({ frames := 0, cells := 0, slots := 0, locals := 0 } : Room) s m #[(.int q), (.int c0), (.int c1)] below meth c s₁ [] 0 0 := Stand.of_body Bd
  have e0 : s₁.heap = h0 := by rw [← hh, Bd.state]; rfl
  have N0 := Fr.nil n0
  have pre0 : ∀ tg, Steps p.tables e below (s₁.setTop (mkF m 0 #[.val (.int q), .val (.int c0), .val (.int c1)] [])) tg → Steps p.tables e below (s₁.setTop (entryFrame m #[(.int q), (.int c0), (.int c1)] 3)) tg := fun tg kq => castTop (ef_III_3 m q c0 c1) kq
  obtain ⟨T101, X101, e101, st101⟩ := getS2 X0 hx hZ hown (host := "") (Or.inl (wi hw 80 rfl)) Via.refl e0 (S1.ext O0.2) (g := (mkF m 54 #[.val (.int q), .val (.int c0), .val (.int c1)] [])) rfl (hb hby d9_54)
  obtain ⟨fs, hr, hrun, hended, hW, hsame⟩ := X101.leave (v := some (.ref w1)) (fun h => by rw [Bd.returns] at h; cases h)
  refine ⟨_, _, pre0 _ ?_, hrun, hended, _, _, rfl, ?_, ⟨_, rfl⟩, hW, hsame.mono (by decide) (by decide)⟩
  · show Steps p.tables e below (s₁.setTop (mkF m 0 #[.val (.int q), .val (.int c0), .val (.int c1)] [])) _
    refine XS.iloadN X0.here hx rfl (hb hby d9_0) rfl ?_
    show Steps p.tables e below (s₁.setTop (mkF m 1 #[.val (.int q), .val (.int c0), .val (.int c1)] [(.int q)])) _
    refine XS.iconst X0.here hx rfl (hb hby d9_1) ?_
    show Steps p.tables e below (s₁.setTop (mkF m 2 #[.val (.int q), .val (.int c0), .val (.int c1)] [(.int (1 : Int32)), (.int q)])) _
    refine XS.icmpYes X0.here hx rfl (pc0 := 2) (pc' := 37) rfl (hb hby d9_2) rfl (feq (fun z => absurd (hq.symm.trans z) (by decide))).2 (by decide) (by decide) ?_
    show Steps p.tables e below (s₁.setTop (mkF m 37 #[.val (.int q), .val (.int c0), .val (.int c1)] [])) _
    refine XS.iloadN X0.here hx rfl (hb hby d9_37) rfl ?_
    show Steps p.tables e below (s₁.setTop (mkF m 38 #[.val (.int q), .val (.int c0), .val (.int c1)] [(.int q)])) _
    refine XS.iconst X0.here hx rfl (hb hby d9_38) ?_
    show Steps p.tables e below (s₁.setTop (mkF m 39 #[.val (.int q), .val (.int c0), .val (.int c1)] [(.int (2 : Int32)), (.int q)])) _
    refine XS.icmpNo X0.here hx rfl (hb hby d9_39) rfl (teq hq).2 ?_
    show Steps p.tables e below (s₁.setTop (mkF m 42 #[.val (.int q), .val (.int c0), .val (.int c1)] [])) _
    refine XS.iloadN X0.here hx rfl (hb hby d9_42) rfl ?_
    show Steps p.tables e below (s₁.setTop (mkF m 43 #[.val (.int q), .val (.int c0), .val (.int c1)] [(.int c0)])) _
    refine XS.bipush X0.here hx rfl (hb hby d9_43) ?_
    show Steps p.tables e below (s₁.setTop (mkF m 45 #[.val (.int q), .val (.int c0), .val (.int c1)] [(.int (60 : Int32)), (.int c0)])) _
    refine XS.icmpNo X0.here hx rfl (hb hby d9_45) rfl (teq hc).2 ?_
    show Steps p.tables e below (s₁.setTop (mkF m 48 #[.val (.int q), .val (.int c0), .val (.int c1)] [])) _
    refine XS.iloadN X0.here hx rfl (hb hby d9_48) rfl ?_
    show Steps p.tables e below (s₁.setTop (mkF m 49 #[.val (.int q), .val (.int c0), .val (.int c1)] [(.int c1)])) _
    refine XS.bipush X0.here hx rfl (hb hby d9_49) ?_
    show Steps p.tables e below (s₁.setTop (mkF m 51 #[.val (.int q), .val (.int c0), .val (.int c1)] [(.int (62 : Int32)), (.int c1)])) _
    refine XS.icmpNo X0.here hx rfl (hb hby d9_51) rfl (teq hd).2 ?_
    show Steps p.tables e below (s₁.setTop (mkF m 54 #[.val (.int q), .val (.int c0), .val (.int c1)] [])) _
    refine st101 _ ?_
    show Steps p.tables e below (T101.setTop (mkF m 57 #[.val (.int q), .val (.int c0), .val (.int c1)] [(.ref w1)])) _
    jvm_step X101.here [X101.here.top, hx, (hb hby d9_57), X101.method', Bd.returns, Value.isRef, FieldType.isReference]
    first | (intro acts; rw [hr _ acts rfl rfl rfl]) | rw [hr _ _ rfl rfl rfl]
    exact Steps.refl _
  · show QP (.ref w1) h0 n0 _ T101.heap _
    rw [e101]
    exact ⟨rfl, N0, rfl⟩
theorem d9_58 : decode method_3_code 58 = .ok (.iload_n 1, 1) := by decide +kernel
theorem d9_59 : decode method_3_code 59 = .ok (.bipush 33, 2) := by decide +kernel
theorem d9_61 : decode method_3_code 61 = .ok (.if_icmp .ne 13, 3) := by decide +kernel
theorem d9_74 : decode method_3_code 74 = .ok (.iload_n 1, 1) := by decide +kernel
theorem d9_75 : decode method_3_code 75 = .ok (.bipush 60, 2) := by decide +kernel
theorem d9_77 : decode method_3_code 77 = .ok (.if_icmp .ne 13, 3) := by decide +kernel
theorem d9_80 : decode method_3_code 80 = .ok (.iload_n 2, 1) := by decide +kernel
theorem d9_81 : decode method_3_code 81 = .ok (.bipush 61, 2) := by decide +kernel
theorem d9_83 : decode method_3_code 83 = .ok (.if_icmp .ne 7, 3) := by decide +kernel
theorem d9_86 : decode method_3_code 86 = .ok (.getstatic 22, 3) := by decide +kernel
theorem d9_89 : decode method_3_code 89 = .ok (.areturn, 1) := by decide +kernel
set_option maxRecDepth 65536 in
set_option maxHeartbeats 40000000 in
theorem rm9_2b (l : Launch) (Z : State) (a0 : Array Value) (hw : ∀ d ∈ tables_1, d.before a0 Z = true) (ws : List Jvm.Cond) (w0 w1 w2 w3 w4 w5 : Addr) (q c0 c1 : Int32) (h0 : Heap) (n0 : Nat) (O0 : Old Z n0 h0) (S0 : Sta Z Z.heap "com/example/plugroot/plugroot/sql/Comparison" "EQUAL" "Lcom/example/plugroot/plugroot/sql/Comparison;" (.ref w0)) (S1 : Sta Z Z.heap "com/example/plugroot/plugroot/sql/Comparison" "NOT_EQUAL" "Lcom/example/plugroot/plugroot/sql/Comparison;" (.ref w1)) (S2 : Sta Z Z.heap "com/example/plugroot/plugroot/sql/Comparison" "LESS" "Lcom/example/plugroot/plugroot/sql/Comparison;" (.ref w2)) (S3 : Sta Z Z.heap "com/example/plugroot/plugroot/sql/Comparison" "GREATER" "Lcom/example/plugroot/plugroot/sql/Comparison;" (.ref w3)) (S4 : Sta Z Z.heap "com/example/plugroot/plugroot/sql/Comparison" "LESS_OR_EQUAL" "Lcom/example/plugroot/plugroot/sql/Comparison;" (.ref w4)) (S5 : Sta Z Z.heap "com/example/plugroot/plugroot/sql/Comparison" "GREATER_OR_EQUAL" "Lcom/example/plugroot/plugroot/sql/Comparison;" (.ref w5)) (hq : q = 2) (hc : c0 = 60) (hd : c1 = 61) :
    MetFree l (⟨"com/example/plugroot/plugroot/sql/ComparisonOfPinLaw", "expected", "(ICC)Lcom/example/plugroot/plugroot/sql/Comparison;"⟩ : MethodName) (head1 (Jvm.Cond.code (⟨"com/example/plugroot/plugroot/sql/ComparisonOfPinLaw", "expected", "(ICC)Lcom/example/plugroot/plugroot/sql/Comparison;"⟩ : MethodName) method_3_code 3 (some (.object "com/example/plugroot/plugroot/sql/Comparison")) :: ws) ({ frames := 0, cells := 0, slots := 0, locals := 0 } : Room)) (fun a_ U => a_ = #[(.int q), (.int c0), (.int c1)] ∧ Z.Warmed39 U.vm ∧ U.heap = h0) (fun _ _ _ _ _ => True) (fun _ U o U' => ∃ v L, o = .returned v ∧ QP (.ref w4) h0 n0 v U'.heap L ∧ FrameEnd U o U' L ({ frames := 0, cells := 0, slots := 0, locals := 0 } : Room).cells ({ frames := 0, cells := 0, slots := 0, locals := 0 } : Room).slots) := by
  refine MetFree.of_bodySF (plainFor_of_name pn_0) hisR ?_
  intro p e s m args below meth c s₁ Bd hml0 hP hK
  obtain ⟨rfl, hZ, hh⟩ := hP
  have hx := Bd.exec
  have hby := Bd.bytes
  have hml : c.maxLocals = 3 := hml0
  have hown : s.vm.findClass "com/example/plugroot/plugroot/sql/ComparisonOfPinLaw" = some m.cls := findClass_of_methodNamed Bd.named
  have hnm := (name_of_methodNamed Bd.named Bd.method).1
  have X0 : Stand p l e ({ frames := 0, cells := 0, slots := 0, locals := 0 } : Room) s m #[(.int q), (.int c0), (.int c1)] below meth c s₁ [] 0 0 := Stand.of_body Bd
  have e0 : s₁.heap = h0 := by rw [← hh, Bd.state]; rfl
  have N0 := Fr.nil n0
  have pre0 : ∀ tg, Steps p.tables e below (s₁.setTop (mkF m 0 #[.val (.int q), .val (.int c0), .val (.int c1)] [])) tg → Steps p.tables e below (s₁.setTop (entryFrame m #[(.int q), (.int c0), (.int c1)] 3)) tg := fun tg kq => castTop (ef_III_3 m q c0 c1) kq
  obtain ⟨T101, X101, e101, st101⟩ := getS2 X0 hx hZ hown (host := "") (Or.inl (wi hw 83 rfl)) Via.refl e0 (S4.ext O0.2) (g := (mkF m 86 #[.val (.int q), .val (.int c0), .val (.int c1)] [])) rfl (hb hby d9_86)
  obtain ⟨fs, hr, hrun, hended, hW, hsame⟩ := X101.leave (v := some (.ref w4)) (fun h => by rw [Bd.returns] at h; cases h)
  refine ⟨_, _, pre0 _ ?_, hrun, hended, _, _, rfl, ?_, ⟨_, rfl⟩, hW, hsame.mono (by decide) (by decide)⟩
  · show Steps p.tables e below (s₁.setTop (mkF m 0 #[.val (.int q), .val (.int c0), .val (.int c1)] [])) _
    refine XS.iloadN X0.here hx rfl (hb hby d9_0) rfl ?_
    show Steps p.tables e below (s₁.setTop (mkF m 1 #[.val (.int q), .val (.int c0), .val (.int c1)] [(.int q)])) _
    refine XS.iconst X0.here hx rfl (hb hby d9_1) ?_
    show Steps p.tables e below (s₁.setTop (mkF m 2 #[.val (.int q), .val (.int c0), .val (.int c1)] [(.int (1 : Int32)), (.int q)])) _
    refine XS.icmpYes X0.here hx rfl (pc0 := 2) (pc' := 37) rfl (hb hby d9_2) rfl (feq (fun z => absurd (hq.symm.trans z) (by decide))).2 (by decide) (by decide) ?_
    show Steps p.tables e below (s₁.setTop (mkF m 37 #[.val (.int q), .val (.int c0), .val (.int c1)] [])) _
    refine XS.iloadN X0.here hx rfl (hb hby d9_37) rfl ?_
    show Steps p.tables e below (s₁.setTop (mkF m 38 #[.val (.int q), .val (.int c0), .val (.int c1)] [(.int q)])) _
    refine XS.iconst X0.here hx rfl (hb hby d9_38) ?_
    show Steps p.tables e below (s₁.setTop (mkF m 39 #[.val (.int q), .val (.int c0), .val (.int c1)] [(.int (2 : Int32)), (.int q)])) _
    refine XS.icmpNo X0.here hx rfl (hb hby d9_39) rfl (teq hq).2 ?_
    show Steps p.tables e below (s₁.setTop (mkF m 42 #[.val (.int q), .val (.int c0), .val (.int c1)] [])) _
    refine XS.iloadN X0.here hx rfl (hb hby d9_42) rfl ?_
    show Steps p.tables e below (s₁.setTop (mkF m 43 #[.val (.int q), .val (.int c0), .val (.int c1)] [(.int c0)])) _
    refine XS.bipush X0.here hx rfl (hb hby d9_43) ?_
    show Steps p.tables e below (s₁.setTop (mkF m 45 #[.val (.int q), .val (.int c0), .val (.int c1)] [(.int (60 : Int32)), (.int c0)])) _
    refine XS.icmpNo X0.here hx rfl (hb hby d9_45) rfl (teq hc).2 ?_
    show Steps p.tables e below (s₁.setTop (mkF m 48 #[.val (.int q), .val (.int c0), .val (.int c1)] [])) _
    refine XS.iloadN X0.here hx rfl (hb hby d9_48) rfl ?_
    show Steps p.tables e below (s₁.setTop (mkF m 49 #[.val (.int q), .val (.int c0), .val (.int c1)] [(.int c1)])) _
    refine XS.bipush X0.here hx rfl (hb hby d9_49) ?_
    show Steps p.tables e below (s₁.setTop (mkF m 51 #[.val (.int q), .val (.int c0), .val (.int c1)] [(.int (62 : Int32)), (.int c1)])) _
    refine XS.icmpYes X0.here hx rfl (pc0 := 51) (pc' := 58) rfl (hb hby d9_51) rfl (feq (fun z => absurd (hd.symm.trans z) (by decide))).2 (by decide) (by decide) ?_
    show Steps p.tables e below (s₁.setTop (mkF m 58 #[.val (.int q), .val (.int c0), .val (.int c1)] [])) _
    refine XS.iloadN X0.here hx rfl (hb hby d9_58) rfl ?_
    show Steps p.tables e below (s₁.setTop (mkF m 59 #[.val (.int q), .val (.int c0), .val (.int c1)] [(.int c0)])) _
    refine XS.bipush X0.here hx rfl (hb hby d9_59) ?_
    show Steps p.tables e below (s₁.setTop (mkF m 61 #[.val (.int q), .val (.int c0), .val (.int c1)] [(.int (33 : Int32)), (.int c0)])) _
    refine XS.icmpYes X0.here hx rfl (pc0 := 61) (pc' := 74) rfl (hb hby d9_61) rfl (feq (fun z => absurd (hc.symm.trans z) (by decide))).2 (by decide) (by decide) ?_
    show Steps p.tables e below (s₁.setTop (mkF m 74 #[.val (.int q), .val (.int c0), .val (.int c1)] [])) _
    refine XS.iloadN X0.here hx rfl (hb hby d9_74) rfl ?_
    show Steps p.tables e below (s₁.setTop (mkF m 75 #[.val (.int q), .val (.int c0), .val (.int c1)] [(.int c0)])) _
    refine XS.bipush X0.here hx rfl (hb hby d9_75) ?_
    show Steps p.tables e below (s₁.setTop (mkF m 77 #[.val (.int q), .val (.int c0), .val (.int c1)] [(.int (60 : Int32)), (.int c0)])) _
    refine XS.icmpNo X0.here hx rfl (hb hby d9_77) rfl (teq hc).2 ?_
    show Steps p.tables e below (s₁.setTop (mkF m 80 #[.val (.int q), .val (.int c0), .val (.int c1)] [])) _
    refine XS.iloadN X0.here hx rfl (hb hby d9_80) rfl ?_
    show Steps p.tables e below (s₁.setTop (mkF m 81 #[.val (.int q), .val (.int c0), .val (.int c1)] [(.int c1)])) _
    refine XS.bipush X0.here hx rfl (hb hby d9_81) ?_
    show Steps p.tables e below (s₁.setTop (mkF m 83 #[.val (.int q), .val (.int c0), .val (.int c1)] [(.int (61 : Int32)), (.int c1)])) _
    refine XS.icmpNo X0.here hx rfl (hb hby d9_83) rfl (teq hd).2 ?_
    show Steps p.tables e below (s₁.setTop (mkF m 86 #[.val (.int q), .val (.int c0), .val (.int c1)] [])) _
    refine st101 _ ?_
    show Steps p.tables e below (T101.setTop (mkF m 89 #[.val (.int q), .val (.int c0), .val (.int c1)] [(.ref w4)])) _
    jvm_step X101.here [X101.here.top, hx, (hb hby d9_89), X101.method', Bd.returns, Value.isRef, FieldType.isReference]
    first | (intro acts; rw [hr _ acts rfl rfl rfl]) | rw [hr _ _ rfl rfl rfl]
    exact Steps.refl _
  · show QP (.ref w4) h0 n0 _ T101.heap _
    rw [e101]
    exact ⟨rfl, N0, rfl⟩
theorem d9_90 : decode method_3_code 90 = .ok (.iload_n 1, 1) := by decide +kernel
theorem d9_91 : decode method_3_code 91 = .ok (.bipush 62, 2) := by decide +kernel
theorem d9_93 : decode method_3_code 93 = .ok (.if_icmp .ne 13, 3) := by decide +kernel
theorem d9_106 : decode method_3_code 106 = .ok (.aconst_null, 1) := by decide +kernel
theorem d9_107 : decode method_3_code 107 = .ok (.areturn, 1) := by decide +kernel
set_option maxRecDepth 65536 in
set_option maxHeartbeats 40000000 in
theorem rm9_2c (l : Launch) (Z : State) (a0 : Array Value) (hw : ∀ d ∈ tables_1, d.before a0 Z = true) (ws : List Jvm.Cond) (w0 w1 w2 w3 w4 w5 : Addr) (q c0 c1 : Int32) (h0 : Heap) (n0 : Nat) (O0 : Old Z n0 h0) (S0 : Sta Z Z.heap "com/example/plugroot/plugroot/sql/Comparison" "EQUAL" "Lcom/example/plugroot/plugroot/sql/Comparison;" (.ref w0)) (S1 : Sta Z Z.heap "com/example/plugroot/plugroot/sql/Comparison" "NOT_EQUAL" "Lcom/example/plugroot/plugroot/sql/Comparison;" (.ref w1)) (S2 : Sta Z Z.heap "com/example/plugroot/plugroot/sql/Comparison" "LESS" "Lcom/example/plugroot/plugroot/sql/Comparison;" (.ref w2)) (S3 : Sta Z Z.heap "com/example/plugroot/plugroot/sql/Comparison" "GREATER" "Lcom/example/plugroot/plugroot/sql/Comparison;" (.ref w3)) (S4 : Sta Z Z.heap "com/example/plugroot/plugroot/sql/Comparison" "LESS_OR_EQUAL" "Lcom/example/plugroot/plugroot/sql/Comparison;" (.ref w4)) (S5 : Sta Z Z.heap "com/example/plugroot/plugroot/sql/Comparison" "GREATER_OR_EQUAL" "Lcom/example/plugroot/plugroot/sql/Comparison;" (.ref w5)) (hq : q = 2) (hc : c0 = 60) (u : ¬ (c1 = 62)) (v : ¬ (c1 = 61)) :
    MetFree l (⟨"com/example/plugroot/plugroot/sql/ComparisonOfPinLaw", "expected", "(ICC)Lcom/example/plugroot/plugroot/sql/Comparison;"⟩ : MethodName) (head1 (Jvm.Cond.code (⟨"com/example/plugroot/plugroot/sql/ComparisonOfPinLaw", "expected", "(ICC)Lcom/example/plugroot/plugroot/sql/Comparison;"⟩ : MethodName) method_3_code 3 (some (.object "com/example/plugroot/plugroot/sql/Comparison")) :: ws) ({ frames := 0, cells := 0, slots := 0, locals := 0 } : Room)) (fun a_ U => a_ = #[(.int q), (.int c0), (.int c1)] ∧ Z.Warmed39 U.vm ∧ U.heap = h0) (fun _ _ _ _ _ => True) (fun _ U o U' => ∃ v L, o = .returned v ∧ QP .null h0 n0 v U'.heap L ∧ FrameEnd U o U' L ({ frames := 0, cells := 0, slots := 0, locals := 0 } : Room).cells ({ frames := 0, cells := 0, slots := 0, locals := 0 } : Room).slots) := by
  refine MetFree.of_bodySF (plainFor_of_name pn_0) hisR ?_
  intro p e s m args below meth c s₁ Bd hml0 hP hK
  obtain ⟨rfl, hZ, hh⟩ := hP
  have hx := Bd.exec
  have hby := Bd.bytes
  have hml : c.maxLocals = 3 := hml0
  have hown : s.vm.findClass "com/example/plugroot/plugroot/sql/ComparisonOfPinLaw" = some m.cls := findClass_of_methodNamed Bd.named
  have hnm := (name_of_methodNamed Bd.named Bd.method).1
  have X0 : Stand p l e ({ frames := 0, cells := 0, slots := 0, locals := 0 } : Room) s m #[(.int q), (.int c0), (.int c1)] below meth c s₁ [] 0 0 := Stand.of_body Bd
  have e0 : s₁.heap = h0 := by rw [← hh, Bd.state]; rfl
  have N0 := Fr.nil n0
  have pre0 : ∀ tg, Steps p.tables e below (s₁.setTop (mkF m 0 #[.val (.int q), .val (.int c0), .val (.int c1)] [])) tg → Steps p.tables e below (s₁.setTop (entryFrame m #[(.int q), (.int c0), (.int c1)] 3)) tg := fun tg kq => castTop (ef_III_3 m q c0 c1) kq
  obtain ⟨fs, hr, hrun, hended, hW, hsame⟩ := X0.leave (v := some .null) (fun h => by rw [Bd.returns] at h; cases h)
  refine ⟨_, _, pre0 _ ?_, hrun, hended, _, _, rfl, ?_, ⟨_, rfl⟩, hW, hsame.mono (by decide) (by decide)⟩
  · show Steps p.tables e below (s₁.setTop (mkF m 0 #[.val (.int q), .val (.int c0), .val (.int c1)] [])) _
    refine XS.iloadN X0.here hx rfl (hb hby d9_0) rfl ?_
    show Steps p.tables e below (s₁.setTop (mkF m 1 #[.val (.int q), .val (.int c0), .val (.int c1)] [(.int q)])) _
    refine XS.iconst X0.here hx rfl (hb hby d9_1) ?_
    show Steps p.tables e below (s₁.setTop (mkF m 2 #[.val (.int q), .val (.int c0), .val (.int c1)] [(.int (1 : Int32)), (.int q)])) _
    refine XS.icmpYes X0.here hx rfl (pc0 := 2) (pc' := 37) rfl (hb hby d9_2) rfl (feq (fun z => absurd (hq.symm.trans z) (by decide))).2 (by decide) (by decide) ?_
    show Steps p.tables e below (s₁.setTop (mkF m 37 #[.val (.int q), .val (.int c0), .val (.int c1)] [])) _
    refine XS.iloadN X0.here hx rfl (hb hby d9_37) rfl ?_
    show Steps p.tables e below (s₁.setTop (mkF m 38 #[.val (.int q), .val (.int c0), .val (.int c1)] [(.int q)])) _
    refine XS.iconst X0.here hx rfl (hb hby d9_38) ?_
    show Steps p.tables e below (s₁.setTop (mkF m 39 #[.val (.int q), .val (.int c0), .val (.int c1)] [(.int (2 : Int32)), (.int q)])) _
    refine XS.icmpNo X0.here hx rfl (hb hby d9_39) rfl (teq hq).2 ?_
    show Steps p.tables e below (s₁.setTop (mkF m 42 #[.val (.int q), .val (.int c0), .val (.int c1)] [])) _
    refine XS.iloadN X0.here hx rfl (hb hby d9_42) rfl ?_
    show Steps p.tables e below (s₁.setTop (mkF m 43 #[.val (.int q), .val (.int c0), .val (.int c1)] [(.int c0)])) _
    refine XS.bipush X0.here hx rfl (hb hby d9_43) ?_
    show Steps p.tables e below (s₁.setTop (mkF m 45 #[.val (.int q), .val (.int c0), .val (.int c1)] [(.int (60 : Int32)), (.int c0)])) _
    refine XS.icmpNo X0.here hx rfl (hb hby d9_45) rfl (teq hc).2 ?_
    show Steps p.tables e below (s₁.setTop (mkF m 48 #[.val (.int q), .val (.int c0), .val (.int c1)] [])) _
    refine XS.iloadN X0.here hx rfl (hb hby d9_48) rfl ?_
    show Steps p.tables e below (s₁.setTop (mkF m 49 #[.val (.int q), .val (.int c0), .val (.int c1)] [(.int c1)])) _
    refine XS.bipush X0.here hx rfl (hb hby d9_49) ?_
    show Steps p.tables e below (s₁.setTop (mkF m 51 #[.val (.int q), .val (.int c0), .val (.int c1)] [(.int (62 : Int32)), (.int c1)])) _
    refine XS.icmpYes X0.here hx rfl (pc0 := 51) (pc' := 58) rfl (hb hby d9_51) rfl (feq u).2 (by decide) (by decide) ?_
    show Steps p.tables e below (s₁.setTop (mkF m 58 #[.val (.int q), .val (.int c0), .val (.int c1)] [])) _
    refine XS.iloadN X0.here hx rfl (hb hby d9_58) rfl ?_
    show Steps p.tables e below (s₁.setTop (mkF m 59 #[.val (.int q), .val (.int c0), .val (.int c1)] [(.int c0)])) _
    refine XS.bipush X0.here hx rfl (hb hby d9_59) ?_
    show Steps p.tables e below (s₁.setTop (mkF m 61 #[.val (.int q), .val (.int c0), .val (.int c1)] [(.int (33 : Int32)), (.int c0)])) _
    refine XS.icmpYes X0.here hx rfl (pc0 := 61) (pc' := 74) rfl (hb hby d9_61) rfl (feq (fun z => absurd (hc.symm.trans z) (by decide))).2 (by decide) (by decide) ?_
    show Steps p.tables e below (s₁.setTop (mkF m 74 #[.val (.int q), .val (.int c0), .val (.int c1)] [])) _
    refine XS.iloadN X0.here hx rfl (hb hby d9_74) rfl ?_
    show Steps p.tables e below (s₁.setTop (mkF m 75 #[.val (.int q), .val (.int c0), .val (.int c1)] [(.int c0)])) _
    refine XS.bipush X0.here hx rfl (hb hby d9_75) ?_
    show Steps p.tables e below (s₁.setTop (mkF m 77 #[.val (.int q), .val (.int c0), .val (.int c1)] [(.int (60 : Int32)), (.int c0)])) _
    refine XS.icmpNo X0.here hx rfl (hb hby d9_77) rfl (teq hc).2 ?_
    show Steps p.tables e below (s₁.setTop (mkF m 80 #[.val (.int q), .val (.int c0), .val (.int c1)] [])) _
    refine XS.iloadN X0.here hx rfl (hb hby d9_80) rfl ?_
    show Steps p.tables e below (s₁.setTop (mkF m 81 #[.val (.int q), .val (.int c0), .val (.int c1)] [(.int c1)])) _
    refine XS.bipush X0.here hx rfl (hb hby d9_81) ?_
    show Steps p.tables e below (s₁.setTop (mkF m 83 #[.val (.int q), .val (.int c0), .val (.int c1)] [(.int (61 : Int32)), (.int c1)])) _
    refine XS.icmpYes X0.here hx rfl (pc0 := 83) (pc' := 90) rfl (hb hby d9_83) rfl (feq v).2 (by decide) (by decide) ?_
    show Steps p.tables e below (s₁.setTop (mkF m 90 #[.val (.int q), .val (.int c0), .val (.int c1)] [])) _
    refine XS.iloadN X0.here hx rfl (hb hby d9_90) rfl ?_
    show Steps p.tables e below (s₁.setTop (mkF m 91 #[.val (.int q), .val (.int c0), .val (.int c1)] [(.int c0)])) _
    refine XS.bipush X0.here hx rfl (hb hby d9_91) ?_
    show Steps p.tables e below (s₁.setTop (mkF m 93 #[.val (.int q), .val (.int c0), .val (.int c1)] [(.int (62 : Int32)), (.int c0)])) _
    refine XS.icmpYes X0.here hx rfl (pc0 := 93) (pc' := 106) rfl (hb hby d9_93) rfl (feq (fun z => absurd (hc.symm.trans z) (by decide))).2 (by decide) (by decide) ?_
    show Steps p.tables e below (s₁.setTop (mkF m 106 #[.val (.int q), .val (.int c0), .val (.int c1)] [])) _
    refine XS.aconstNull X0.here hx rfl (hb hby d9_106) ?_
    show Steps p.tables e below (s₁.setTop (mkF m 107 #[.val (.int q), .val (.int c0), .val (.int c1)] [.null])) _
    jvm_step X0.here [X0.here.top, hx, (hb hby d9_107), X0.method', Bd.returns, Value.isRef, FieldType.isReference]
    first | (intro acts; rw [hr _ acts rfl rfl rfl]) | rw [hr _ _ rfl rfl rfl]
    exact Steps.refl _
  · show QP .null h0 n0 _ s₁.heap _
    rw [e0]
    exact ⟨rfl, N0, rfl⟩
theorem d9_64 : decode method_3_code 64 = .ok (.iload_n 2, 1) := by decide +kernel
theorem d9_65 : decode method_3_code 65 = .ok (.bipush 61, 2) := by decide +kernel
theorem d9_67 : decode method_3_code 67 = .ok (.if_icmp .ne 7, 3) := by decide +kernel
theorem d9_70 : decode method_3_code 70 = .ok (.getstatic 19, 3) := by decide +kernel
theorem d9_73 : decode method_3_code 73 = .ok (.areturn, 1) := by decide +kernel
set_option maxRecDepth 65536 in
set_option maxHeartbeats 40000000 in
theorem rm9_2d (l : Launch) (Z : State) (a0 : Array Value) (hw : ∀ d ∈ tables_1, d.before a0 Z = true) (ws : List Jvm.Cond) (w0 w1 w2 w3 w4 w5 : Addr) (q c0 c1 : Int32) (h0 : Heap) (n0 : Nat) (O0 : Old Z n0 h0) (S0 : Sta Z Z.heap "com/example/plugroot/plugroot/sql/Comparison" "EQUAL" "Lcom/example/plugroot/plugroot/sql/Comparison;" (.ref w0)) (S1 : Sta Z Z.heap "com/example/plugroot/plugroot/sql/Comparison" "NOT_EQUAL" "Lcom/example/plugroot/plugroot/sql/Comparison;" (.ref w1)) (S2 : Sta Z Z.heap "com/example/plugroot/plugroot/sql/Comparison" "LESS" "Lcom/example/plugroot/plugroot/sql/Comparison;" (.ref w2)) (S3 : Sta Z Z.heap "com/example/plugroot/plugroot/sql/Comparison" "GREATER" "Lcom/example/plugroot/plugroot/sql/Comparison;" (.ref w3)) (S4 : Sta Z Z.heap "com/example/plugroot/plugroot/sql/Comparison" "LESS_OR_EQUAL" "Lcom/example/plugroot/plugroot/sql/Comparison;" (.ref w4)) (S5 : Sta Z Z.heap "com/example/plugroot/plugroot/sql/Comparison" "GREATER_OR_EQUAL" "Lcom/example/plugroot/plugroot/sql/Comparison;" (.ref w5)) (hq : q = 2) (hc : c0 = 33) (hd : c1 = 61) :
    MetFree l (⟨"com/example/plugroot/plugroot/sql/ComparisonOfPinLaw", "expected", "(ICC)Lcom/example/plugroot/plugroot/sql/Comparison;"⟩ : MethodName) (head1 (Jvm.Cond.code (⟨"com/example/plugroot/plugroot/sql/ComparisonOfPinLaw", "expected", "(ICC)Lcom/example/plugroot/plugroot/sql/Comparison;"⟩ : MethodName) method_3_code 3 (some (.object "com/example/plugroot/plugroot/sql/Comparison")) :: ws) ({ frames := 0, cells := 0, slots := 0, locals := 0 } : Room)) (fun a_ U => a_ = #[(.int q), (.int c0), (.int c1)] ∧ Z.Warmed39 U.vm ∧ U.heap = h0) (fun _ _ _ _ _ => True) (fun _ U o U' => ∃ v L, o = .returned v ∧ QP (.ref w1) h0 n0 v U'.heap L ∧ FrameEnd U o U' L ({ frames := 0, cells := 0, slots := 0, locals := 0 } : Room).cells ({ frames := 0, cells := 0, slots := 0, locals := 0 } : Room).slots) := by
  refine MetFree.of_bodySF (plainFor_of_name pn_0) hisR ?_
  intro p e s m args below meth c s₁ Bd hml0 hP hK
  obtain ⟨rfl, hZ, hh⟩ := hP
  have hx := Bd.exec
  have hby := Bd.bytes
  have hml : c.maxLocals = 3 := hml0
  have hown : s.vm.findClass "com/example/plugroot/plugroot/sql/ComparisonOfPinLaw" = some m.cls := findClass_of_methodNamed Bd.named
  have hnm := (name_of_methodNamed Bd.named Bd.method).1
  have X0 : Stand p l e ({ frames := 0, cells := 0, slots := 0, locals := 0 } : Room) s m #[(.int q), (.int c0), (.int c1)] below meth c s₁ [] 0 0 := Stand.of_body Bd
  have e0 : s₁.heap = h0 := by rw [← hh, Bd.state]; rfl
  have N0 := Fr.nil n0
  have pre0 : ∀ tg, Steps p.tables e below (s₁.setTop (mkF m 0 #[.val (.int q), .val (.int c0), .val (.int c1)] [])) tg → Steps p.tables e below (s₁.setTop (entryFrame m #[(.int q), (.int c0), (.int c1)] 3)) tg := fun tg kq => castTop (ef_III_3 m q c0 c1) kq
  obtain ⟨T101, X101, e101, st101⟩ := getS2 X0 hx hZ hown (host := "") (Or.inl (wi hw 80 rfl)) Via.refl e0 (S1.ext O0.2) (g := (mkF m 70 #[.val (.int q), .val (.int c0), .val (.int c1)] [])) rfl (hb hby d9_70)
  obtain ⟨fs, hr, hrun, hended, hW, hsame⟩ := X101.leave (v := some (.ref w1)) (fun h => by rw [Bd.returns] at h; cases h)
  refine ⟨_, _, pre0 _ ?_, hrun, hended, _, _, rfl, ?_, ⟨_, rfl⟩, hW, hsame.mono (by decide) (by decide)⟩
  · show Steps p.tables e below (s₁.setTop (mkF m 0 #[.val (.int q), .val (.int c0), .val (.int c1)] [])) _
    refine XS.iloadN X0.here hx rfl (hb hby d9_0) rfl ?_
    show Steps p.tables e below (s₁.setTop (mkF m 1 #[.val (.int q), .val (.int c0), .val (.int c1)] [(.int q)])) _
    refine XS.iconst X0.here hx rfl (hb hby d9_1) ?_
    show Steps p.tables e below (s₁.setTop (mkF m 2 #[.val (.int q), .val (.int c0), .val (.int c1)] [(.int (1 : Int32)), (.int q)])) _
    refine XS.icmpYes X0.here hx rfl (pc0 := 2) (pc' := 37) rfl (hb hby d9_2) rfl (feq (fun z => absurd (hq.symm.trans z) (by decide))).2 (by decide) (by decide) ?_
    show Steps p.tables e below (s₁.setTop (mkF m 37 #[.val (.int q), .val (.int c0), .val (.int c1)] [])) _
    refine XS.iloadN X0.here hx rfl (hb hby d9_37) rfl ?_
    show Steps p.tables e below (s₁.setTop (mkF m 38 #[.val (.int q), .val (.int c0), .val (.int c1)] [(.int q)])) _
    refine XS.iconst X0.here hx rfl (hb hby d9_38) ?_
    show Steps p.tables e below (s₁.setTop (mkF m 39 #[.val (.int q), .val (.int c0), .val (.int c1)] [(.int (2 : Int32)), (.int q)])) _
    refine XS.icmpNo X0.here hx rfl (hb hby d9_39) rfl (teq hq).2 ?_
    show Steps p.tables e below (s₁.setTop (mkF m 42 #[.val (.int q), .val (.int c0), .val (.int c1)] [])) _
    refine XS.iloadN X0.here hx rfl (hb hby d9_42) rfl ?_
    show Steps p.tables e below (s₁.setTop (mkF m 43 #[.val (.int q), .val (.int c0), .val (.int c1)] [(.int c0)])) _
    refine XS.bipush X0.here hx rfl (hb hby d9_43) ?_
    show Steps p.tables e below (s₁.setTop (mkF m 45 #[.val (.int q), .val (.int c0), .val (.int c1)] [(.int (60 : Int32)), (.int c0)])) _
    refine XS.icmpYes X0.here hx rfl (pc0 := 45) (pc' := 58) rfl (hb hby d9_45) rfl (feq (fun z => absurd (hc.symm.trans z) (by decide))).2 (by decide) (by decide) ?_
    show Steps p.tables e below (s₁.setTop (mkF m 58 #[.val (.int q), .val (.int c0), .val (.int c1)] [])) _
    refine XS.iloadN X0.here hx rfl (hb hby d9_58) rfl ?_
    show Steps p.tables e below (s₁.setTop (mkF m 59 #[.val (.int q), .val (.int c0), .val (.int c1)] [(.int c0)])) _
    refine XS.bipush X0.here hx rfl (hb hby d9_59) ?_
    show Steps p.tables e below (s₁.setTop (mkF m 61 #[.val (.int q), .val (.int c0), .val (.int c1)] [(.int (33 : Int32)), (.int c0)])) _
    refine XS.icmpNo X0.here hx rfl (hb hby d9_61) rfl (teq hc).2 ?_
    show Steps p.tables e below (s₁.setTop (mkF m 64 #[.val (.int q), .val (.int c0), .val (.int c1)] [])) _
    refine XS.iloadN X0.here hx rfl (hb hby d9_64) rfl ?_
    show Steps p.tables e below (s₁.setTop (mkF m 65 #[.val (.int q), .val (.int c0), .val (.int c1)] [(.int c1)])) _
    refine XS.bipush X0.here hx rfl (hb hby d9_65) ?_
    show Steps p.tables e below (s₁.setTop (mkF m 67 #[.val (.int q), .val (.int c0), .val (.int c1)] [(.int (61 : Int32)), (.int c1)])) _
    refine XS.icmpNo X0.here hx rfl (hb hby d9_67) rfl (teq hd).2 ?_
    show Steps p.tables e below (s₁.setTop (mkF m 70 #[.val (.int q), .val (.int c0), .val (.int c1)] [])) _
    refine st101 _ ?_
    show Steps p.tables e below (T101.setTop (mkF m 73 #[.val (.int q), .val (.int c0), .val (.int c1)] [(.ref w1)])) _
    jvm_step X101.here [X101.here.top, hx, (hb hby d9_73), X101.method', Bd.returns, Value.isRef, FieldType.isReference]
    first | (intro acts; rw [hr _ acts rfl rfl rfl]) | rw [hr _ _ rfl rfl rfl]
    exact Steps.refl _
  · show QP (.ref w1) h0 n0 _ T101.heap _
    rw [e101]
    exact ⟨rfl, N0, rfl⟩
set_option maxRecDepth 65536 in
set_option maxHeartbeats 40000000 in
theorem rm9_2e (l : Launch) (Z : State) (a0 : Array Value) (hw : ∀ d ∈ tables_1, d.before a0 Z = true) (ws : List Jvm.Cond) (w0 w1 w2 w3 w4 w5 : Addr) (q c0 c1 : Int32) (h0 : Heap) (n0 : Nat) (O0 : Old Z n0 h0) (S0 : Sta Z Z.heap "com/example/plugroot/plugroot/sql/Comparison" "EQUAL" "Lcom/example/plugroot/plugroot/sql/Comparison;" (.ref w0)) (S1 : Sta Z Z.heap "com/example/plugroot/plugroot/sql/Comparison" "NOT_EQUAL" "Lcom/example/plugroot/plugroot/sql/Comparison;" (.ref w1)) (S2 : Sta Z Z.heap "com/example/plugroot/plugroot/sql/Comparison" "LESS" "Lcom/example/plugroot/plugroot/sql/Comparison;" (.ref w2)) (S3 : Sta Z Z.heap "com/example/plugroot/plugroot/sql/Comparison" "GREATER" "Lcom/example/plugroot/plugroot/sql/Comparison;" (.ref w3)) (S4 : Sta Z Z.heap "com/example/plugroot/plugroot/sql/Comparison" "LESS_OR_EQUAL" "Lcom/example/plugroot/plugroot/sql/Comparison;" (.ref w4)) (S5 : Sta Z Z.heap "com/example/plugroot/plugroot/sql/Comparison" "GREATER_OR_EQUAL" "Lcom/example/plugroot/plugroot/sql/Comparison;" (.ref w5)) (hq : q = 2) (hc : c0 = 33) (v : ¬ (c1 = 61)) :
    MetFree l (⟨"com/example/plugroot/plugroot/sql/ComparisonOfPinLaw", "expected", "(ICC)Lcom/example/plugroot/plugroot/sql/Comparison;"⟩ : MethodName) (head1 (Jvm.Cond.code (⟨"com/example/plugroot/plugroot/sql/ComparisonOfPinLaw", "expected", "(ICC)Lcom/example/plugroot/plugroot/sql/Comparison;"⟩ : MethodName) method_3_code 3 (some (.object "com/example/plugroot/plugroot/sql/Comparison")) :: ws) ({ frames := 0, cells := 0, slots := 0, locals := 0 } : Room)) (fun a_ U => a_ = #[(.int q), (.int c0), (.int c1)] ∧ Z.Warmed39 U.vm ∧ U.heap = h0) (fun _ _ _ _ _ => True) (fun _ U o U' => ∃ v L, o = .returned v ∧ QP .null h0 n0 v U'.heap L ∧ FrameEnd U o U' L ({ frames := 0, cells := 0, slots := 0, locals := 0 } : Room).cells ({ frames := 0, cells := 0, slots := 0, locals := 0 } : Room).slots) := by
  refine MetFree.of_bodySF (plainFor_of_name pn_0) hisR ?_
  intro p e s m args below meth c s₁ Bd hml0 hP hK
  obtain ⟨rfl, hZ, hh⟩ := hP
  have hx := Bd.exec
  have hby := Bd.bytes
  have hml : c.maxLocals = 3 := hml0
  have hown : s.vm.findClass "com/example/plugroot/plugroot/sql/ComparisonOfPinLaw" = some m.cls := findClass_of_methodNamed Bd.named
  have hnm := (name_of_methodNamed Bd.named Bd.method).1
  have X0 : Stand p l e ({ frames := 0, cells := 0, slots := 0, locals := 0 } : Room) s m #[(.int q), (.int c0), (.int c1)] below meth c s₁ [] 0 0 := Stand.of_body Bd
  have e0 : s₁.heap = h0 := by rw [← hh, Bd.state]; rfl
  have N0 := Fr.nil n0
  have pre0 : ∀ tg, Steps p.tables e below (s₁.setTop (mkF m 0 #[.val (.int q), .val (.int c0), .val (.int c1)] [])) tg → Steps p.tables e below (s₁.setTop (entryFrame m #[(.int q), (.int c0), (.int c1)] 3)) tg := fun tg kq => castTop (ef_III_3 m q c0 c1) kq
  obtain ⟨fs, hr, hrun, hended, hW, hsame⟩ := X0.leave (v := some .null) (fun h => by rw [Bd.returns] at h; cases h)
  refine ⟨_, _, pre0 _ ?_, hrun, hended, _, _, rfl, ?_, ⟨_, rfl⟩, hW, hsame.mono (by decide) (by decide)⟩
  · show Steps p.tables e below (s₁.setTop (mkF m 0 #[.val (.int q), .val (.int c0), .val (.int c1)] [])) _
    refine XS.iloadN X0.here hx rfl (hb hby d9_0) rfl ?_
    show Steps p.tables e below (s₁.setTop (mkF m 1 #[.val (.int q), .val (.int c0), .val (.int c1)] [(.int q)])) _
    refine XS.iconst X0.here hx rfl (hb hby d9_1) ?_
    show Steps p.tables e below (s₁.setTop (mkF m 2 #[.val (.int q), .val (.int c0), .val (.int c1)] [(.int (1 : Int32)), (.int q)])) _
    refine XS.icmpYes X0.here hx rfl (pc0 := 2) (pc' := 37) rfl (hb hby d9_2) rfl (feq (fun z => absurd (hq.symm.trans z) (by decide))).2 (by decide) (by decide) ?_
    show Steps p.tables e below (s₁.setTop (mkF m 37 #[.val (.int q), .val (.int c0), .val (.int c1)] [])) _
    refine XS.iloadN X0.here hx rfl (hb hby d9_37) rfl ?_
    show Steps p.tables e below (s₁.setTop (mkF m 38 #[.val (.int q), .val (.int c0), .val (.int c1)] [(.int q)])) _
    refine XS.iconst X0.here hx rfl (hb hby d9_38) ?_
    show Steps p.tables e below (s₁.setTop (mkF m 39 #[.val (.int q), .val (.int c0), .val (.int c1)] [(.int (2 : Int32)), (.int q)])) _
    refine XS.icmpNo X0.here hx rfl (hb hby d9_39) rfl (teq hq).2 ?_
    show Steps p.tables e below (s₁.setTop (mkF m 42 #[.val (.int q), .val (.int c0), .val (.int c1)] [])) _
    refine XS.iloadN X0.here hx rfl (hb hby d9_42) rfl ?_
    show Steps p.tables e below (s₁.setTop (mkF m 43 #[.val (.int q), .val (.int c0), .val (.int c1)] [(.int c0)])) _
    refine XS.bipush X0.here hx rfl (hb hby d9_43) ?_
    show Steps p.tables e below (s₁.setTop (mkF m 45 #[.val (.int q), .val (.int c0), .val (.int c1)] [(.int (60 : Int32)), (.int c0)])) _
    refine XS.icmpYes X0.here hx rfl (pc0 := 45) (pc' := 58) rfl (hb hby d9_45) rfl (feq (fun z => absurd (hc.symm.trans z) (by decide))).2 (by decide) (by decide) ?_
    show Steps p.tables e below (s₁.setTop (mkF m 58 #[.val (.int q), .val (.int c0), .val (.int c1)] [])) _
    refine XS.iloadN X0.here hx rfl (hb hby d9_58) rfl ?_
    show Steps p.tables e below (s₁.setTop (mkF m 59 #[.val (.int q), .val (.int c0), .val (.int c1)] [(.int c0)])) _
    refine XS.bipush X0.here hx rfl (hb hby d9_59) ?_
    show Steps p.tables e below (s₁.setTop (mkF m 61 #[.val (.int q), .val (.int c0), .val (.int c1)] [(.int (33 : Int32)), (.int c0)])) _
    refine XS.icmpNo X0.here hx rfl (hb hby d9_61) rfl (teq hc).2 ?_
    show Steps p.tables e below (s₁.setTop (mkF m 64 #[.val (.int q), .val (.int c0), .val (.int c1)] [])) _
    refine XS.iloadN X0.here hx rfl (hb hby d9_64) rfl ?_
    show Steps p.tables e below (s₁.setTop (mkF m 65 #[.val (.int q), .val (.int c0), .val (.int c1)] [(.int c1)])) _
    refine XS.bipush X0.here hx rfl (hb hby d9_65) ?_
    show Steps p.tables e below (s₁.setTop (mkF m 67 #[.val (.int q), .val (.int c0), .val (.int c1)] [(.int (61 : Int32)), (.int c1)])) _
    refine XS.icmpYes X0.here hx rfl (pc0 := 67) (pc' := 74) rfl (hb hby d9_67) rfl (feq v).2 (by decide) (by decide) ?_
    show Steps p.tables e below (s₁.setTop (mkF m 74 #[.val (.int q), .val (.int c0), .val (.int c1)] [])) _
    refine XS.iloadN X0.here hx rfl (hb hby d9_74) rfl ?_
    show Steps p.tables e below (s₁.setTop (mkF m 75 #[.val (.int q), .val (.int c0), .val (.int c1)] [(.int c0)])) _
    refine XS.bipush X0.here hx rfl (hb hby d9_75) ?_
    show Steps p.tables e below (s₁.setTop (mkF m 77 #[.val (.int q), .val (.int c0), .val (.int c1)] [(.int (60 : Int32)), (.int c0)])) _
    refine XS.icmpYes X0.here hx rfl (pc0 := 77) (pc' := 90) rfl (hb hby d9_77) rfl (feq (fun z => absurd (hc.symm.trans z) (by decide))).2 (by decide) (by decide) ?_
    show Steps p.tables e below (s₁.setTop (mkF m 90 #[.val (.int q), .val (.int c0), .val (.int c1)] [])) _
    refine XS.iloadN X0.here hx rfl (hb hby d9_90) rfl ?_
    show Steps p.tables e below (s₁.setTop (mkF m 91 #[.val (.int q), .val (.int c0), .val (.int c1)] [(.int c0)])) _
    refine XS.bipush X0.here hx rfl (hb hby d9_91) ?_
    show Steps p.tables e below (s₁.setTop (mkF m 93 #[.val (.int q), .val (.int c0), .val (.int c1)] [(.int (62 : Int32)), (.int c0)])) _
    refine XS.icmpYes X0.here hx rfl (pc0 := 93) (pc' := 106) rfl (hb hby d9_93) rfl (feq (fun z => absurd (hc.symm.trans z) (by decide))).2 (by decide) (by decide) ?_
    show Steps p.tables e below (s₁.setTop (mkF m 106 #[.val (.int q), .val (.int c0), .val (.int c1)] [])) _
    refine XS.aconstNull X0.here hx rfl (hb hby d9_106) ?_
    show Steps p.tables e below (s₁.setTop (mkF m 107 #[.val (.int q), .val (.int c0), .val (.int c1)] [.null])) _
    jvm_step X0.here [X0.here.top, hx, (hb hby d9_107), X0.method', Bd.returns, Value.isRef, FieldType.isReference]
    first | (intro acts; rw [hr _ acts rfl rfl rfl]) | rw [hr _ _ rfl rfl rfl]
    exact Steps.refl _
  · show QP .null h0 n0 _ s₁.heap _
    rw [e0]
    exact ⟨rfl, N0, rfl⟩
theorem d9_96 : decode method_3_code 96 = .ok (.iload_n 2, 1) := by decide +kernel
theorem d9_97 : decode method_3_code 97 = .ok (.bipush 61, 2) := by decide +kernel
theorem d9_99 : decode method_3_code 99 = .ok (.if_icmp .ne 7, 3) := by decide +kernel
theorem d9_102 : decode method_3_code 102 = .ok (.getstatic 25, 3) := by decide +kernel
theorem d9_105 : decode method_3_code 105 = .ok (.areturn, 1) := by decide +kernel
set_option maxRecDepth 65536 in
set_option maxHeartbeats 40000000 in
theorem rm9_2f (l : Launch) (Z : State) (a0 : Array Value) (hw : ∀ d ∈ tables_1, d.before a0 Z = true) (ws : List Jvm.Cond) (w0 w1 w2 w3 w4 w5 : Addr) (q c0 c1 : Int32) (h0 : Heap) (n0 : Nat) (O0 : Old Z n0 h0) (S0 : Sta Z Z.heap "com/example/plugroot/plugroot/sql/Comparison" "EQUAL" "Lcom/example/plugroot/plugroot/sql/Comparison;" (.ref w0)) (S1 : Sta Z Z.heap "com/example/plugroot/plugroot/sql/Comparison" "NOT_EQUAL" "Lcom/example/plugroot/plugroot/sql/Comparison;" (.ref w1)) (S2 : Sta Z Z.heap "com/example/plugroot/plugroot/sql/Comparison" "LESS" "Lcom/example/plugroot/plugroot/sql/Comparison;" (.ref w2)) (S3 : Sta Z Z.heap "com/example/plugroot/plugroot/sql/Comparison" "GREATER" "Lcom/example/plugroot/plugroot/sql/Comparison;" (.ref w3)) (S4 : Sta Z Z.heap "com/example/plugroot/plugroot/sql/Comparison" "LESS_OR_EQUAL" "Lcom/example/plugroot/plugroot/sql/Comparison;" (.ref w4)) (S5 : Sta Z Z.heap "com/example/plugroot/plugroot/sql/Comparison" "GREATER_OR_EQUAL" "Lcom/example/plugroot/plugroot/sql/Comparison;" (.ref w5)) (hq : q = 2) (hc : c0 = 62) (hd : c1 = 61) :
    MetFree l (⟨"com/example/plugroot/plugroot/sql/ComparisonOfPinLaw", "expected", "(ICC)Lcom/example/plugroot/plugroot/sql/Comparison;"⟩ : MethodName) (head1 (Jvm.Cond.code (⟨"com/example/plugroot/plugroot/sql/ComparisonOfPinLaw", "expected", "(ICC)Lcom/example/plugroot/plugroot/sql/Comparison;"⟩ : MethodName) method_3_code 3 (some (.object "com/example/plugroot/plugroot/sql/Comparison")) :: ws) ({ frames := 0, cells := 0, slots := 0, locals := 0 } : Room)) (fun a_ U => a_ = #[(.int q), (.int c0), (.int c1)] ∧ Z.Warmed39 U.vm ∧ U.heap = h0) (fun _ _ _ _ _ => True) (fun _ U o U' => ∃ v L, o = .returned v ∧ QP (.ref w5) h0 n0 v U'.heap L ∧ FrameEnd U o U' L ({ frames := 0, cells := 0, slots := 0, locals := 0 } : Room).cells ({ frames := 0, cells := 0, slots := 0, locals := 0 } : Room).slots) := by
  refine MetFree.of_bodySF (plainFor_of_name pn_0) hisR ?_
  intro p e s m args below meth c s₁ Bd hml0 hP hK
  obtain ⟨rfl, hZ, hh⟩ := hP
  have hx := Bd.exec
  have hby := Bd.bytes
  have hml : c.maxLocals = 3 := hml0
  have hown : s.vm.findClass "com/example/plugroot/plugroot/sql/ComparisonOfPinLaw" = some m.cls := findClass_of_methodNamed Bd.named
  have hnm := (name_of_methodNamed Bd.named Bd.method).1
  have X0 : Stand p l e ({ frames := 0, cells := 0, slots := 0, locals := 0 } : Room) s m #[(.int q), (.int c0), (.int c1)] below meth c s₁ [] 0 0 := Stand.of_body Bd
  have e0 : s₁.heap = h0 := by rw [← hh, Bd.state]; rfl
  have N0 := Fr.nil n0
  have pre0 : ∀ tg, Steps p.tables e below (s₁.setTop (mkF m 0 #[.val (.int q), .val (.int c0), .val (.int c1)] [])) tg → Steps p.tables e below (s₁.setTop (entryFrame m #[(.int q), (.int c0), (.int c1)] 3)) tg := fun tg kq => castTop (ef_III_3 m q c0 c1) kq
  obtain ⟨T101, X101, e101, st101⟩ := getS2 X0 hx hZ hown (host := "") (Or.inl (wi hw 84 rfl)) Via.refl e0 (S5.ext O0.2) (g := (mkF m 102 #[.val (.int q), .val (.int c0), .val (.int c1)] [])) rfl (hb hby d9_102)
  obtain ⟨fs, hr, hrun, hended, hW, hsame⟩ := X101.leave (v := some (.ref w5)) (fun h => by rw [Bd.returns] at h; cases h)
  refine ⟨_, _, pre0 _ ?_, hrun, hended, _, _, rfl, ?_, ⟨_, rfl⟩, hW, hsame.mono (by decide) (by decide)⟩
  · show Steps p.tables e below (s₁.setTop (mkF m 0 #[.val (.int q), .val (.int c0), .val (.int c1)] [])) _
    refine XS.iloadN X0.here hx rfl (hb hby d9_0) rfl ?_
    show Steps p.tables e below (s₁.setTop (mkF m 1 #[.val (.int q), .val (.int c0), .val (.int c1)] [(.int q)])) _
    refine XS.iconst X0.here hx rfl (hb hby d9_1) ?_
    show Steps p.tables e below (s₁.setTop (mkF m 2 #[.val (.int q), .val (.int c0), .val (.int c1)] [(.int (1 : Int32)), (.int q)])) _
    refine XS.icmpYes X0.here hx rfl (pc0 := 2) (pc' := 37) rfl (hb hby d9_2) rfl (feq (fun z => absurd (hq.symm.trans z) (by decide))).2 (by decide) (by decide) ?_
    show Steps p.tables e below (s₁.setTop (mkF m 37 #[.val (.int q), .val (.int c0), .val (.int c1)] [])) _
    refine XS.iloadN X0.here hx rfl (hb hby d9_37) rfl ?_
    show Steps p.tables e below (s₁.setTop (mkF m 38 #[.val (.int q), .val (.int c0), .val (.int c1)] [(.int q)])) _
    refine XS.iconst X0.here hx rfl (hb hby d9_38) ?_
    show Steps p.tables e below (s₁.setTop (mkF m 39 #[.val (.int q), .val (.int c0), .val (.int c1)] [(.int (2 : Int32)), (.int q)])) _
    refine XS.icmpNo X0.here hx rfl (hb hby d9_39) rfl (teq hq).2 ?_
    show Steps p.tables e below (s₁.setTop (mkF m 42 #[.val (.int q), .val (.int c0), .val (.int c1)] [])) _
    refine XS.iloadN X0.here hx rfl (hb hby d9_42) rfl ?_
    show Steps p.tables e below (s₁.setTop (mkF m 43 #[.val (.int q), .val (.int c0), .val (.int c1)] [(.int c0)])) _
    refine XS.bipush X0.here hx rfl (hb hby d9_43) ?_
    show Steps p.tables e below (s₁.setTop (mkF m 45 #[.val (.int q), .val (.int c0), .val (.int c1)] [(.int (60 : Int32)), (.int c0)])) _
    refine XS.icmpYes X0.here hx rfl (pc0 := 45) (pc' := 58) rfl (hb hby d9_45) rfl (feq (fun z => absurd (hc.symm.trans z) (by decide))).2 (by decide) (by decide) ?_
    show Steps p.tables e below (s₁.setTop (mkF m 58 #[.val (.int q), .val (.int c0), .val (.int c1)] [])) _
    refine XS.iloadN X0.here hx rfl (hb hby d9_58) rfl ?_
    show Steps p.tables e below (s₁.setTop (mkF m 59 #[.val (.int q), .val (.int c0), .val (.int c1)] [(.int c0)])) _
    refine XS.bipush X0.here hx rfl (hb hby d9_59) ?_
    show Steps p.tables e below (s₁.setTop (mkF m 61 #[.val (.int q), .val (.int c0), .val (.int c1)] [(.int (33 : Int32)), (.int c0)])) _
    refine XS.icmpYes X0.here hx rfl (pc0 := 61) (pc' := 74) rfl (hb hby d9_61) rfl (feq (fun z => absurd (hc.symm.trans z) (by decide))).2 (by decide) (by decide) ?_
    show Steps p.tables e below (s₁.setTop (mkF m 74 #[.val (.int q), .val (.int c0), .val (.int c1)] [])) _
    refine XS.iloadN X0.here hx rfl (hb hby d9_74) rfl ?_
    show Steps p.tables e below (s₁.setTop (mkF m 75 #[.val (.int q), .val (.int c0), .val (.int c1)] [(.int c0)])) _
    refine XS.bipush X0.here hx rfl (hb hby d9_75) ?_
    show Steps p.tables e below (s₁.setTop (mkF m 77 #[.val (.int q), .val (.int c0), .val (.int c1)] [(.int (60 : Int32)), (.int c0)])) _
    refine XS.icmpYes X0.here hx rfl (pc0 := 77) (pc' := 90) rfl (hb hby d9_77) rfl (feq (fun z => absurd (hc.symm.trans z) (by decide))).2 (by decide) (by decide) ?_
    show Steps p.tables e below (s₁.setTop (mkF m 90 #[.val (.int q), .val (.int c0), .val (.int c1)] [])) _
    refine XS.iloadN X0.here hx rfl (hb hby d9_90) rfl ?_
    show Steps p.tables e below (s₁.setTop (mkF m 91 #[.val (.int q), .val (.int c0), .val (.int c1)] [(.int c0)])) _
    refine XS.bipush X0.here hx rfl (hb hby d9_91) ?_
    show Steps p.tables e below (s₁.setTop (mkF m 93 #[.val (.int q), .val (.int c0), .val (.int c1)] [(.int (62 : Int32)), (.int c0)])) _
    refine XS.icmpNo X0.here hx rfl (hb hby d9_93) rfl (teq hc).2 ?_
    show Steps p.tables e below (s₁.setTop (mkF m 96 #[.val (.int q), .val (.int c0), .val (.int c1)] [])) _
    refine XS.iloadN X0.here hx rfl (hb hby d9_96) rfl ?_
    show Steps p.tables e below (s₁.setTop (mkF m 97 #[.val (.int q), .val (.int c0), .val (.int c1)] [(.int c1)])) _
    refine XS.bipush X0.here hx rfl (hb hby d9_97) ?_
    show Steps p.tables e below (s₁.setTop (mkF m 99 #[.val (.int q), .val (.int c0), .val (.int c1)] [(.int (61 : Int32)), (.int c1)])) _
    refine XS.icmpNo X0.here hx rfl (hb hby d9_99) rfl (teq hd).2 ?_
    show Steps p.tables e below (s₁.setTop (mkF m 102 #[.val (.int q), .val (.int c0), .val (.int c1)] [])) _
    refine st101 _ ?_
    show Steps p.tables e below (T101.setTop (mkF m 105 #[.val (.int q), .val (.int c0), .val (.int c1)] [(.ref w5)])) _
    jvm_step X101.here [X101.here.top, hx, (hb hby d9_105), X101.method', Bd.returns, Value.isRef, FieldType.isReference]
    first | (intro acts; rw [hr _ acts rfl rfl rfl]) | rw [hr _ _ rfl rfl rfl]
    exact Steps.refl _
  · show QP (.ref w5) h0 n0 _ T101.heap _
    rw [e101]
    exact ⟨rfl, N0, rfl⟩
set_option maxRecDepth 65536 in
set_option maxHeartbeats 40000000 in
theorem rm9_2g (l : Launch) (Z : State) (a0 : Array Value) (hw : ∀ d ∈ tables_1, d.before a0 Z = true) (ws : List Jvm.Cond) (w0 w1 w2 w3 w4 w5 : Addr) (q c0 c1 : Int32) (h0 : Heap) (n0 : Nat) (O0 : Old Z n0 h0) (S0 : Sta Z Z.heap "com/example/plugroot/plugroot/sql/Comparison" "EQUAL" "Lcom/example/plugroot/plugroot/sql/Comparison;" (.ref w0)) (S1 : Sta Z Z.heap "com/example/plugroot/plugroot/sql/Comparison" "NOT_EQUAL" "Lcom/example/plugroot/plugroot/sql/Comparison;" (.ref w1)) (S2 : Sta Z Z.heap "com/example/plugroot/plugroot/sql/Comparison" "LESS" "Lcom/example/plugroot/plugroot/sql/Comparison;" (.ref w2)) (S3 : Sta Z Z.heap "com/example/plugroot/plugroot/sql/Comparison" "GREATER" "Lcom/example/plugroot/plugroot/sql/Comparison;" (.ref w3)) (S4 : Sta Z Z.heap "com/example/plugroot/plugroot/sql/Comparison" "LESS_OR_EQUAL" "Lcom/example/plugroot/plugroot/sql/Comparison;" (.ref w4)) (S5 : Sta Z Z.heap "com/example/plugroot/plugroot/sql/Comparison" "GREATER_OR_EQUAL" "Lcom/example/plugroot/plugroot/sql/Comparison;" (.ref w5)) (hq : q = 2) (hc : c0 = 62) (v : ¬ (c1 = 61)) :
    MetFree l (⟨"com/example/plugroot/plugroot/sql/ComparisonOfPinLaw", "expected", "(ICC)Lcom/example/plugroot/plugroot/sql/Comparison;"⟩ : MethodName) (head1 (Jvm.Cond.code (⟨"com/example/plugroot/plugroot/sql/ComparisonOfPinLaw", "expected", "(ICC)Lcom/example/plugroot/plugroot/sql/Comparison;"⟩ : MethodName) method_3_code 3 (some (.object "com/example/plugroot/plugroot/sql/Comparison")) :: ws) ({ frames := 0, cells := 0, slots := 0, locals := 0 } : Room)) (fun a_ U => a_ = #[(.int q), (.int c0), (.int c1)] ∧ Z.Warmed39 U.vm ∧ U.heap = h0) (fun _ _ _ _ _ => True) (fun _ U o U' => ∃ v L, o = .returned v ∧ QP .null h0 n0 v U'.heap L ∧ FrameEnd U o U' L ({ frames := 0, cells := 0, slots := 0, locals := 0 } : Room).cells ({ frames := 0, cells := 0, slots := 0, locals := 0 } : Room).slots) := by
  refine MetFree.of_bodySF (plainFor_of_name pn_0) hisR ?_
  intro p e s m args below meth c s₁ Bd hml0 hP hK
  obtain ⟨rfl, hZ, hh⟩ := hP
  have hx := Bd.exec
  have hby := Bd.bytes
  have hml : c.maxLocals = 3 := hml0
  have hown : s.vm.findClass "com/example/plugroot/plugroot/sql/ComparisonOfPinLaw" = some m.cls := findClass_of_methodNamed Bd.named
  have hnm := (name_of_methodNamed Bd.named Bd.method).1
  have X0 : Stand p l e ({ frames := 0, cells := 0, slots := 0, locals := 0 } : Room) s m #[(.int q), (.int c0), (.int c1)] below meth c s₁ [] 0 0 := Stand.of_body Bd
  have e0 : s₁.heap = h0 := by rw [← hh, Bd.state]; rfl
  have N0 := Fr.nil n0
  have pre0 : ∀ tg, Steps p.tables e below (s₁.setTop (mkF m 0 #[.val (.int q), .val (.int c0), .val (.int c1)] [])) tg → Steps p.tables e below (s₁.setTop (entryFrame m #[(.int q), (.int c0), (.int c1)] 3)) tg := fun tg kq => castTop (ef_III_3 m q c0 c1) kq
  obtain ⟨fs, hr, hrun, hended, hW, hsame⟩ := X0.leave (v := some .null) (fun h => by rw [Bd.returns] at h; cases h)
  refine ⟨_, _, pre0 _ ?_, hrun, hended, _, _, rfl, ?_, ⟨_, rfl⟩, hW, hsame.mono (by decide) (by decide)⟩
  · show Steps p.tables e below (s₁.setTop (mkF m 0 #[.val (.int q), .val (.int c0), .val (.int c1)] [])) _
    refine XS.iloadN X0.here hx rfl (hb hby d9_0) rfl ?_
    show Steps p.tables e below (s₁.setTop (mkF m 1 #[.val (.int q), .val (.int c0), .val (.int c1)] [(.int q)])) _
    refine XS.iconst X0.here hx rfl (hb hby d9_1) ?_
    show Steps p.tables e below (s₁.setTop (mkF m 2 #[.val (.int q), .val (.int c0), .val (.int c1)] [(.int (1 : Int32)), (.int q)])) _
    refine XS.icmpYes X0.here hx rfl (pc0 := 2) (pc' := 37) rfl (hb hby d9_2) rfl (feq (fun z => absurd (hq.symm.trans z) (by decide))).2 (by decide) (by decide) ?_
    show Steps p.tables e below (s₁.setTop (mkF m 37 #[.val (.int q), .val (.int c0), .val (.int c1)] [])) _
    refine XS.iloadN X0.here hx rfl (hb hby d9_37) rfl ?_
    show Steps p.tables e below (s₁.setTop (mkF m 38 #[.val (.int q), .val (.int c0), .val (.int c1)] [(.int q)])) _
    refine XS.iconst X0.here hx rfl (hb hby d9_38) ?_
    show Steps p.tables e below (s₁.setTop (mkF m 39 #[.val (.int q), .val (.int c0), .val (.int c1)] [(.int (2 : Int32)), (.int q)])) _
    refine XS.icmpNo X0.here hx rfl (hb hby d9_39) rfl (teq hq).2 ?_
    show Steps p.tables e below (s₁.setTop (mkF m 42 #[.val (.int q), .val (.int c0), .val (.int c1)] [])) _
    refine XS.iloadN X0.here hx rfl (hb hby d9_42) rfl ?_
    show Steps p.tables e below (s₁.setTop (mkF m 43 #[.val (.int q), .val (.int c0), .val (.int c1)] [(.int c0)])) _
    refine XS.bipush X0.here hx rfl (hb hby d9_43) ?_
    show Steps p.tables e below (s₁.setTop (mkF m 45 #[.val (.int q), .val (.int c0), .val (.int c1)] [(.int (60 : Int32)), (.int c0)])) _
    refine XS.icmpYes X0.here hx rfl (pc0 := 45) (pc' := 58) rfl (hb hby d9_45) rfl (feq (fun z => absurd (hc.symm.trans z) (by decide))).2 (by decide) (by decide) ?_
    show Steps p.tables e below (s₁.setTop (mkF m 58 #[.val (.int q), .val (.int c0), .val (.int c1)] [])) _
    refine XS.iloadN X0.here hx rfl (hb hby d9_58) rfl ?_
    show Steps p.tables e below (s₁.setTop (mkF m 59 #[.val (.int q), .val (.int c0), .val (.int c1)] [(.int c0)])) _
    refine XS.bipush X0.here hx rfl (hb hby d9_59) ?_
    show Steps p.tables e below (s₁.setTop (mkF m 61 #[.val (.int q), .val (.int c0), .val (.int c1)] [(.int (33 : Int32)), (.int c0)])) _
    refine XS.icmpYes X0.here hx rfl (pc0 := 61) (pc' := 74) rfl (hb hby d9_61) rfl (feq (fun z => absurd (hc.symm.trans z) (by decide))).2 (by decide) (by decide) ?_
    show Steps p.tables e below (s₁.setTop (mkF m 74 #[.val (.int q), .val (.int c0), .val (.int c1)] [])) _
    refine XS.iloadN X0.here hx rfl (hb hby d9_74) rfl ?_
    show Steps p.tables e below (s₁.setTop (mkF m 75 #[.val (.int q), .val (.int c0), .val (.int c1)] [(.int c0)])) _
    refine XS.bipush X0.here hx rfl (hb hby d9_75) ?_
    show Steps p.tables e below (s₁.setTop (mkF m 77 #[.val (.int q), .val (.int c0), .val (.int c1)] [(.int (60 : Int32)), (.int c0)])) _
    refine XS.icmpYes X0.here hx rfl (pc0 := 77) (pc' := 90) rfl (hb hby d9_77) rfl (feq (fun z => absurd (hc.symm.trans z) (by decide))).2 (by decide) (by decide) ?_
    show Steps p.tables e below (s₁.setTop (mkF m 90 #[.val (.int q), .val (.int c0), .val (.int c1)] [])) _
    refine XS.iloadN X0.here hx rfl (hb hby d9_90) rfl ?_
    show Steps p.tables e below (s₁.setTop (mkF m 91 #[.val (.int q), .val (.int c0), .val (.int c1)] [(.int c0)])) _
    refine XS.bipush X0.here hx rfl (hb hby d9_91) ?_
    show Steps p.tables e below (s₁.setTop (mkF m 93 #[.val (.int q), .val (.int c0), .val (.int c1)] [(.int (62 : Int32)), (.int c0)])) _
    refine XS.icmpNo X0.here hx rfl (hb hby d9_93) rfl (teq hc).2 ?_
    show Steps p.tables e below (s₁.setTop (mkF m 96 #[.val (.int q), .val (.int c0), .val (.int c1)] [])) _
    refine XS.iloadN X0.here hx rfl (hb hby d9_96) rfl ?_
    show Steps p.tables e below (s₁.setTop (mkF m 97 #[.val (.int q), .val (.int c0), .val (.int c1)] [(.int c1)])) _
    refine XS.bipush X0.here hx rfl (hb hby d9_97) ?_
    show Steps p.tables e below (s₁.setTop (mkF m 99 #[.val (.int q), .val (.int c0), .val (.int c1)] [(.int (61 : Int32)), (.int c1)])) _
    refine XS.icmpYes X0.here hx rfl (pc0 := 99) (pc' := 106) rfl (hb hby d9_99) rfl (feq v).2 (by decide) (by decide) ?_
    show Steps p.tables e below (s₁.setTop (mkF m 106 #[.val (.int q), .val (.int c0), .val (.int c1)] [])) _
    refine XS.aconstNull X0.here hx rfl (hb hby d9_106) ?_
    show Steps p.tables e below (s₁.setTop (mkF m 107 #[.val (.int q), .val (.int c0), .val (.int c1)] [.null])) _
    jvm_step X0.here [X0.here.top, hx, (hb hby d9_107), X0.method', Bd.returns, Value.isRef, FieldType.isReference]
    first | (intro acts; rw [hr _ acts rfl rfl rfl]) | rw [hr _ _ rfl rfl rfl]
    exact Steps.refl _
  · show QP .null h0 n0 _ s₁.heap _
    rw [e0]
    exact ⟨rfl, N0, rfl⟩
set_option maxRecDepth 65536 in
set_option maxHeartbeats 40000000 in
theorem rm9_2h (l : Launch) (Z : State) (a0 : Array Value) (hw : ∀ d ∈ tables_1, d.before a0 Z = true) (ws : List Jvm.Cond) (w0 w1 w2 w3 w4 w5 : Addr) (q c0 c1 : Int32) (h0 : Heap) (n0 : Nat) (O0 : Old Z n0 h0) (S0 : Sta Z Z.heap "com/example/plugroot/plugroot/sql/Comparison" "EQUAL" "Lcom/example/plugroot/plugroot/sql/Comparison;" (.ref w0)) (S1 : Sta Z Z.heap "com/example/plugroot/plugroot/sql/Comparison" "NOT_EQUAL" "Lcom/example/plugroot/plugroot/sql/Comparison;" (.ref w1)) (S2 : Sta Z Z.heap "com/example/plugroot/plugroot/sql/Comparison" "LESS" "Lcom/example/plugroot/plugroot/sql/Comparison;" (.ref w2)) (S3 : Sta Z Z.heap "com/example/plugroot/plugroot/sql/Comparison" "GREATER" "Lcom/example/plugroot/plugroot/sql/Comparison;" (.ref w3)) (S4 : Sta Z Z.heap "com/example/plugroot/plugroot/sql/Comparison" "LESS_OR_EQUAL" "Lcom/example/plugroot/plugroot/sql/Comparison;" (.ref w4)) (S5 : Sta Z Z.heap "com/example/plugroot/plugroot/sql/Comparison" "GREATER_OR_EQUAL" "Lcom/example/plugroot/plugroot/sql/Comparison;" (.ref w5)) (hq : q = 2) (u : ¬ (c0 = 60)) (v : ¬ (c0 = 33)) (y : ¬ (c0 = 62)) :
    MetFree l (⟨"com/example/plugroot/plugroot/sql/ComparisonOfPinLaw", "expected", "(ICC)Lcom/example/plugroot/plugroot/sql/Comparison;"⟩ : MethodName) (head1 (Jvm.Cond.code (⟨"com/example/plugroot/plugroot/sql/ComparisonOfPinLaw", "expected", "(ICC)Lcom/example/plugroot/plugroot/sql/Comparison;"⟩ : MethodName) method_3_code 3 (some (.object "com/example/plugroot/plugroot/sql/Comparison")) :: ws) ({ frames := 0, cells := 0, slots := 0, locals := 0 } : Room)) (fun a_ U => a_ = #[(.int q), (.int c0), (.int c1)] ∧ Z.Warmed39 U.vm ∧ U.heap = h0) (fun _ _ _ _ _ => True) (fun _ U o U' => ∃ v L, o = .returned v ∧ QP .null h0 n0 v U'.heap L ∧ FrameEnd U o U' L ({ frames := 0, cells := 0, slots := 0, locals := 0 } : Room).cells ({ frames := 0, cells := 0, slots := 0, locals := 0 } : Room).slots) := by
  refine MetFree.of_bodySF (plainFor_of_name pn_0) hisR ?_
  intro p e s m args below meth c s₁ Bd hml0 hP hK
  obtain ⟨rfl, hZ, hh⟩ := hP
  have hx := Bd.exec
  have hby := Bd.bytes
  have hml : c.maxLocals = 3 := hml0
  have hown : s.vm.findClass "com/example/plugroot/plugroot/sql/ComparisonOfPinLaw" = some m.cls := findClass_of_methodNamed Bd.named
  have hnm := (name_of_methodNamed Bd.named Bd.method).1
  have X0 : Stand p l e ({ frames := 0, cells := 0, slots := 0, locals := 0 } : Room) s m #[(.int q), (.int c0), (.int c1)] below meth c s₁ [] 0 0 := Stand.of_body Bd
  have e0 : s₁.heap = h0 := by rw [← hh, Bd.state]; rfl
  have N0 := Fr.nil n0
  have pre0 : ∀ tg, Steps p.tables e below (s₁.setTop (mkF m 0 #[.val (.int q), .val (.int c0), .val (.int c1)] [])) tg → Steps p.tables e below (s₁.setTop (entryFrame m #[(.int q), (.int c0), (.int c1)] 3)) tg := fun tg kq => castTop (ef_III_3 m q c0 c1) kq
  obtain ⟨fs, hr, hrun, hended, hW, hsame⟩ := X0.leave (v := some .null) (fun h => by rw [Bd.returns] at h; cases h)
  refine ⟨_, _, pre0 _ ?_, hrun, hended, _, _, rfl, ?_, ⟨_, rfl⟩, hW, hsame.mono (by decide) (by decide)⟩
  · show Steps p.tables e below (s₁.setTop (mkF m 0 #[.val (.int q), .val (.int c0), .val (.int c1)] [])) _
    refine XS.iloadN X0.here hx rfl (hb hby d9_0) rfl ?_
    show Steps p.tables e below (s₁.setTop (mkF m 1 #[.val (.int q), .val (.int c0), .val (.int c1)] [(.int q)])) _
    refine XS.iconst X0.here hx rfl (hb hby d9_1) ?_
    show Steps p.tables e below (s₁.setTop (mkF m 2 #[.val (.int q), .val (.int c0), .val (.int c1)] [(.int (1 : Int32)), (.int q)])) _
    refine XS.icmpYes X0.here hx rfl (pc0 := 2) (pc' := 37) rfl (hb hby d9_2) rfl (feq (fun z => absurd (hq.symm.trans z) (by decide))).2 (by decide) (by decide) ?_
    show Steps p.tables e below (s₁.setTop (mkF m 37 #[.val (.int q), .val (.int c0), .val (.int c1)] [])) _
    refine XS.iloadN X0.here hx rfl (hb hby d9_37) rfl ?_
    show Steps p.tables e below (s₁.setTop (mkF m 38 #[.val (.int q), .val (.int c0), .val (.int c1)] [(.int q)])) _
    refine XS.iconst X0.here hx rfl (hb hby d9_38) ?_
    show Steps p.tables e below (s₁.setTop (mkF m 39 #[.val (.int q), .val (.int c0), .val (.int c1)] [(.int (2 : Int32)), (.int q)])) _
    refine XS.icmpNo X0.here hx rfl (hb hby d9_39) rfl (teq hq).2 ?_
    show Steps p.tables e below (s₁.setTop (mkF m 42 #[.val (.int q), .val (.int c0), .val (.int c1)] [])) _
    refine XS.iloadN X0.here hx rfl (hb hby d9_42) rfl ?_
    show Steps p.tables e below (s₁.setTop (mkF m 43 #[.val (.int q), .val (.int c0), .val (.int c1)] [(.int c0)])) _
    refine XS.bipush X0.here hx rfl (hb hby d9_43) ?_
    show Steps p.tables e below (s₁.setTop (mkF m 45 #[.val (.int q), .val (.int c0), .val (.int c1)] [(.int (60 : Int32)), (.int c0)])) _
    refine XS.icmpYes X0.here hx rfl (pc0 := 45) (pc' := 58) rfl (hb hby d9_45) rfl (feq u).2 (by decide) (by decide) ?_
    show Steps p.tables e below (s₁.setTop (mkF m 58 #[.val (.int q), .val (.int c0), .val (.int c1)] [])) _
    refine XS.iloadN X0.here hx rfl (hb hby d9_58) rfl ?_
    show Steps p.tables e below (s₁.setTop (mkF m 59 #[.val (.int q), .val (.int c0), .val (.int c1)] [(.int c0)])) _
    refine XS.bipush X0.here hx rfl (hb hby d9_59) ?_
    show Steps p.tables e below (s₁.setTop (mkF m 61 #[.val (.int q), .val (.int c0), .val (.int c1)] [(.int (33 : Int32)), (.int c0)])) _
    refine XS.icmpYes X0.here hx rfl (pc0 := 61) (pc' := 74) rfl (hb hby d9_61) rfl (feq v).2 (by decide) (by decide) ?_
    show Steps p.tables e below (s₁.setTop (mkF m 74 #[.val (.int q), .val (.int c0), .val (.int c1)] [])) _
    refine XS.iloadN X0.here hx rfl (hb hby d9_74) rfl ?_
    show Steps p.tables e below (s₁.setTop (mkF m 75 #[.val (.int q), .val (.int c0), .val (.int c1)] [(.int c0)])) _
    refine XS.bipush X0.here hx rfl (hb hby d9_75) ?_
    show Steps p.tables e below (s₁.setTop (mkF m 77 #[.val (.int q), .val (.int c0), .val (.int c1)] [(.int (60 : Int32)), (.int c0)])) _
    refine XS.icmpYes X0.here hx rfl (pc0 := 77) (pc' := 90) rfl (hb hby d9_77) rfl (feq u).2 (by decide) (by decide) ?_
    show Steps p.tables e below (s₁.setTop (mkF m 90 #[.val (.int q), .val (.int c0), .val (.int c1)] [])) _
    refine XS.iloadN X0.here hx rfl (hb hby d9_90) rfl ?_
    show Steps p.tables e below (s₁.setTop (mkF m 91 #[.val (.int q), .val (.int c0), .val (.int c1)] [(.int c0)])) _
    refine XS.bipush X0.here hx rfl (hb hby d9_91) ?_
    show Steps p.tables e below (s₁.setTop (mkF m 93 #[.val (.int q), .val (.int c0), .val (.int c1)] [(.int (62 : Int32)), (.int c0)])) _
    refine XS.icmpYes X0.here hx rfl (pc0 := 93) (pc' := 106) rfl (hb hby d9_93) rfl (feq y).2 (by decide) (by decide) ?_
    show Steps p.tables e below (s₁.setTop (mkF m 106 #[.val (.int q), .val (.int c0), .val (.int c1)] [])) _
    refine XS.aconstNull X0.here hx rfl (hb hby d9_106) ?_
    show Steps p.tables e below (s₁.setTop (mkF m 107 #[.val (.int q), .val (.int c0), .val (.int c1)] [.null])) _
    jvm_step X0.here [X0.here.top, hx, (hb hby d9_107), X0.method', Bd.returns, Value.isRef, FieldType.isReference]
    first | (intro acts; rw [hr _ acts rfl rfl rfl]) | rw [hr _ _ rfl rfl rfl]
    exact Steps.refl _
  · show QP .null h0 n0 _ s₁.heap _
    rw [e0]
    exact ⟨rfl, N0, rfl⟩
theorem d9_108 : decode method_3_code 108 = .ok (.aconst_null, 1) := by decide +kernel
theorem d9_109 : decode method_3_code 109 = .ok (.areturn, 1) := by decide +kernel
set_option maxRecDepth 65536 in
set_option maxHeartbeats 40000000 in
theorem rm9_3 (l : Launch) (Z : State) (a0 : Array Value) (hw : ∀ d ∈ tables_1, d.before a0 Z = true) (ws : List Jvm.Cond) (w0 w1 w2 w3 w4 w5 : Addr) (q c0 c1 : Int32) (h0 : Heap) (n0 : Nat) (O0 : Old Z n0 h0) (S0 : Sta Z Z.heap "com/example/plugroot/plugroot/sql/Comparison" "EQUAL" "Lcom/example/plugroot/plugroot/sql/Comparison;" (.ref w0)) (S1 : Sta Z Z.heap "com/example/plugroot/plugroot/sql/Comparison" "NOT_EQUAL" "Lcom/example/plugroot/plugroot/sql/Comparison;" (.ref w1)) (S2 : Sta Z Z.heap "com/example/plugroot/plugroot/sql/Comparison" "LESS" "Lcom/example/plugroot/plugroot/sql/Comparison;" (.ref w2)) (S3 : Sta Z Z.heap "com/example/plugroot/plugroot/sql/Comparison" "GREATER" "Lcom/example/plugroot/plugroot/sql/Comparison;" (.ref w3)) (S4 : Sta Z Z.heap "com/example/plugroot/plugroot/sql/Comparison" "LESS_OR_EQUAL" "Lcom/example/plugroot/plugroot/sql/Comparison;" (.ref w4)) (S5 : Sta Z Z.heap "com/example/plugroot/plugroot/sql/Comparison" "GREATER_OR_EQUAL" "Lcom/example/plugroot/plugroot/sql/Comparison;" (.ref w5)) (hq : ¬ (q = 1)) (hq' : ¬ (q = 2)) :
    MetFree l (⟨"com/example/plugroot/plugroot/sql/ComparisonOfPinLaw", "expected", "(ICC)Lcom/example/plugroot/plugroot/sql/Comparison;"⟩ : MethodName) (head1 (Jvm.Cond.code (⟨"com/example/plugroot/plugroot/sql/ComparisonOfPinLaw", "expected", "(ICC)Lcom/example/plugroot/plugroot/sql/Comparison;"⟩ : MethodName) method_3_code 3 (some (.object "com/example/plugroot/plugroot/sql/Comparison")) :: ws) ({ frames := 0, cells := 0, slots := 0, locals := 0 } : Room)) (fun a_ U => a_ = #[(.int q), (.int c0), (.int c1)] ∧ Z.Warmed39 U.vm ∧ U.heap = h0) (fun _ _ _ _ _ => True) (fun _ U o U' => ∃ v L, o = .returned v ∧ QP .null h0 n0 v U'.heap L ∧ FrameEnd U o U' L ({ frames := 0, cells := 0, slots := 0, locals := 0 } : Room).cells ({ frames := 0, cells := 0, slots := 0, locals := 0 } : Room).slots) := by
  refine MetFree.of_bodySF (plainFor_of_name pn_0) hisR ?_
  intro p e s m args below meth c s₁ Bd hml0 hP hK
  obtain ⟨rfl, hZ, hh⟩ := hP
  have hx := Bd.exec
  have hby := Bd.bytes
  have hml : c.maxLocals = 3 := hml0
  have hown : s.vm.findClass "com/example/plugroot/plugroot/sql/ComparisonOfPinLaw" = some m.cls := findClass_of_methodNamed Bd.named
  have hnm := (name_of_methodNamed Bd.named Bd.method).1
  have X0 : Stand p l e ({ frames := 0, cells := 0, slots := 0, locals := 0 } : Room) s m #[(.int q), (.int c0), (.int c1)] below meth c s₁ [] 0 0 := Stand.of_body Bd
  have e0 : s₁.heap = h0 := by rw [← hh, Bd.state]; rfl
  have N0 := Fr.nil n0
  have pre0 : ∀ tg, Steps p.tables e below (s₁.setTop (mkF m 0 #[.val (.int q), .val (.int c0), .val (.int c1)] [])) tg → Steps p.tables e below (s₁.setTop (entryFrame m #[(.int q), (.int c0), (.int c1)] 3)) tg := fun tg kq => castTop (ef_III_3 m q c0 c1) kq
  obtain ⟨fs, hr, hrun, hended, hW, hsame⟩ := X0.leave (v := some .null) (fun h => by rw [Bd.returns] at h; cases h)
  refine ⟨_, _, pre0 _ ?_, hrun, hended, _, _, rfl, ?_, ⟨_, rfl⟩, hW, hsame.mono (by decide) (by decide)⟩
  · show Steps p.tables e below (s₁.setTop (mkF m 0 #[.val (.int q), .val (.int c0), .val (.int c1)] [])) _
    refine XS.iloadN X0.here hx rfl (hb hby d9_0) rfl ?_
    show Steps p.tables e below (s₁.setTop (mkF m 1 #[.val (.int q), .val (.int c0), .val (.int c1)] [(.int q)])) _
    refine XS.iconst X0.here hx rfl (hb hby d9_1) ?_
    show Steps p.tables e below (s₁.setTop (mkF m 2 #[.val (.int q), .val (.int c0), .val (.int c1)] [(.int (1 : Int32)), (.int q)])) _
    refine XS.icmpYes X0.here hx rfl (pc0 := 2) (pc' := 37) rfl (hb hby d9_2) rfl (feq hq).2 (by decide) (by decide) ?_
    show Steps p.tables e below (s₁.setTop (mkF m 37 #[.val (.int q), .val (.int c0), .val (.int c1)] [])) _
    refine XS.iloadN X0.here hx rfl (hb hby d9_37) rfl ?_
    show Steps p.tables e below (s₁.setTop (mkF m 38 #[.val (.int q), .val (.int c0), .val (.int c1)] [(.int q)])) _
    refine XS.iconst X0.here hx rfl (hb hby d9_38) ?_
    show Steps p.tables e below (s₁.setTop (mkF m 39 #[.val (.int q), .val (.int c0), .val (.int c1)] [(.int (2 : Int32)), (.int q)])) _
    refine XS.icmpYes X0.here hx rfl (pc0 := 39) (pc' := 108) rfl (hb hby d9_39) rfl (feq hq').2 (by decide) (by decide) ?_
    show Steps p.tables e below (s₁.setTop (mkF m 108 #[.val (.int q), .val (.int c0), .val (.int c1)] [])) _
    refine XS.aconstNull X0.here hx rfl (hb hby d9_108) ?_
    show Steps p.tables e below (s₁.setTop (mkF m 109 #[.val (.int q), .val (.int c0), .val (.int c1)] [.null])) _
    jvm_step X0.here [X0.here.top, hx, (hb hby d9_109), X0.method', Bd.returns, Value.isRef, FieldType.isReference]
    first | (intro acts; rw [hr _ acts rfl rfl rfl]) | rw [hr _ _ rfl rfl rfl]
    exact Steps.refl _
  · show QP .null h0 n0 _ s₁.heap _
    rw [e0]
    exact ⟨rfl, N0, rfl⟩
theorem rm9 (l : Launch) (Z : State) (a0 : Array Value) (hw : ∀ d ∈ tables_1, d.before a0 Z = true) (ws : List Jvm.Cond) (w0 w1 w2 w3 w4 w5 : Addr) (q c0 c1 : Int32) (r : Value) (h0 : Heap) (n0 : Nat) (O0 : Old Z n0 h0) (S0 : Sta Z Z.heap "com/example/plugroot/plugroot/sql/Comparison" "EQUAL" "Lcom/example/plugroot/plugroot/sql/Comparison;" (.ref w0)) (S1 : Sta Z Z.heap "com/example/plugroot/plugroot/sql/Comparison" "NOT_EQUAL" "Lcom/example/plugroot/plugroot/sql/Comparison;" (.ref w1)) (S2 : Sta Z Z.heap "com/example/plugroot/plugroot/sql/Comparison" "LESS" "Lcom/example/plugroot/plugroot/sql/Comparison;" (.ref w2)) (S3 : Sta Z Z.heap "com/example/plugroot/plugroot/sql/Comparison" "GREATER" "Lcom/example/plugroot/plugroot/sql/Comparison;" (.ref w3)) (S4 : Sta Z Z.heap "com/example/plugroot/plugroot/sql/Comparison" "LESS_OR_EQUAL" "Lcom/example/plugroot/plugroot/sql/Comparison;" (.ref w4)) (S5 : Sta Z Z.heap "com/example/plugroot/plugroot/sql/Comparison" "GREATER_OR_EQUAL" "Lcom/example/plugroot/plugroot/sql/Comparison;" (.ref w5)) (hr : r = expF w0 w1 w2 w3 w4 w5 q c0 c1) :
    MetFree l (⟨"com/example/plugroot/plugroot/sql/ComparisonOfPinLaw", "expected", "(ICC)Lcom/example/plugroot/plugroot/sql/Comparison;"⟩ : MethodName) (head1 (Jvm.Cond.code (⟨"com/example/plugroot/plugroot/sql/ComparisonOfPinLaw", "expected", "(ICC)Lcom/example/plugroot/plugroot/sql/Comparison;"⟩ : MethodName) method_3_code 3 (some (.object "com/example/plugroot/plugroot/sql/Comparison")) :: ws) ({ frames := 0, cells := 0, slots := 0, locals := 0 } : Room)) (fun a_ U => a_ = #[(.int q), (.int c0), (.int c1)] ∧ Z.Warmed39 U.vm ∧ U.heap = h0) (fun _ _ _ _ _ => True) (fun _ U o U' => ∃ v L, o = .returned v ∧ QP r h0 n0 v U'.heap L ∧ FrameEnd U o U' L ({ frames := 0, cells := 0, slots := 0, locals := 0 } : Room).cells ({ frames := 0, cells := 0, slots := 0, locals := 0 } : Room).slots) := by
  by_cases hq : q = 1
  · by_cases a1 : c0 = 61
    · obtain rfl : r = .ref w0 := by rw [hr]; simp [expF, hq, a1]
      exact rm9_1a l Z a0 hw ws w0 w1 w2 w3 w4 w5 q c0 c1 h0 n0 O0 S0 S1 S2 S3 S4 S5 hq a1
    by_cases a2 : c0 = 60
    · obtain rfl : r = .ref w2 := by rw [hr]; simp [expF, hq, a2]
      exact rm9_1b l Z a0 hw ws w0 w1 w2 w3 w4 w5 q c0 c1 h0 n0 O0 S0 S1 S2 S3 S4 S5 hq a2
    by_cases a3 : c0 = 62
    · obtain rfl : r = .ref w3 := by rw [hr]; simp [expF, hq, a3]
      exact rm9_1c l Z a0 hw ws w0 w1 w2 w3 w4 w5 q c0 c1 h0 n0 O0 S0 S1 S2 S3 S4 S5 hq a3
    · obtain rfl : r = .null := by rw [hr]; simp [expF, hq, a1, a2, a3]
      exact rm9_1d l Z a0 hw ws w0 w1 w2 w3 w4 w5 q c0 c1 h0 n0 O0 S0 S1 S2 S3 S4 S5 hq a1 a2 a3
  by_cases hq2 : q = 2
  · by_cases a1 : c0 = 60
    · by_cases b1 : c1 = 62
      · obtain rfl : r = .ref w1 := by rw [hr]; simp [expF, hq2, a1, b1]
        exact rm9_2a l Z a0 hw ws w0 w1 w2 w3 w4 w5 q c0 c1 h0 n0 O0 S0 S1 S2 S3 S4 S5 hq2 a1 b1
      by_cases b2 : c1 = 61
      · obtain rfl : r = .ref w4 := by rw [hr]; simp [expF, hq2, a1, b2]
        exact rm9_2b l Z a0 hw ws w0 w1 w2 w3 w4 w5 q c0 c1 h0 n0 O0 S0 S1 S2 S3 S4 S5 hq2 a1 b2
      · obtain rfl : r = .null := by rw [hr]; simp [expF, hq2, a1, b1, b2]
        exact rm9_2c l Z a0 hw ws w0 w1 w2 w3 w4 w5 q c0 c1 h0 n0 O0 S0 S1 S2 S3 S4 S5 hq2 a1 b1 b2
    by_cases a2 : c0 = 33
    · by_cases b2 : c1 = 61
      · obtain rfl : r = .ref w1 := by rw [hr]; simp [expF, hq2, a2, b2]
        exact rm9_2d l Z a0 hw ws w0 w1 w2 w3 w4 w5 q c0 c1 h0 n0 O0 S0 S1 S2 S3 S4 S5 hq2 a2 b2
      · obtain rfl : r = .null := by rw [hr]; simp [expF, hq2, a2, b2]
        exact rm9_2e l Z a0 hw ws w0 w1 w2 w3 w4 w5 q c0 c1 h0 n0 O0 S0 S1 S2 S3 S4 S5 hq2 a2 b2
    by_cases a3 : c0 = 62
    · by_cases b2 : c1 = 61
      · obtain rfl : r = .ref w5 := by rw [hr]; simp [expF, hq2, a3, b2]
        exact rm9_2f l Z a0 hw ws w0 w1 w2 w3 w4 w5 q c0 c1 h0 n0 O0 S0 S1 S2 S3 S4 S5 hq2 a3 b2
      · obtain rfl : r = .null := by rw [hr]; simp [expF, hq2, a3, b2]
        exact rm9_2g l Z a0 hw ws w0 w1 w2 w3 w4 w5 q c0 c1 h0 n0 O0 S0 S1 S2 S3 S4 S5 hq2 a3 b2
    · obtain rfl : r = .null := by rw [hr]; simp [expF, hq2, a1, a2, a3]
      exact rm9_2h l Z a0 hw ws w0 w1 w2 w3 w4 w5 q c0 c1 h0 n0 O0 S0 S1 S2 S3 S4 S5 hq2 a1 a2 a3
  · obtain rfl : r = .null := by rw [hr]; simp [expF, hq, hq2]
    exact rm9_3 l Z a0 hw ws w0 w1 w2 w3 w4 w5 q c0 c1 h0 n0 O0 S0 S1 S2 S3 S4 S5 hq hq2
def Q8 (Z : State) (kV : ClassId) (vs : List Value) (h0 : Heap) (n0 : Nat) (v : Option Value) (h : Heap) (L : List Loc) : Prop := ∃ b : Addr, v = some (.ref b) ∧ Fr n0 L ∧ Keep h0 h [] ∧ h0.size ≤ b ∧ Arv Z h b kV (.object "com/example/plugroot/plugroot/sql/Comparison") (6 : Int32) vs .null
theorem d8_0 : decode prog_73_method_1_code 0 = .ok (.getstatic 22, 3) := by decide +kernel
theorem d8_3 : decode prog_73_method_1_code 3 = .ok (.invokevirtual 26, 3) := by decide +kernel
theorem d8_6 : decode prog_73_method_1_code 6 = .ok (.checkcast 27, 3) := by decide +kernel
theorem d8_9 : decode prog_73_method_1_code 9 = .ok (.areturn, 1) := by decide +kernel
theorem ef__0 (m : MethodId)  : entryFrame m #[] 0 = mkF m 0 #[] [] := by first | (simp [entryFrame, mkF, argsToLocals, Value.category]; done) | rfl
theorem pn_1 : plainName "com/example/plugroot/plugroot/sql/Comparison" = true := by first | (simp [plainName, overriddenIn]; done) | decide +kernel
set_option maxRecDepth 65536 in
set_option maxHeartbeats 40000000 in
theorem rm8 (l : Launch) (Z : State) (a0 : Array Value) (hw : ∀ d ∈ tables_1, d.before a0 Z = true) (ws : List Jvm.Cond) (kV : ClassId) (wV w0 w1 w2 w3 w4 w5 : Addr) (h0 : Heap) (n0 : Nat) (O0 : Old Z n0 h0) (S_V : Sta Z Z.heap "com/example/plugroot/plugroot/sql/Comparison" "$VALUES" "[Lcom/example/plugroot/plugroot/sql/Comparison;" (.ref wV)) (A_V : Arv Z Z.heap wV kV (.object "com/example/plugroot/plugroot/sql/Comparison") (6 : Int32) [(.ref w0), (.ref w1), (.ref w2), (.ref w3), (.ref w4), (.ref w5)] .null) (E_V : Exa Z Z.heap wV "[Lcom/example/plugroot/plugroot/sql/Comparison;") :
    MetFree l (⟨"com/example/plugroot/plugroot/sql/Comparison", "values", "()[Lcom/example/plugroot/plugroot/sql/Comparison;"⟩ : MethodName) (head1 (Jvm.Cond.code (⟨"com/example/plugroot/plugroot/sql/Comparison", "values", "()[Lcom/example/plugroot/plugroot/sql/Comparison;"⟩ : MethodName) prog_73_method_1_code 0 (some (.array (.object "com/example/plugroot/plugroot/sql/Comparison"))) :: ws) ({ frames := 1, cells := 1, slots := 6, locals := 14 } : Room)) (fun a_ U => a_ = #[] ∧ Z.Warmed39 U.vm ∧ U.heap = h0) (fun _ _ _ _ _ => True) (fun _ U o U' => ∃ v L, o = .returned v ∧ Q8 Z kV [(.ref w0), (.ref w1), (.ref w2), (.ref w3), (.ref w4), (.ref w5)] h0 n0 v U'.heap L ∧ FrameEnd U o U' L ({ frames := 1, cells := 1, slots := 6, locals := 14 } : Room).cells ({ frames := 1, cells := 1, slots := 6, locals := 14 } : Room).slots) := by
  refine MetFree.of_bodySF (plainFor_of_name pn_1) hisR ?_
  intro p e s m args below meth c s₁ Bd hml0 hP hK
  obtain ⟨rfl, hZ, hh⟩ := hP
  have hx := Bd.exec
  have hby := Bd.bytes
  have hml : c.maxLocals = 0 := hml0
  have hown : s.vm.findClass "com/example/plugroot/plugroot/sql/Comparison" = some m.cls := findClass_of_methodNamed Bd.named
  have hnm := (name_of_methodNamed Bd.named Bd.method).1
  have X0 : Stand p l e ({ frames := 1, cells := 1, slots := 6, locals := 14 } : Room) s m #[] below meth c s₁ [] 0 0 := Stand.of_body Bd
  have e0 : s₁.heap = h0 := by rw [← hh, Bd.state]; rfl
  have N0 := Fr.nil n0
  have pre0 : ∀ tg, Steps p.tables e below (s₁.setTop (mkF m 0 #[] [])) tg → Steps p.tables e below (s₁.setTop (entryFrame m #[] 0)) tg := fun tg kq => castTop (ef__0 m) kq
  obtain ⟨T101, X101, e101, st101⟩ := getS2 X0 hx hZ hown (host := "") (Or.inl (wi hw 45 rfl)) Via.refl e0 (S_V.ext O0.2) (g := (mkF m 0 #[] [])) rfl (hb hby d8_0)
  obtain ⟨T102, h102, X102, e102, E102, B102, A102, st102⟩ := cloneH X101 hx hZ hown (wi hw 47 rfl) (wi hw 48 rfl) (wi hw 52 rfl) (wi hw 50 rfl) (wi hw 51 rfl) (wi hw 53 rfl) e101 (Arv.arh (A_V.ext O0.2)) (E_V.ext O0.2) (g := (mkF m 3 #[] [(.ref wV)])) rfl (by rw [hml]; rfl) rfl (hb hby d8_3) (by decide) (W := 0) (cap := 6) (by show 2 * 0 + _ ≤ _; exact Nat.le_of_eq rfl) (by decide) (by decide) (by decide) (by decide)
  obtain ⟨b102, g102⟩ : ∃ z, z = h0.size := ⟨_, rfl⟩
  rw [← g102] at B102 A102 st102
  have g_b102 : n0 ≤ b102 := Nat.le_trans (O0.1 ▸ O0.2.1) (Nat.le_of_eq g102.symm)
  have sz_b102 : h0.size ≤ b102 := Nat.le_trans (Nat.le_refl _) (Nat.le_of_eq g102.symm)
  have O102 := O0.ext E102
  have KK102 : Keep h0 h102 [] := (Keep.refl h0 []).ext E102
  have V_b102 : Arv Z h102 b102 kV (.object "com/example/plugroot/plugroot/sql/Comparison") (6 : Int32) [(.ref w0), (.ref w1), (.ref w2), (.ref w3), (.ref w4), (.ref w5)] .null := B102
  obtain ⟨T103, X103, e103, st103⟩ := castY X102 hx hZ hown (wi hw 61 rfl) e102 (Ins.self A102) (g := (mkF m 6 #[] [(.ref b102)])) rfl rfl (hb hby d8_6)
  obtain ⟨fs, hr, hrun, hended, hW, hsame⟩ := X103.leave (v := some (.ref b102)) (fun h => by rw [Bd.returns] at h; cases h)
  refine ⟨_, _, pre0 _ ?_, hrun, hended, _, _, rfl, ?_, ⟨_, rfl⟩, hW, hsame.mono (by decide) (by decide)⟩
  · show Steps p.tables e below (s₁.setTop (mkF m 0 #[] [])) _
    refine st101 _ ?_
    show Steps p.tables e below (T101.setTop (mkF m 3 #[] [(.ref wV)])) _
    refine st102 _ ?_
    show Steps p.tables e below (T102.setTop (mkF m 6 #[] [(.ref b102)])) _
    refine st103 _ ?_
    show Steps p.tables e below (T103.setTop (mkF m 9 #[] [(.ref b102)])) _
    jvm_step X103.here [X103.here.top, hx, (hb hby d8_9), X103.method', Bd.returns, Value.isRef, FieldType.isReference]
    first | (intro acts; rw [hr _ acts rfl rfl rfl]) | rw [hr _ _ rfl rfl rfl]
    exact Steps.refl _
  · show Q8 Z kV [(.ref w0), (.ref w1), (.ref w2), (.ref w3), (.ref w4), (.ref w5)] h0 n0 _ T103.heap _
    rw [e103]
    exact ⟨_, rfl, N0, KK102, sz_b102, V_b102⟩
def Q5 (r : Value) (h0 : Heap) (n0 : Nat) (v : Option Value) (h : Heap) (L : List Loc) : Prop := v = some r ∧ Fr n0 L ∧ Keep h0 h []
theorem d5_0 : decode prog_73_method_4_code 0 = .ok (.aload_n 0, 1) := by decide +kernel
theorem d5_1 : decode prog_73_method_4_code 1 = .ok (.ldc 45, 2) := by decide +kernel
theorem own_strw : ∀ d ∈ Bundle.stringAtoms, d ∈ tables_1 := by decide +kernel
theorem d5_3 : decode prog_73_method_4_code 3 = .ok (.invokevirtual 47, 3) := by decide +kernel
theorem own_w_eqW : ∀ d ∈ StrChars.Road.wordsEq, d ∈ tables_1 := by decide +kernel
theorem pd_0 : parseMethodDescriptor "(Ljava/lang/Object;)Z" = some ⟨[(.object "java/lang/Object")], some .boolean⟩ := by decide +kernel
theorem d5_6 : decode prog_73_method_4_code 6 = .ok (.ifCond .eq 8, 3) := by decide +kernel
theorem d5_9 : decode prog_73_method_4_code 9 = .ok (.ldc 53, 2) := by decide +kernel
theorem d5_11 : decode prog_73_method_4_code 11 = .ok (.goto 4, 3) := by decide +kernel
theorem d5_15 : decode prog_73_method_4_code 15 = .ok (.astore_n 1, 1) := by decide +kernel
theorem d5_16 : decode prog_73_method_4_code 16 = .ok (.invokestatic 55, 3) := by decide +kernel
theorem pd_1 : parseMethodDescriptor "()[Lcom/example/plugroot/plugroot/sql/Comparison;" = some ⟨[], some (.array (.object "com/example/plugroot/plugroot/sql/Comparison"))⟩ := by decide +kernel
theorem d5_19 : decode prog_73_method_4_code 19 = .ok (.astore_n 2, 1) := by decide +kernel
theorem d5_20 : decode prog_73_method_4_code 20 = .ok (.aload_n 2, 1) := by decide +kernel
theorem d5_21 : decode prog_73_method_4_code 21 = .ok (.arraylength, 1) := by decide +kernel
theorem d5_22 : decode prog_73_method_4_code 22 = .ok (.istore_n 3, 1) := by decide +kernel
theorem d5_23 : decode prog_73_method_4_code 23 = .ok (.iconst 0, 1) := by decide +kernel
theorem d5_24 : decode prog_73_method_4_code 24 = .ok (.istore 4, 2) := by decide +kernel
theorem d5_26 : decode prog_73_method_4_code 26 = .ok (.iload 4, 2) := by decide +kernel
theorem d5_28 : decode prog_73_method_4_code 28 = .ok (.iload_n 3, 1) := by decide +kernel
theorem d5_29 : decode prog_73_method_4_code 29 = .ok (.if_icmp .ge 30, 3) := by decide +kernel
theorem d5_32 : decode prog_73_method_4_code 32 = .ok (.aload_n 2, 1) := by decide +kernel
theorem d5_33 : decode prog_73_method_4_code 33 = .ok (.iload 4, 2) := by decide +kernel
theorem d5_35 : decode prog_73_method_4_code 35 = .ok (.aaload, 1) := by decide +kernel
theorem d5_36 : decode prog_73_method_4_code 36 = .ok (.astore 5, 2) := by decide +kernel
theorem d5_38 : decode prog_73_method_4_code 38 = .ok (.aload 5, 2) := by decide +kernel
theorem d5_40 : decode prog_73_method_4_code 40 = .ok (.getfield 41, 3) := by decide +kernel
theorem d5_43 : decode prog_73_method_4_code 43 = .ok (.aload_n 1, 1) := by decide +kernel
theorem d5_44 : decode prog_73_method_4_code 44 = .ok (.invokevirtual 47, 3) := by decide +kernel
theorem d5_47 : decode prog_73_method_4_code 47 = .ok (.ifCond .eq 6, 3) := by decide +kernel
theorem d5_53 : decode prog_73_method_4_code 53 = .ok (.iinc 4 1, 3) := by decide +kernel
theorem d5_56 : decode prog_73_method_4_code 56 = .ok (.goto (-30), 3) := by decide +kernel
theorem d5_50 : decode prog_73_method_4_code 50 = .ok (.aload 5, 2) := by decide +kernel
theorem d5_52 : decode prog_73_method_4_code 52 = .ok (.areturn, 1) := by decide +kernel
theorem d5_14 : decode prog_73_method_4_code 14 = .ok (.aload_n 0, 1) := by decide +kernel
theorem d5_59 : decode prog_73_method_4_code 59 = .ok (.aconst_null, 1) := by decide +kernel
theorem d5_60 : decode prog_73_method_4_code 60 = .ok (.areturn, 1) := by decide +kernel
theorem ef_R_6 (m : MethodId) (x0 : Addr) : entryFrame m #[(.ref x0)] 6 = mkF m 0 #[.val (.ref x0), .unset, .unset, .unset, .unset, .unset] [] := by first | (simp [entryFrame, mkF, argsToLocals, Value.category]; done) | rfl
set_option maxRecDepth 65536 in
set_option maxHeartbeats 40000000 in
theorem rm5_x (l : Launch) (Z : State) (a0 : Array Value) (hw : ∀ d ∈ tables_1, d.before a0 Z = true) (ws : List Jvm.Cond) (G1 : Int32) (kV : ClassId) (wV w0 w1 w2 w3 w4 w5 : Addr) (s0 s1 s2 s3 s4 s5 : Addr) (a1 : Addr) (cs : List Int32) (h0 : Heap) (n0 : Nat) (O0 : Old Z n0 h0) (S_CS : Sta Z Z.heap "java/lang/String" "COMPACT_STRINGS" "Z" (.int G1)) (hG1 : ¬ (G1 = (0 : Int32))) (S_V : Sta Z Z.heap "com/example/plugroot/plugroot/sql/Comparison" "$VALUES" "[Lcom/example/plugroot/plugroot/sql/Comparison;" (.ref wV)) (A_V : Arv Z Z.heap wV kV (.object "com/example/plugroot/plugroot/sql/Comparison") (6 : Int32) [(.ref w0), (.ref w1), (.ref w2), (.ref w3), (.ref w4), (.ref w5)] .null) (E_V : Exa Z Z.heap wV "[Lcom/example/plugroot/plugroot/sql/Comparison;") (M0 : Fld Z Z.heap w0 "com/example/plugroot/plugroot/sql/Comparison" "symbol" "Ljava/lang/String;" (.ref s0)) (M1 : Fld Z Z.heap w1 "com/example/plugroot/plugroot/sql/Comparison" "symbol" "Ljava/lang/String;" (.ref s1)) (M2 : Fld Z Z.heap w2 "com/example/plugroot/plugroot/sql/Comparison" "symbol" "Ljava/lang/String;" (.ref s2)) (M3 : Fld Z Z.heap w3 "com/example/plugroot/plugroot/sql/Comparison" "symbol" "Ljava/lang/String;" (.ref s3)) (M4 : Fld Z Z.heap w4 "com/example/plugroot/plugroot/sql/Comparison" "symbol" "Ljava/lang/String;" (.ref s4)) (M5 : Fld Z Z.heap w5 "com/example/plugroot/plugroot/sql/Comparison" "symbol" "Ljava/lang/String;" (.ref s5)) (T0 : Str Z Z.heap s0 ([(61 : Int32)] : List Int32)) (T1 : Str Z Z.heap s1 ([(60 : Int32), (62 : Int32)] : List Int32)) (T2 : Str Z Z.heap s2 ([(60 : Int32)] : List Int32)) (T3 : Str Z Z.heap s3 ([(62 : Int32)] : List Int32)) (T4 : Str Z Z.heap s4 ([(60 : Int32), (61 : Int32)] : List Int32)) (T5 : Str Z Z.heap s5 ([(62 : Int32), (61 : Int32)] : List Int32)) (T : Str Z h0 a1 cs) (hbg : cs = [33, 61]) :
    MetFree l (⟨"com/example/plugroot/plugroot/sql/Comparison", "of", "(Ljava/lang/String;)Lcom/example/plugroot/plugroot/sql/Comparison;"⟩ : MethodName) (head1 (Jvm.Cond.code (⟨"com/example/plugroot/plugroot/sql/Comparison", "of", "(Ljava/lang/String;)Lcom/example/plugroot/plugroot/sql/Comparison;"⟩ : MethodName) prog_73_method_4_code 6 (some (.object "com/example/plugroot/plugroot/sql/Comparison")) :: ws) ({ frames := 2, cells := 5, slots := 30, locals := 28 } : Room)) (fun a_ U => a_ = #[(.ref a1)] ∧ Z.Warmed39 U.vm ∧ U.heap = h0 ∧ CHv Z consts_1 U.vm h0) (fun _ _ _ _ _ => True) (fun _ U o U' => ∃ v L, o = .returned v ∧ Q5 (.ref w1) h0 n0 v U'.heap L ∧ CHr Z consts_1 U.vm U.heap U'.vm U'.heap ∧ ReturnedEndW U o U' L ({ frames := 2, cells := 5, slots := 30, locals := 28 } : Room).cells ({ frames := 2, cells := 5, slots := 30, locals := 28 } : Room).slots) := by
  refine MetFree.of_bodySF (plainFor_of_name pn_1) hisR ?_
  intro p e s m args below meth c s₁ Bd hml0 hP hK
  obtain ⟨rfl, hZ, hh, hC⟩ := hP
  have hx := Bd.exec
  have hby := Bd.bytes
  have hml : c.maxLocals = 6 := hml0
  have hown : s.vm.findClass "com/example/plugroot/plugroot/sql/Comparison" = some m.cls := findClass_of_methodNamed Bd.named
  have hnm := (name_of_methodNamed Bd.named Bd.method).1
  have X0 : Stand p l e ({ frames := 2, cells := 5, slots := 30, locals := 28 } : Room) (s.setVm s.vm) m #[(.ref a1)] below meth c s₁ [] 0 0 := Stand.of_body Bd
  have e0 : s₁.heap = h0 := by rw [← hh, Bd.state]; rfl
  have N0 := Fr.nil n0
  have pre0 : ∀ tg, Steps p.tables e below (s₁.setTop (mkF m 0 #[.val (.ref a1), .unset, .unset, .unset, .unset, .unset] [])) tg → Steps p.tables e below (s₁.setTop (entryFrame m #[(.ref a1)] 6)) tg := fun tg kq => castTop (ef_R_6 m a1) kq
  have hS0 : s.Since s.vm h0.size := (State.WarmedH.refl s).since _
  have hk0 : h0.size ≤ h0.size := Nat.le_refl _
  have CR0 : CHr Z consts_1 s.vm h0 s.vm h0 := CHr.refl hC
  obtain ⟨tm0, kbm0, Nm0, vsm0, sEm0, sVm0, sCm0, sKm0, scdm0, shpm0, shlm0⟩ := id T0
  obtain ⟨tm1, kbm1, Nm1, vsm1, sEm1, sVm1, sCm1, sKm1, scdm1, shpm1, shlm1⟩ := id T1
  obtain ⟨tm2, kbm2, Nm2, vsm2, sEm2, sVm2, sCm2, sKm2, scdm2, shpm2, shlm2⟩ := id T2
  obtain ⟨tm3, kbm3, Nm3, vsm3, sEm3, sVm3, sCm3, sKm3, scdm3, shpm3, shlm3⟩ := id T3
  obtain ⟨tm4, kbm4, Nm4, vsm4, sEm4, sVm4, sCm4, sKm4, scdm4, shpm4, shlm4⟩ := id T4
  obtain ⟨tm5, kbm5, Nm5, vsm5, sEm5, sVm5, sCm5, sKm5, scdm5, shpm5, shlm5⟩ := id T5
  obtain ⟨ta, kba, Na, vsa, sEa, sVa, sCa, sKa, scda, shpa, shla⟩ := id T
  obtain ⟨a101, T101, h101, k101, b101, kb101, X101, e101, E101, hS101, hk101, hZ101, hown101, lE101, lC101, lV101, lK101, la101, lb101, CS101, lL101, lne101, st101⟩ := ldcCH (s := s) (EL := consts_1) X0 hx hZ hown (wi hw 30 rfl) (fun d hd => hw d (own_strw d hd)) e0 hS0 hk0 (own_EW hw) (by decide) CR0.1 (vs := [(.int (33 : Int32)), (.int (61 : Int32))]) (z := (2 : Int32)) ⟨by decide, by decide⟩ (by decide) (by decide) (g := (mkF m 1 #[.val (.ref a1), .unset, .unset, .unset, .unset, .unset] [(.ref a1)])) rfl (hb hby d5_1) (n := 8) (by decide) (by decide) (by decide) (by decide)
  have O101 := O0.ext E101
  have CR101 := CR0.trans CS101
  have KK101 : Keep h0 h101 [] := (Keep.refl h0 []).ext E101
  have lcd101 : StrChars.Road.CodA ([(33 : Int32), (61 : Int32)] : List Int32) 0 (2 : Int32) [(.int (33 : Int32)), (.int (61 : Int32))] := Or.inl ⟨rfl, rfl, rfl, by decide⟩
  have lhp101 : ∀ c ∈ ([(33 : Int32), (61 : Int32)] : List Int32), ¬ c < 0 ∧ ¬ (255 : Int32) < c := by decide
  have fE_a1_1_102 := (sEa.ext E101)
  have fString_value_1_103 := (sVa.ext E101)
  have fString_coder_1_104 := (sCa.ext E101)
  have fV_ta_1_105 := (sKa.ext E101)
  obtain ⟨cq106, kq106, q106a, q106b, q106c⟩ := isOf hZ101 e101 fE_a1_1_102
  obtain ⟨_, _, ⟨T106, L106, k106, n106⟩, -, X106, ⟨Lc106, hQ106, l106, y106, z106⟩, st106⟩ := X101.virtualBack hx (y := (⟨"java/lang/String", "equals", "(Ljava/lang/Object;)Z"⟩ : MethodName)) (z := (⟨"java/lang/String", "equals", "(Ljava/lang/Object;)Z"⟩ : MethodName)) hown101 (mvT hZ101 (wi hw 31 rfl)) (mvT hZ101 (wi hw 32 rfl)) (notFace_of_selects (args := #[]) (mvT hZ101 (wi hw 34 rfl))) (mvT hZ101 (wi hw 34 rfl)) (mvT hZ101 (wi hw 33 rfl)) (by decide) (StrChars.Road.eqW (W := 0) hZ101 (fun d hd => hw d (own_w_eqW d hd)) (kI := 4) (wi hw 6 rfl) fE_a1_1_102 fString_value_1_103 fString_coder_1_104 fV_ta_1_105 scda (own_up _ shpa) shla lE101 lV101 lC101 lK101 lcd101 (own_up _ lhp101) (by decide) (S_CS.ext O101.2) hG1 (by decide) (by decide)) q106a q106c (g := (mkF m 3 #[.val (.ref a1), .unset, .unset, .unset, .unset, .unset] [(.ref a101), (.ref a1)])) rfl (by rw [hml]; rfl) (Steps.refl _) (argsL := [(.ref a101)]) (rest := []) (lenOf pd_0 rfl) rfl (by show 2 * 0 + _ ≤ _; exact Nat.le_of_eq rfl) (hb hby d5_3) (fun _ _ => ⟨rfl, e101, (by decide : 2 + 0 ≤ _), (by decide : 12 + 0 ≤ _)⟩)
  dsimp only [Pt.U, Pt.locs, Pt.cells, Pt.slots] at X106 l106 y106 z106 st106 hQ106
  subst l106 y106 z106
  obtain ⟨hv106, rfl, hh106⟩ := hQ106
  obtain rfl := (hv106.resolve_right (fun q => q.2 (hbg : cs = ([(33 : Int32), (61 : Int32)] : List Int32)))).1
  have N106q : Fr n0 ([] : List Loc) := Fr.nil n0
  have e106 : T106.heap = h101 := hh106
  have N106 := Fr.app N0 N106q
  obtain ⟨a107, T107, h107, k107, b107, kb107, X107, e107, E107, hS107, hk107, hZ107, hown107, lE107, lC107, lV107, lK107, la107, lb107, CS107, lL107, lne107, st107⟩ := ldcCH (s := s) (EL := consts_1) X106 hx hZ101 hown101 (wi hw 79 rfl) (fun d hd => hw d (own_strw d hd)) e106 hS101 hk101 (own_EW hw) (by decide) CR101.1 (vs := [(.int (60 : Int32)), (.int (62 : Int32))]) (z := (2 : Int32)) ⟨by decide, by decide⟩ (by decide) (by decide) (g := (mkF m 9 #[.val (.ref a1), .unset, .unset, .unset, .unset, .unset] [])) rfl (hb hby d5_9) (n := 8) (by decide) (by decide) (by decide) (by decide)
  have O107 := O101.ext E107
  have CR107 := CR101.trans CS107
  have KK107 : Keep h0 h107 [] := KK101.ext E107
  have lcd107 : StrChars.Road.CodA ([(60 : Int32), (62 : Int32)] : List Int32) 0 (2 : Int32) [(.int (60 : Int32)), (.int (62 : Int32))] := Or.inl ⟨rfl, rfl, rfl, by decide⟩
  have lhp107 : ∀ c ∈ ([(60 : Int32), (62 : Int32)] : List Int32), ¬ c < 0 ∧ ¬ (255 : Int32) < c := by decide
  obtain ⟨_, _, ⟨T108, L108, k108, n108⟩, -, X108, ⟨Lc108, hQ108, l108, y108, z108⟩, st108⟩ := Jvm.LawKit.callS X107 hx (y := (⟨"com/example/plugroot/plugroot/sql/Comparison", "values", "()[Lcom/example/plugroot/plugroot/sql/Comparison;"⟩ : MethodName)) hown107 (mvT hZ107 (wi hw 42 rfl)) (mvT hZ107 (wi hw 43 rfl)) (mvT hZ107 (wi hw 28 rfl)) (mvT hZ107 (wi hw 44 rfl)) (by decide) (backOf (W := 0) (rm8 l Z a0 hw [] kV wV w0 w1 w2 w3 w4 w5 h107 n0 O107 S_V A_V E_V) hZ107 (wi hw 44 rfl) (wi hw 28 rfl) (by decide) (by decide)) (g := (mkF m 16 #[.val (.ref a1), .val (.ref a107), .unset, .unset, .unset, .unset] [])) rfl (by rw [hml]; rfl) (argsL := []) (rest := []) (lenOf pd_1 rfl) rfl (by show 2 * 0 + _ ≤ _; exact Nat.le_of_eq rfl) (hb hby d5_16) (fun _ _ => ⟨rfl, e107, (by decide : 4 + 1 ≤ _), (by decide : 24 + 6 ≤ _)⟩)
  dsimp only [Pt.U, Pt.locs, Pt.cells, Pt.slots] at X108 l108 y108 z108 st108 hQ108
  subst l108 y108 z108
  obtain ⟨bv108, rfl, N108q, K108, szv108, Av108⟩ := hQ108
  obtain ⟨h108, e108⟩ : ∃ z, T108.heap = z := ⟨_, rfl⟩
  rw [e108] at K108 Av108
  have g_bv108 : n0 ≤ bv108 := Nat.le_trans (O107.1 ▸ O107.2.1) szv108
  have sz_bv108 : h0.size ≤ bv108 := Nat.le_trans KK107.1 szv108
  have O108 := O107.keep K108 all0
  have CS108 := CHr.keep K108 sf0 CR107.1
  have CR108 := CR107.trans CS108
  have KK108 : Keep h0 h108 [] := KK107.trans K108 all0
  have N108 := Fr.app N106 N108q
  obtain ⟨cl_bv108_21, Ar_bv108_21, -, S_bv108_21, N_bv108_21, -, -⟩ := id (Av108)
  obtain ⟨cl_bv108_40, Ar_bv108_40, q_bv108_40, S_bv108_40, N_bv108_40, H_bv108_40, G_bv108_40⟩ := id (Av108)
  have hinbv108_40 : ¬ ((0 : Int32) < 0 ∨ cl_bv108_40.slots.size ≤ ((0 : Int32)).toNatClampNeg) := inb_of S_bv108_40 ⟨by decide, by decide⟩
  have hatbv108_40 : cl_bv108_40.slots[((0 : Int32)).toNatClampNeg]? = some (.ref w0) := H_bv108_40.at hinbv108_40 rfl
  obtain ⟨T109, X109, e109, st109⟩ := getF X108 hx hZ107 hown107 (host := "") (Or.inl (wi hw 63 rfl)) Via.refl e108 (M0.ext O108.2) (g := (mkF m 40 #[.val (.ref a1), .val (.ref a107), .val (.ref bv108), .val (.int (6 : Int32)), .val (.int (0 : Int32)), .val (.ref w0)] [(.ref w0)])) rfl rfl (hb hby d5_40)
  have fE_a107_3_110 := (lE107.keep K108)
  have fString_value_3_111 := (lV107.keep K108 nin0)
  have fString_coder_3_112 := (lC107.keep K108 nin0)
  have fV_b107_3_113 := (lK107.keep K108 nin0)
  obtain ⟨cq114, kq114, q114a, q114b, q114c⟩ := isOf hZ107 e109 (sEm0.ext O108.2)
  obtain ⟨_, _, ⟨T114, L114, k114, n114⟩, -, X114, ⟨Lc114, hQ114, l114, y114, z114⟩, st114⟩ := X109.virtualBack hx (y := (⟨"java/lang/String", "equals", "(Ljava/lang/Object;)Z"⟩ : MethodName)) (z := (⟨"java/lang/String", "equals", "(Ljava/lang/Object;)Z"⟩ : MethodName)) hown107 (mvT hZ107 (wi hw 31 rfl)) (mvT hZ107 (wi hw 32 rfl)) (notFace_of_selects (args := #[]) (mvT hZ107 (wi hw 34 rfl))) (mvT hZ107 (wi hw 34 rfl)) (mvT hZ107 (wi hw 33 rfl)) (by decide) (StrChars.Road.eqW (W := 0) hZ107 (fun d hd => hw d (own_w_eqW d hd)) (kI := 4) (wi hw 6 rfl) (sEm0.ext O108.2) (sVm0.ext O108.2) (sCm0.ext O108.2) (sKm0.ext O108.2) scdm0 (own_up _ shpm0) shlm0 fE_a107_3_110 fString_value_3_111 fString_coder_3_112 fV_b107_3_113 lcd107 (own_up _ lhp107) (by decide) (S_CS.ext O108.2) hG1 (by decide) (by decide)) q114a q114c (g := (mkF m 44 #[.val (.ref a1), .val (.ref a107), .val (.ref bv108), .val (.int (6 : Int32)), .val (.int (0 : Int32)), .val (.ref w0)] [(.ref a107), (.ref s0)])) rfl (by rw [hml]; rfl) (Steps.refl _) (argsL := [(.ref a107)]) (rest := []) (lenOf pd_0 rfl) rfl (by show 2 * 0 + _ ≤ _; exact Nat.le_of_eq rfl) (hb hby d5_44) (fun _ _ => ⟨rfl, e109, (by decide : 5 + 0 ≤ _), (by decide : 30 + 0 ≤ _)⟩)
  dsimp only [Pt.U, Pt.locs, Pt.cells, Pt.slots] at X114 l114 y114 z114 st114 hQ114
  subst l114 y114 z114
  obtain ⟨hv114, rfl, hh114⟩ := hQ114
  obtain rfl := (hv114.resolve_left (fun q => ((by decide) : ¬ ([(61 : Int32)] : List Int32) = ([(60 : Int32), (62 : Int32)] : List Int32)) q.2)).1
  have N114q : Fr n0 ([] : List Loc) := Fr.nil n0
  have e114 : T114.heap = h108 := hh114
  have N114 := Fr.app N108 N114q
  obtain ⟨cl_bv108_68, Ar_bv108_68, q_bv108_68, S_bv108_68, N_bv108_68, H_bv108_68, G_bv108_68⟩ := id (Av108)
  have hinbv108_68 : ¬ ((1 : Int32) < 0 ∨ cl_bv108_68.slots.size ≤ ((1 : Int32)).toNatClampNeg) := inb_of S_bv108_68 ⟨by decide, by decide⟩
  have hatbv108_68 : cl_bv108_68.slots[((1 : Int32)).toNatClampNeg]? = some (.ref w1) := H_bv108_68.at hinbv108_68 rfl
  obtain ⟨T115, X115, e115, st115⟩ := getF X114 hx hZ107 hown107 (host := "") (Or.inl (wi hw 63 rfl)) Via.refl e114 (M1.ext O108.2) (g := (mkF m 40 #[.val (.ref a1), .val (.ref a107), .val (.ref bv108), .val (.int (6 : Int32)), .val (.int (1 : Int32)), .val (.ref w1)] [(.ref w1)])) rfl rfl (hb hby d5_40)
  obtain ⟨cq116, kq116, q116a, q116b, q116c⟩ := isOf hZ107 e115 (sEm1.ext O108.2)
  obtain ⟨_, _, ⟨T116, L116, k116, n116⟩, -, X116, ⟨Lc116, hQ116, l116, y116, z116⟩, st116⟩ := X115.virtualBack hx (y := (⟨"java/lang/String", "equals", "(Ljava/lang/Object;)Z"⟩ : MethodName)) (z := (⟨"java/lang/String", "equals", "(Ljava/lang/Object;)Z"⟩ : MethodName)) hown107 (mvT hZ107 (wi hw 31 rfl)) (mvT hZ107 (wi hw 32 rfl)) (notFace_of_selects (args := #[]) (mvT hZ107 (wi hw 34 rfl))) (mvT hZ107 (wi hw 34 rfl)) (mvT hZ107 (wi hw 33 rfl)) (by decide) (StrChars.Road.eqW (W := 0) hZ107 (fun d hd => hw d (own_w_eqW d hd)) (kI := 4) (wi hw 6 rfl) (sEm1.ext O108.2) (sVm1.ext O108.2) (sCm1.ext O108.2) (sKm1.ext O108.2) scdm1 (own_up _ shpm1) shlm1 fE_a107_3_110 fString_value_3_111 fString_coder_3_112 fV_b107_3_113 lcd107 (own_up _ lhp107) (by decide) (S_CS.ext O108.2) hG1 (by decide) (by decide)) q116a q116c (g := (mkF m 44 #[.val (.ref a1), .val (.ref a107), .val (.ref bv108), .val (.int (6 : Int32)), .val (.int (1 : Int32)), .val (.ref w1)] [(.ref a107), (.ref s1)])) rfl (by rw [hml]; rfl) (Steps.refl _) (argsL := [(.ref a107)]) (rest := []) (lenOf pd_0 rfl) rfl (by show 2 * 0 + _ ≤ _; exact Nat.le_of_eq rfl) (hb hby d5_44) (fun _ _ => ⟨rfl, e115, (by decide : 5 + 0 ≤ _), (by decide : 30 + 0 ≤ _)⟩)
  dsimp only [Pt.U, Pt.locs, Pt.cells, Pt.slots] at X116 l116 y116 z116 st116 hQ116
  subst l116 y116 z116
  obtain ⟨hv116, rfl, hh116⟩ := hQ116
  obtain rfl := (hv116.resolve_right (fun q => q.2 ((by decide) : ([(60 : Int32), (62 : Int32)] : List Int32) = ([(60 : Int32), (62 : Int32)] : List Int32)))).1
  have N116q : Fr n0 ([] : List Loc) := Fr.nil n0
  have e116 : T116.heap = h108 := hh116
  have N116 := Fr.app N114 N116q
  obtain ⟨fs, hr, hrun, hended, hREW⟩ := X116.leaveW hS107 (by rw [e116]; exact (Nat.le_trans hk107 K108.1)) (v := some (.ref w1)) (fun h => by rw [Bd.returns] at h; cases h)
  refine ⟨_, _, pre0 _ ?_, hrun, hended, _, _, rfl, ?_, (by rw [hh]; show CHr Z consts_1 s.vm h0 T116.vm T116.heap; rw [e116]; exact CR108.trans (CHv.at X116 hZ107 (own_EW hw) CR108.1)), hREW.1, hREW.2.1, hREW.2.2.1, hREW.2.2.2.mono (by decide) (by decide)⟩
  · show Steps p.tables e below (s₁.setTop (mkF m 0 #[.val (.ref a1), .unset, .unset, .unset, .unset, .unset] [])) _
    refine XS.aloadN X0.here hx rfl (hb hby d5_0) rfl rfl ?_
    show Steps p.tables e below (s₁.setTop (mkF m 1 #[.val (.ref a1), .unset, .unset, .unset, .unset, .unset] [(.ref a1)])) _
    refine st101 _ ?_
    show Steps p.tables e below (T101.setTop (mkF m 3 #[.val (.ref a1), .unset, .unset, .unset, .unset, .unset] [(.ref a101), (.ref a1)])) _
    refine st106.trans ?_
    show Steps p.tables e below (T106.setTop (mkF m 6 #[.val (.ref a1), .unset, .unset, .unset, .unset, .unset] [(.int (1 : Int32))])) _
    refine XS.ifNo X106.here hx rfl (hb hby d5_6) rfl ((if0 _ _).trans (feq (by decide : ¬ ((1 : Int32) = (0 : Int32)))).1) ?_
    show Steps p.tables e below (T106.setTop (mkF m 9 #[.val (.ref a1), .unset, .unset, .unset, .unset, .unset] [])) _
    refine st107 _ ?_
    show Steps p.tables e below (T107.setTop (mkF m 11 #[.val (.ref a1), .unset, .unset, .unset, .unset, .unset] [(.ref a107)])) _
    refine XS.goto X107.here hx rfl (pc0 := 11) (pc' := 15) rfl (hb hby d5_11) (by decide) (by decide) ?_
    show Steps p.tables e below (T107.setTop (mkF m 15 #[.val (.ref a1), .unset, .unset, .unset, .unset, .unset] [(.ref a107)])) _
    refine XS.astoreN X107.here hx rfl (hb hby d5_15) rfl rfl (l' := #[.val (.ref a1), .val (.ref a107), .unset, .unset, .unset, .unset]) rfl ?_
    show Steps p.tables e below (T107.setTop (mkF m 16 #[.val (.ref a1), .val (.ref a107), .unset, .unset, .unset, .unset] [])) _
    refine st108 _ ?_
    show Steps p.tables e below (T108.setTop (mkF m 19 #[.val (.ref a1), .val (.ref a107), .unset, .unset, .unset, .unset] [(.ref bv108)])) _
    refine XS.astoreN X108.here hx rfl (hb hby d5_19) rfl rfl (l' := #[.val (.ref a1), .val (.ref a107), .val (.ref bv108), .unset, .unset, .unset]) rfl ?_
    show Steps p.tables e below (T108.setTop (mkF m 20 #[.val (.ref a1), .val (.ref a107), .val (.ref bv108), .unset, .unset, .unset] [])) _
    refine XS.aloadN X108.here hx rfl (hb hby d5_20) rfl rfl ?_
    show Steps p.tables e below (T108.setTop (mkF m 21 #[.val (.ref a1), .val (.ref a107), .val (.ref bv108), .unset, .unset, .unset] [(.ref bv108)])) _
    refine X108.arraylength hx (by rw [e108]; exact Ar_bv108_21.1) (State.isArrayOf_alike hZ107.alike Ar_bv108_21.2.1) (g := (mkF m 21 #[.val (.ref a1), .val (.ref a107), .val (.ref bv108), .unset, .unset, .unset] [(.ref bv108)])) rfl rfl (hb hby d5_21) _ ?_
    rw [len_of S_bv108_21 N_bv108_21]
    show Steps p.tables e below (T108.setTop (mkF m 22 #[.val (.ref a1), .val (.ref a107), .val (.ref bv108), .unset, .unset, .unset] [(.int (6 : Int32))])) _
    refine XS.istoreN X108.here hx rfl (hb hby d5_22) rfl (l' := #[.val (.ref a1), .val (.ref a107), .val (.ref bv108), .val (.int (6 : Int32)), .unset, .unset]) rfl ?_
    show Steps p.tables e below (T108.setTop (mkF m 23 #[.val (.ref a1), .val (.ref a107), .val (.ref bv108), .val (.int (6 : Int32)), .unset, .unset] [])) _
    refine XS.iconst X108.here hx rfl (hb hby d5_23) ?_
    show Steps p.tables e below (T108.setTop (mkF m 24 #[.val (.ref a1), .val (.ref a107), .val (.ref bv108), .val (.int (6 : Int32)), .unset, .unset] [(.int (0 : Int32))])) _
    refine XS.istore X108.here hx rfl (hb hby d5_24) rfl (l' := #[.val (.ref a1), .val (.ref a107), .val (.ref bv108), .val (.int (6 : Int32)), .val (.int (0 : Int32)), .unset]) rfl ?_
    show Steps p.tables e below (T108.setTop (mkF m 26 #[.val (.ref a1), .val (.ref a107), .val (.ref bv108), .val (.int (6 : Int32)), .val (.int (0 : Int32)), .unset] [])) _
    refine XS.iload X108.here hx rfl (hb hby d5_26) rfl ?_
    show Steps p.tables e below (T108.setTop (mkF m 28 #[.val (.ref a1), .val (.ref a107), .val (.ref bv108), .val (.int (6 : Int32)), .val (.int (0 : Int32)), .unset] [(.int (0 : Int32))])) _
    refine XS.iloadN X108.here hx rfl (hb hby d5_28) rfl ?_
    show Steps p.tables e below (T108.setTop (mkF m 29 #[.val (.ref a1), .val (.ref a107), .val (.ref bv108), .val (.int (6 : Int32)), .val (.int (0 : Int32)), .unset] [(.int (6 : Int32)), (.int (0 : Int32))])) _
    refine XS.icmpNo X108.here hx rfl (hb hby d5_29) rfl (tlt (by decide : (0 : Int32) < (6 : Int32))).2.1 ?_
    show Steps p.tables e below (T108.setTop (mkF m 32 #[.val (.ref a1), .val (.ref a107), .val (.ref bv108), .val (.int (6 : Int32)), .val (.int (0 : Int32)), .unset] [])) _
    refine XS.aloadN X108.here hx rfl (hb hby d5_32) rfl rfl ?_
    show Steps p.tables e below (T108.setTop (mkF m 33 #[.val (.ref a1), .val (.ref a107), .val (.ref bv108), .val (.int (6 : Int32)), .val (.int (0 : Int32)), .unset] [(.ref bv108)])) _
    refine XS.iload X108.here hx rfl (hb hby d5_33) rfl ?_
    show Steps p.tables e below (T108.setTop (mkF m 35 #[.val (.ref a1), .val (.ref a107), .val (.ref bv108), .val (.int (6 : Int32)), .val (.int (0 : Int32)), .unset] [(.int (0 : Int32)), (.ref bv108)])) _
    refine X108.aaload hx (j := (0 : Int32)) (v := (.ref w0)) (by rw [e108]; exact Ar_bv108_40.1) (State.isArrayOf_alike hZ107.alike Ar_bv108_40.2.1) rfl Ar_bv108_40.2.2 hinbv108_40 hatbv108_40 (g := (mkF m 35 #[.val (.ref a1), .val (.ref a107), .val (.ref bv108), .val (.int (6 : Int32)), .val (.int (0 : Int32)), .unset] [(.int (0 : Int32)), (.ref bv108)])) rfl rfl (hb hby d5_35) _ ?_
    show Steps p.tables e below (T108.setTop (mkF m 36 #[.val (.ref a1), .val (.ref a107), .val (.ref bv108), .val (.int (6 : Int32)), .val (.int (0 : Int32)), .unset] [(.ref w0)])) _
    refine XS.astore X108.here hx rfl (hb hby d5_36) rfl rfl (l' := #[.val (.ref a1), .val (.ref a107), .val (.ref bv108), .val (.int (6 : Int32)), .val (.int (0 : Int32)), .val (.ref w0)]) rfl ?_
    show Steps p.tables e below (T108.setTop (mkF m 38 #[.val (.ref a1), .val (.ref a107), .val (.ref bv108), .val (.int (6 : Int32)), .val (.int (0 : Int32)), .val (.ref w0)] [])) _
    refine XS.aload X108.here hx rfl (hb hby d5_38) rfl rfl ?_
    show Steps p.tables e below (T108.setTop (mkF m 40 #[.val (.ref a1), .val (.ref a107), .val (.ref bv108), .val (.int (6 : Int32)), .val (.int (0 : Int32)), .val (.ref w0)] [(.ref w0)])) _
    refine st109 _ ?_
    show Steps p.tables e below (T109.setTop (mkF m 43 #[.val (.ref a1), .val (.ref a107), .val (.ref bv108), .val (.int (6 : Int32)), .val (.int (0 : Int32)), .val (.ref w0)] [(.ref s0)])) _
    refine XS.aloadN X109.here hx rfl (hb hby d5_43) rfl rfl ?_
    show Steps p.tables e below (T109.setTop (mkF m 44 #[.val (.ref a1), .val (.ref a107), .val (.ref bv108), .val (.int (6 : Int32)), .val (.int (0 : Int32)), .val (.ref w0)] [(.ref a107), (.ref s0)])) _
    refine st114.trans ?_
    show Steps p.tables e below (T114.setTop (mkF m 47 #[.val (.ref a1), .val (.ref a107), .val (.ref bv108), .val (.int (6 : Int32)), .val (.int (0 : Int32)), .val (.ref w0)] [(.int (0 : Int32))])) _
    refine XS.ifYes X114.here hx rfl (pc0 := 47) (pc' := 53) rfl (hb hby d5_47) rfl ((if0 _ _).trans (teq (by decide : (0 : Int32) = (0 : Int32))).1) (by decide) (by decide) ?_
    show Steps p.tables e below (T114.setTop (mkF m 53 #[.val (.ref a1), .val (.ref a107), .val (.ref bv108), .val (.int (6 : Int32)), .val (.int (0 : Int32)), .val (.ref w0)] [])) _
    refine XS.iinc X114.here hx rfl (hb hby d5_53) rfl (l' := #[.val (.ref a1), .val (.ref a107), .val (.ref bv108), .val (.int (6 : Int32)), .val (.int (1 : Int32)), .val (.ref w0)]) rfl ?_
    show Steps p.tables e below (T114.setTop (mkF m 56 #[.val (.ref a1), .val (.ref a107), .val (.ref bv108), .val (.int (6 : Int32)), .val (.int (1 : Int32)), .val (.ref w0)] [])) _
    refine XS.goto X114.here hx rfl (pc0 := 56) (pc' := 26) rfl (hb hby d5_56) (by decide) (by decide) ?_
    show Steps p.tables e below (T114.setTop (mkF m 26 #[.val (.ref a1), .val (.ref a107), .val (.ref bv108), .val (.int (6 : Int32)), .val (.int (1 : Int32)), .val (.ref w0)] [])) _
    refine XS.iload X114.here hx rfl (hb hby d5_26) rfl ?_
    show Steps p.tables e below (T114.setTop (mkF m 28 #[.val (.ref a1), .val (.ref a107), .val (.ref bv108), .val (.int (6 : Int32)), .val (.int (1 : Int32)), .val (.ref w0)] [(.int (1 : Int32))])) _
    refine XS.iloadN X114.here hx rfl (hb hby d5_28) rfl ?_
    show Steps p.tables e below (T114.setTop (mkF m 29 #[.val (.ref a1), .val (.ref a107), .val (.ref bv108), .val (.int (6 : Int32)), .val (.int (1 : Int32)), .val (.ref w0)] [(.int (6 : Int32)), (.int (1 : Int32))])) _
    refine XS.icmpNo X114.here hx rfl (hb hby d5_29) rfl (tlt (by decide : (1 : Int32) < (6 : Int32))).2.1 ?_
    show Steps p.tables e below (T114.setTop (mkF m 32 #[.val (.ref a1), .val (.ref a107), .val (.ref bv108), .val (.int (6 : Int32)), .val (.int (1 : Int32)), .val (.ref w0)] [])) _
    refine XS.aloadN X114.here hx rfl (hb hby d5_32) rfl rfl ?_
    show Steps p.tables e below (T114.setTop (mkF m 33 #[.val (.ref a1), .val (.ref a107), .val (.ref bv108), .val (.int (6 : Int32)), .val (.int (1 : Int32)), .val (.ref w0)] [(.ref bv108)])) _
    refine XS.iload X114.here hx rfl (hb hby d5_33) rfl ?_
    show Steps p.tables e below (T114.setTop (mkF m 35 #[.val (.ref a1), .val (.ref a107), .val (.ref bv108), .val (.int (6 : Int32)), .val (.int (1 : Int32)), .val (.ref w0)] [(.int (1 : Int32)), (.ref bv108)])) _
    refine X114.aaload hx (j := (1 : Int32)) (v := (.ref w1)) (by rw [e114]; exact Ar_bv108_68.1) (State.isArrayOf_alike hZ107.alike Ar_bv108_68.2.1) rfl Ar_bv108_68.2.2 hinbv108_68 hatbv108_68 (g := (mkF m 35 #[.val (.ref a1), .val (.ref a107), .val (.ref bv108), .val (.int (6 : Int32)), .val (.int (1 : Int32)), .val (.ref w0)] [(.int (1 : Int32)), (.ref bv108)])) rfl rfl (hb hby d5_35) _ ?_
    show Steps p.tables e below (T114.setTop (mkF m 36 #[.val (.ref a1), .val (.ref a107), .val (.ref bv108), .val (.int (6 : Int32)), .val (.int (1 : Int32)), .val (.ref w0)] [(.ref w1)])) _
    refine XS.astore X114.here hx rfl (hb hby d5_36) rfl rfl (l' := #[.val (.ref a1), .val (.ref a107), .val (.ref bv108), .val (.int (6 : Int32)), .val (.int (1 : Int32)), .val (.ref w1)]) rfl ?_
    show Steps p.tables e below (T114.setTop (mkF m 38 #[.val (.ref a1), .val (.ref a107), .val (.ref bv108), .val (.int (6 : Int32)), .val (.int (1 : Int32)), .val (.ref w1)] [])) _
    refine XS.aload X114.here hx rfl (hb hby d5_38) rfl rfl ?_
    show Steps p.tables e below (T114.setTop (mkF m 40 #[.val (.ref a1), .val (.ref a107), .val (.ref bv108), .val (.int (6 : Int32)), .val (.int (1 : Int32)), .val (.ref w1)] [(.ref w1)])) _
    refine st115 _ ?_
    show Steps p.tables e below (T115.setTop (mkF m 43 #[.val (.ref a1), .val (.ref a107), .val (.ref bv108), .val (.int (6 : Int32)), .val (.int (1 : Int32)), .val (.ref w1)] [(.ref s1)])) _
    refine XS.aloadN X115.here hx rfl (hb hby d5_43) rfl rfl ?_
    show Steps p.tables e below (T115.setTop (mkF m 44 #[.val (.ref a1), .val (.ref a107), .val (.ref bv108), .val (.int (6 : Int32)), .val (.int (1 : Int32)), .val (.ref w1)] [(.ref a107), (.ref s1)])) _
    refine st116.trans ?_
    show Steps p.tables e below (T116.setTop (mkF m 47 #[.val (.ref a1), .val (.ref a107), .val (.ref bv108), .val (.int (6 : Int32)), .val (.int (1 : Int32)), .val (.ref w1)] [(.int (1 : Int32))])) _
    refine XS.ifNo X116.here hx rfl (hb hby d5_47) rfl ((if0 _ _).trans (feq (by decide : ¬ ((1 : Int32) = (0 : Int32)))).1) ?_
    show Steps p.tables e below (T116.setTop (mkF m 50 #[.val (.ref a1), .val (.ref a107), .val (.ref bv108), .val (.int (6 : Int32)), .val (.int (1 : Int32)), .val (.ref w1)] [])) _
    refine XS.aload X116.here hx rfl (hb hby d5_50) rfl rfl ?_
    show Steps p.tables e below (T116.setTop (mkF m 52 #[.val (.ref a1), .val (.ref a107), .val (.ref bv108), .val (.int (6 : Int32)), .val (.int (1 : Int32)), .val (.ref w1)] [(.ref w1)])) _
    jvm_step X116.here [X116.here.top, hx, (hb hby d5_52), X116.method', Bd.returns, Value.isRef, FieldType.isReference]
    first | (intro acts; rw [hr _ acts rfl rfl rfl]) | rw [hr _ _ rfl rfl rfl]
    exact Steps.refl _
  · show Q5 (.ref w1) h0 n0 _ T116.heap _
    rw [e116]
    exact ⟨rfl, N116, KK108⟩
set_option maxRecDepth 65536 in
set_option maxHeartbeats 40000000 in
theorem rm5_0 (l : Launch) (Z : State) (a0 : Array Value) (hw : ∀ d ∈ tables_1, d.before a0 Z = true) (ws : List Jvm.Cond) (G1 : Int32) (kV : ClassId) (wV w0 w1 w2 w3 w4 w5 : Addr) (s0 s1 s2 s3 s4 s5 : Addr) (a1 : Addr) (cs : List Int32) (h0 : Heap) (n0 : Nat) (O0 : Old Z n0 h0) (S_CS : Sta Z Z.heap "java/lang/String" "COMPACT_STRINGS" "Z" (.int G1)) (hG1 : ¬ (G1 = (0 : Int32))) (S_V : Sta Z Z.heap "com/example/plugroot/plugroot/sql/Comparison" "$VALUES" "[Lcom/example/plugroot/plugroot/sql/Comparison;" (.ref wV)) (A_V : Arv Z Z.heap wV kV (.object "com/example/plugroot/plugroot/sql/Comparison") (6 : Int32) [(.ref w0), (.ref w1), (.ref w2), (.ref w3), (.ref w4), (.ref w5)] .null) (E_V : Exa Z Z.heap wV "[Lcom/example/plugroot/plugroot/sql/Comparison;") (M0 : Fld Z Z.heap w0 "com/example/plugroot/plugroot/sql/Comparison" "symbol" "Ljava/lang/String;" (.ref s0)) (M1 : Fld Z Z.heap w1 "com/example/plugroot/plugroot/sql/Comparison" "symbol" "Ljava/lang/String;" (.ref s1)) (M2 : Fld Z Z.heap w2 "com/example/plugroot/plugroot/sql/Comparison" "symbol" "Ljava/lang/String;" (.ref s2)) (M3 : Fld Z Z.heap w3 "com/example/plugroot/plugroot/sql/Comparison" "symbol" "Ljava/lang/String;" (.ref s3)) (M4 : Fld Z Z.heap w4 "com/example/plugroot/plugroot/sql/Comparison" "symbol" "Ljava/lang/String;" (.ref s4)) (M5 : Fld Z Z.heap w5 "com/example/plugroot/plugroot/sql/Comparison" "symbol" "Ljava/lang/String;" (.ref s5)) (T0 : Str Z Z.heap s0 ([(61 : Int32)] : List Int32)) (T1 : Str Z Z.heap s1 ([(60 : Int32), (62 : Int32)] : List Int32)) (T2 : Str Z Z.heap s2 ([(60 : Int32)] : List Int32)) (T3 : Str Z Z.heap s3 ([(62 : Int32)] : List Int32)) (T4 : Str Z Z.heap s4 ([(60 : Int32), (61 : Int32)] : List Int32)) (T5 : Str Z Z.heap s5 ([(62 : Int32), (61 : Int32)] : List Int32)) (T : Str Z h0 a1 cs) (hbg : ¬ cs = [33, 61]) (g0_ : cs = [61]) :
    MetFree l (⟨"com/example/plugroot/plugroot/sql/Comparison", "of", "(Ljava/lang/String;)Lcom/example/plugroot/plugroot/sql/Comparison;"⟩ : MethodName) (head1 (Jvm.Cond.code (⟨"com/example/plugroot/plugroot/sql/Comparison", "of", "(Ljava/lang/String;)Lcom/example/plugroot/plugroot/sql/Comparison;"⟩ : MethodName) prog_73_method_4_code 6 (some (.object "com/example/plugroot/plugroot/sql/Comparison")) :: ws) ({ frames := 2, cells := 5, slots := 30, locals := 28 } : Room)) (fun a_ U => a_ = #[(.ref a1)] ∧ Z.Warmed39 U.vm ∧ U.heap = h0 ∧ CHv Z consts_1 U.vm h0) (fun _ _ _ _ _ => True) (fun _ U o U' => ∃ v L, o = .returned v ∧ Q5 (.ref w0) h0 n0 v U'.heap L ∧ CHr Z consts_1 U.vm U.heap U'.vm U'.heap ∧ ReturnedEndW U o U' L ({ frames := 2, cells := 5, slots := 30, locals := 28 } : Room).cells ({ frames := 2, cells := 5, slots := 30, locals := 28 } : Room).slots) := by
  refine MetFree.of_bodySF (plainFor_of_name pn_1) hisR ?_
  intro p e s m args below meth c s₁ Bd hml0 hP hK
  obtain ⟨rfl, hZ, hh, hC⟩ := hP
  have hx := Bd.exec
  have hby := Bd.bytes
  have hml : c.maxLocals = 6 := hml0
  have hown : s.vm.findClass "com/example/plugroot/plugroot/sql/Comparison" = some m.cls := findClass_of_methodNamed Bd.named
  have hnm := (name_of_methodNamed Bd.named Bd.method).1
  have X0 : Stand p l e ({ frames := 2, cells := 5, slots := 30, locals := 28 } : Room) (s.setVm s.vm) m #[(.ref a1)] below meth c s₁ [] 0 0 := Stand.of_body Bd
  have e0 : s₁.heap = h0 := by rw [← hh, Bd.state]; rfl
  have N0 := Fr.nil n0
  have pre0 : ∀ tg, Steps p.tables e below (s₁.setTop (mkF m 0 #[.val (.ref a1), .unset, .unset, .unset, .unset, .unset] [])) tg → Steps p.tables e below (s₁.setTop (entryFrame m #[(.ref a1)] 6)) tg := fun tg kq => castTop (ef_R_6 m a1) kq
  have hS0 : s.Since s.vm h0.size := (State.WarmedH.refl s).since _
  have hk0 : h0.size ≤ h0.size := Nat.le_refl _
  have CR0 : CHr Z consts_1 s.vm h0 s.vm h0 := CHr.refl hC
  obtain ⟨tm0, kbm0, Nm0, vsm0, sEm0, sVm0, sCm0, sKm0, scdm0, shpm0, shlm0⟩ := id T0
  obtain ⟨tm1, kbm1, Nm1, vsm1, sEm1, sVm1, sCm1, sKm1, scdm1, shpm1, shlm1⟩ := id T1
  obtain ⟨tm2, kbm2, Nm2, vsm2, sEm2, sVm2, sCm2, sKm2, scdm2, shpm2, shlm2⟩ := id T2
  obtain ⟨tm3, kbm3, Nm3, vsm3, sEm3, sVm3, sCm3, sKm3, scdm3, shpm3, shlm3⟩ := id T3
  obtain ⟨tm4, kbm4, Nm4, vsm4, sEm4, sVm4, sCm4, sKm4, scdm4, shpm4, shlm4⟩ := id T4
  obtain ⟨tm5, kbm5, Nm5, vsm5, sEm5, sVm5, sCm5, sKm5, scdm5, shpm5, shlm5⟩ := id T5
  obtain ⟨ta, kba, Na, vsa, sEa, sVa, sCa, sKa, scda, shpa, shla⟩ := id T
  obtain ⟨a101, T101, h101, k101, b101, kb101, X101, e101, E101, hS101, hk101, hZ101, hown101, lE101, lC101, lV101, lK101, la101, lb101, CS101, lL101, lne101, st101⟩ := ldcCH (s := s) (EL := consts_1) X0 hx hZ hown (wi hw 30 rfl) (fun d hd => hw d (own_strw d hd)) e0 hS0 hk0 (own_EW hw) (by decide) CR0.1 (vs := [(.int (33 : Int32)), (.int (61 : Int32))]) (z := (2 : Int32)) ⟨by decide, by decide⟩ (by decide) (by decide) (g := (mkF m 1 #[.val (.ref a1), .unset, .unset, .unset, .unset, .unset] [(.ref a1)])) rfl (hb hby d5_1) (n := 8) (by decide) (by decide) (by decide) (by decide)
  have O101 := O0.ext E101
  have CR101 := CR0.trans CS101
  have KK101 : Keep h0 h101 [] := (Keep.refl h0 []).ext E101
  have lcd101 : StrChars.Road.CodA ([(33 : Int32), (61 : Int32)] : List Int32) 0 (2 : Int32) [(.int (33 : Int32)), (.int (61 : Int32))] := Or.inl ⟨rfl, rfl, rfl, by decide⟩
  have lhp101 : ∀ c ∈ ([(33 : Int32), (61 : Int32)] : List Int32), ¬ c < 0 ∧ ¬ (255 : Int32) < c := by decide
  have fE_a1_1_102 := (sEa.ext E101)
  have fString_value_1_103 := (sVa.ext E101)
  have fString_coder_1_104 := (sCa.ext E101)
  have fV_ta_1_105 := (sKa.ext E101)
  obtain ⟨cq106, kq106, q106a, q106b, q106c⟩ := isOf hZ101 e101 fE_a1_1_102
  obtain ⟨_, _, ⟨T106, L106, k106, n106⟩, -, X106, ⟨Lc106, hQ106, l106, y106, z106⟩, st106⟩ := X101.virtualBack hx (y := (⟨"java/lang/String", "equals", "(Ljava/lang/Object;)Z"⟩ : MethodName)) (z := (⟨"java/lang/String", "equals", "(Ljava/lang/Object;)Z"⟩ : MethodName)) hown101 (mvT hZ101 (wi hw 31 rfl)) (mvT hZ101 (wi hw 32 rfl)) (notFace_of_selects (args := #[]) (mvT hZ101 (wi hw 34 rfl))) (mvT hZ101 (wi hw 34 rfl)) (mvT hZ101 (wi hw 33 rfl)) (by decide) (StrChars.Road.eqW (W := 0) hZ101 (fun d hd => hw d (own_w_eqW d hd)) (kI := 4) (wi hw 6 rfl) fE_a1_1_102 fString_value_1_103 fString_coder_1_104 fV_ta_1_105 scda (own_up _ shpa) shla lE101 lV101 lC101 lK101 lcd101 (own_up _ lhp101) (by decide) (S_CS.ext O101.2) hG1 (by decide) (by decide)) q106a q106c (g := (mkF m 3 #[.val (.ref a1), .unset, .unset, .unset, .unset, .unset] [(.ref a101), (.ref a1)])) rfl (by rw [hml]; rfl) (Steps.refl _) (argsL := [(.ref a101)]) (rest := []) (lenOf pd_0 rfl) rfl (by show 2 * 0 + _ ≤ _; exact Nat.le_of_eq rfl) (hb hby d5_3) (fun _ _ => ⟨rfl, e101, (by decide : 2 + 0 ≤ _), (by decide : 12 + 0 ≤ _)⟩)
  dsimp only [Pt.U, Pt.locs, Pt.cells, Pt.slots] at X106 l106 y106 z106 st106 hQ106
  subst l106 y106 z106
  obtain ⟨hv106, rfl, hh106⟩ := hQ106
  obtain rfl := (hv106.resolve_left (fun q => (hbg : ¬ cs = ([(33 : Int32), (61 : Int32)] : List Int32)) q.2)).1
  have N106q : Fr n0 ([] : List Loc) := Fr.nil n0
  have e106 : T106.heap = h101 := hh106
  have N106 := Fr.app N0 N106q
  obtain ⟨_, _, ⟨T107, L107, k107, n107⟩, -, X107, ⟨Lc107, hQ107, l107, y107, z107⟩, st107⟩ := Jvm.LawKit.callS X106 hx (y := (⟨"com/example/plugroot/plugroot/sql/Comparison", "values", "()[Lcom/example/plugroot/plugroot/sql/Comparison;"⟩ : MethodName)) hown101 (mvT hZ101 (wi hw 42 rfl)) (mvT hZ101 (wi hw 43 rfl)) (mvT hZ101 (wi hw 28 rfl)) (mvT hZ101 (wi hw 44 rfl)) (by decide) (backOf (W := 0) (rm8 l Z a0 hw [] kV wV w0 w1 w2 w3 w4 w5 h101 n0 O101 S_V A_V E_V) hZ101 (wi hw 44 rfl) (wi hw 28 rfl) (by decide) (by decide)) (g := (mkF m 16 #[.val (.ref a1), .val (.ref a1), .unset, .unset, .unset, .unset] [])) rfl (by rw [hml]; rfl) (argsL := []) (rest := []) (lenOf pd_1 rfl) rfl (by show 2 * 0 + _ ≤ _; exact Nat.le_of_eq rfl) (hb hby d5_16) (fun _ _ => ⟨rfl, e106, (by decide : 2 + 1 ≤ _), (by decide : 12 + 6 ≤ _)⟩)
  dsimp only [Pt.U, Pt.locs, Pt.cells, Pt.slots] at X107 l107 y107 z107 st107 hQ107
  subst l107 y107 z107
  obtain ⟨bv107, rfl, N107q, K107, szv107, Av107⟩ := hQ107
  obtain ⟨h107, e107⟩ : ∃ z, T107.heap = z := ⟨_, rfl⟩
  rw [e107] at K107 Av107
  have g_bv107 : n0 ≤ bv107 := Nat.le_trans (O101.1 ▸ O101.2.1) szv107
  have sz_bv107 : h0.size ≤ bv107 := Nat.le_trans KK101.1 szv107
  have O107 := O101.keep K107 all0
  have CS107 := CHr.keep K107 sf0 CR101.1
  have CR107 := CR101.trans CS107
  have KK107 : Keep h0 h107 [] := KK101.trans K107 all0
  have N107 := Fr.app N106 N107q
  obtain ⟨cl_bv107_19, Ar_bv107_19, -, S_bv107_19, N_bv107_19, -, -⟩ := id (Av107)
  obtain ⟨cl_bv107_38, Ar_bv107_38, q_bv107_38, S_bv107_38, N_bv107_38, H_bv107_38, G_bv107_38⟩ := id (Av107)
  have hinbv107_38 : ¬ ((0 : Int32) < 0 ∨ cl_bv107_38.slots.size ≤ ((0 : Int32)).toNatClampNeg) := inb_of S_bv107_38 ⟨by decide, by decide⟩
  have hatbv107_38 : cl_bv107_38.slots[((0 : Int32)).toNatClampNeg]? = some (.ref w0) := H_bv107_38.at hinbv107_38 rfl
  obtain ⟨T108, X108, e108, st108⟩ := getF X107 hx hZ101 hown101 (host := "") (Or.inl (wi hw 63 rfl)) Via.refl e107 (M0.ext O107.2) (g := (mkF m 40 #[.val (.ref a1), .val (.ref a1), .val (.ref bv107), .val (.int (6 : Int32)), .val (.int (0 : Int32)), .val (.ref w0)] [(.ref w0)])) rfl rfl (hb hby d5_40)
  have fE_a1_2_109 := (fE_a1_1_102.keep K107)
  have fString_value_2_110 := (fString_value_1_103.keep K107 nin0)
  have fString_coder_2_111 := (fString_coder_1_104.keep K107 nin0)
  have fV_ta_2_112 := (fV_ta_1_105.keep K107 nin0)
  obtain ⟨cq113, kq113, q113a, q113b, q113c⟩ := isOf hZ101 e108 (sEm0.ext O107.2)
  obtain ⟨_, _, ⟨T113, L113, k113, n113⟩, -, X113, ⟨Lc113, hQ113, l113, y113, z113⟩, st113⟩ := X108.virtualBack hx (y := (⟨"java/lang/String", "equals", "(Ljava/lang/Object;)Z"⟩ : MethodName)) (z := (⟨"java/lang/String", "equals", "(Ljava/lang/Object;)Z"⟩ : MethodName)) hown101 (mvT hZ101 (wi hw 31 rfl)) (mvT hZ101 (wi hw 32 rfl)) (notFace_of_selects (args := #[]) (mvT hZ101 (wi hw 34 rfl))) (mvT hZ101 (wi hw 34 rfl)) (mvT hZ101 (wi hw 33 rfl)) (by decide) (StrChars.Road.eqW (W := 0) hZ101 (fun d hd => hw d (own_w_eqW d hd)) (kI := 4) (wi hw 6 rfl) (sEm0.ext O107.2) (sVm0.ext O107.2) (sCm0.ext O107.2) (sKm0.ext O107.2) scdm0 (own_up _ shpm0) shlm0 fE_a1_2_109 fString_value_2_110 fString_coder_2_111 fV_ta_2_112 scda (own_up _ shpa) shla (S_CS.ext O107.2) hG1 (by decide) (by decide)) q113a q113c (g := (mkF m 44 #[.val (.ref a1), .val (.ref a1), .val (.ref bv107), .val (.int (6 : Int32)), .val (.int (0 : Int32)), .val (.ref w0)] [(.ref a1), (.ref s0)])) rfl (by rw [hml]; rfl) (Steps.refl _) (argsL := [(.ref a1)]) (rest := []) (lenOf pd_0 rfl) rfl (by show 2 * 0 + _ ≤ _; exact Nat.le_of_eq rfl) (hb hby d5_44) (fun _ _ => ⟨rfl, e108, (by decide : 3 + 0 ≤ _), (by decide : 18 + 0 ≤ _)⟩)
  dsimp only [Pt.U, Pt.locs, Pt.cells, Pt.slots] at X113 l113 y113 z113 st113 hQ113
  subst l113 y113 z113
  obtain ⟨hv113, rfl, hh113⟩ := hQ113
  obtain rfl := (hv113.resolve_right (fun q => q.2 (g0_.symm : ([(61 : Int32)] : List Int32) = cs))).1
  have N113q : Fr n0 ([] : List Loc) := Fr.nil n0
  have e113 : T113.heap = h107 := hh113
  have N113 := Fr.app N107 N113q
  obtain ⟨fs, hr, hrun, hended, hREW⟩ := X113.leaveW hS101 (by rw [e113]; exact (Nat.le_trans hk101 K107.1)) (v := some (.ref w0)) (fun h => by rw [Bd.returns] at h; cases h)
  refine ⟨_, _, pre0 _ ?_, hrun, hended, _, _, rfl, ?_, (by rw [hh]; show CHr Z consts_1 s.vm h0 T113.vm T113.heap; rw [e113]; exact CR107.trans (CHv.at X113 hZ101 (own_EW hw) CR107.1)), hREW.1, hREW.2.1, hREW.2.2.1, hREW.2.2.2.mono (by decide) (by decide)⟩
  · show Steps p.tables e below (s₁.setTop (mkF m 0 #[.val (.ref a1), .unset, .unset, .unset, .unset, .unset] [])) _
    refine XS.aloadN X0.here hx rfl (hb hby d5_0) rfl rfl ?_
    show Steps p.tables e below (s₁.setTop (mkF m 1 #[.val (.ref a1), .unset, .unset, .unset, .unset, .unset] [(.ref a1)])) _
    refine st101 _ ?_
    show Steps p.tables e below (T101.setTop (mkF m 3 #[.val (.ref a1), .unset, .unset, .unset, .unset, .unset] [(.ref a101), (.ref a1)])) _
    refine st106.trans ?_
    show Steps p.tables e below (T106.setTop (mkF m 6 #[.val (.ref a1), .unset, .unset, .unset, .unset, .unset] [(.int (0 : Int32))])) _
    refine XS.ifYes X106.here hx rfl (pc0 := 6) (pc' := 14) rfl (hb hby d5_6) rfl ((if0 _ _).trans (teq (by decide : (0 : Int32) = (0 : Int32))).1) (by decide) (by decide) ?_
    show Steps p.tables e below (T106.setTop (mkF m 14 #[.val (.ref a1), .unset, .unset, .unset, .unset, .unset] [])) _
    refine XS.aloadN X106.here hx rfl (hb hby d5_14) rfl rfl ?_
    show Steps p.tables e below (T106.setTop (mkF m 15 #[.val (.ref a1), .unset, .unset, .unset, .unset, .unset] [(.ref a1)])) _
    refine XS.astoreN X106.here hx rfl (hb hby d5_15) rfl rfl (l' := #[.val (.ref a1), .val (.ref a1), .unset, .unset, .unset, .unset]) rfl ?_
    show Steps p.tables e below (T106.setTop (mkF m 16 #[.val (.ref a1), .val (.ref a1), .unset, .unset, .unset, .unset] [])) _
    refine st107 _ ?_
    show Steps p.tables e below (T107.setTop (mkF m 19 #[.val (.ref a1), .val (.ref a1), .unset, .unset, .unset, .unset] [(.ref bv107)])) _
    refine XS.astoreN X107.here hx rfl (hb hby d5_19) rfl rfl (l' := #[.val (.ref a1), .val (.ref a1), .val (.ref bv107), .unset, .unset, .unset]) rfl ?_
    show Steps p.tables e below (T107.setTop (mkF m 20 #[.val (.ref a1), .val (.ref a1), .val (.ref bv107), .unset, .unset, .unset] [])) _
    refine XS.aloadN X107.here hx rfl (hb hby d5_20) rfl rfl ?_
    show Steps p.tables e below (T107.setTop (mkF m 21 #[.val (.ref a1), .val (.ref a1), .val (.ref bv107), .unset, .unset, .unset] [(.ref bv107)])) _
    refine X107.arraylength hx (by rw [e107]; exact Ar_bv107_19.1) (State.isArrayOf_alike hZ101.alike Ar_bv107_19.2.1) (g := (mkF m 21 #[.val (.ref a1), .val (.ref a1), .val (.ref bv107), .unset, .unset, .unset] [(.ref bv107)])) rfl rfl (hb hby d5_21) _ ?_
    rw [len_of S_bv107_19 N_bv107_19]
    show Steps p.tables e below (T107.setTop (mkF m 22 #[.val (.ref a1), .val (.ref a1), .val (.ref bv107), .unset, .unset, .unset] [(.int (6 : Int32))])) _
    refine XS.istoreN X107.here hx rfl (hb hby d5_22) rfl (l' := #[.val (.ref a1), .val (.ref a1), .val (.ref bv107), .val (.int (6 : Int32)), .unset, .unset]) rfl ?_
    show Steps p.tables e below (T107.setTop (mkF m 23 #[.val (.ref a1), .val (.ref a1), .val (.ref bv107), .val (.int (6 : Int32)), .unset, .unset] [])) _
    refine XS.iconst X107.here hx rfl (hb hby d5_23) ?_
    show Steps p.tables e below (T107.setTop (mkF m 24 #[.val (.ref a1), .val (.ref a1), .val (.ref bv107), .val (.int (6 : Int32)), .unset, .unset] [(.int (0 : Int32))])) _
    refine XS.istore X107.here hx rfl (hb hby d5_24) rfl (l' := #[.val (.ref a1), .val (.ref a1), .val (.ref bv107), .val (.int (6 : Int32)), .val (.int (0 : Int32)), .unset]) rfl ?_
    show Steps p.tables e below (T107.setTop (mkF m 26 #[.val (.ref a1), .val (.ref a1), .val (.ref bv107), .val (.int (6 : Int32)), .val (.int (0 : Int32)), .unset] [])) _
    refine XS.iload X107.here hx rfl (hb hby d5_26) rfl ?_
    show Steps p.tables e below (T107.setTop (mkF m 28 #[.val (.ref a1), .val (.ref a1), .val (.ref bv107), .val (.int (6 : Int32)), .val (.int (0 : Int32)), .unset] [(.int (0 : Int32))])) _
    refine XS.iloadN X107.here hx rfl (hb hby d5_28) rfl ?_
    show Steps p.tables e below (T107.setTop (mkF m 29 #[.val (.ref a1), .val (.ref a1), .val (.ref bv107), .val (.int (6 : Int32)), .val (.int (0 : Int32)), .unset] [(.int (6 : Int32)), (.int (0 : Int32))])) _
    refine XS.icmpNo X107.here hx rfl (hb hby d5_29) rfl (tlt (by decide : (0 : Int32) < (6 : Int32))).2.1 ?_
    show Steps p.tables e below (T107.setTop (mkF m 32 #[.val (.ref a1), .val (.ref a1), .val (.ref bv107), .val (.int (6 : Int32)), .val (.int (0 : Int32)), .unset] [])) _
    refine XS.aloadN X107.here hx rfl (hb hby d5_32) rfl rfl ?_
    show Steps p.tables e below (T107.setTop (mkF m 33 #[.val (.ref a1), .val (.ref a1), .val (.ref bv107), .val (.int (6 : Int32)), .val (.int (0 : Int32)), .unset] [(.ref bv107)])) _
    refine XS.iload X107.here hx rfl (hb hby d5_33) rfl ?_
    show Steps p.tables e below (T107.setTop (mkF m 35 #[.val (.ref a1), .val (.ref a1), .val (.ref bv107), .val (.int (6 : Int32)), .val (.int (0 : Int32)), .unset] [(.int (0 : Int32)), (.ref bv107)])) _
    refine X107.aaload hx (j := (0 : Int32)) (v := (.ref w0)) (by rw [e107]; exact Ar_bv107_38.1) (State.isArrayOf_alike hZ101.alike Ar_bv107_38.2.1) rfl Ar_bv107_38.2.2 hinbv107_38 hatbv107_38 (g := (mkF m 35 #[.val (.ref a1), .val (.ref a1), .val (.ref bv107), .val (.int (6 : Int32)), .val (.int (0 : Int32)), .unset] [(.int (0 : Int32)), (.ref bv107)])) rfl rfl (hb hby d5_35) _ ?_
    show Steps p.tables e below (T107.setTop (mkF m 36 #[.val (.ref a1), .val (.ref a1), .val (.ref bv107), .val (.int (6 : Int32)), .val (.int (0 : Int32)), .unset] [(.ref w0)])) _
    refine XS.astore X107.here hx rfl (hb hby d5_36) rfl rfl (l' := #[.val (.ref a1), .val (.ref a1), .val (.ref bv107), .val (.int (6 : Int32)), .val (.int (0 : Int32)), .val (.ref w0)]) rfl ?_
    show Steps p.tables e below (T107.setTop (mkF m 38 #[.val (.ref a1), .val (.ref a1), .val (.ref bv107), .val (.int (6 : Int32)), .val (.int (0 : Int32)), .val (.ref w0)] [])) _
    refine XS.aload X107.here hx rfl (hb hby d5_38) rfl rfl ?_
    show Steps p.tables e below (T107.setTop (mkF m 40 #[.val (.ref a1), .val (.ref a1), .val (.ref bv107), .val (.int (6 : Int32)), .val (.int (0 : Int32)), .val (.ref w0)] [(.ref w0)])) _
    refine st108 _ ?_
    show Steps p.tables e below (T108.setTop (mkF m 43 #[.val (.ref a1), .val (.ref a1), .val (.ref bv107), .val (.int (6 : Int32)), .val (.int (0 : Int32)), .val (.ref w0)] [(.ref s0)])) _
    refine XS.aloadN X108.here hx rfl (hb hby d5_43) rfl rfl ?_
    show Steps p.tables e below (T108.setTop (mkF m 44 #[.val (.ref a1), .val (.ref a1), .val (.ref bv107), .val (.int (6 : Int32)), .val (.int (0 : Int32)), .val (.ref w0)] [(.ref a1), (.ref s0)])) _
    refine st113.trans ?_
    show Steps p.tables e below (T113.setTop (mkF m 47 #[.val (.ref a1), .val (.ref a1), .val (.ref bv107), .val (.int (6 : Int32)), .val (.int (0 : Int32)), .val (.ref w0)] [(.int (1 : Int32))])) _
    refine XS.ifNo X113.here hx rfl (hb hby d5_47) rfl ((if0 _ _).trans (feq (by decide : ¬ ((1 : Int32) = (0 : Int32)))).1) ?_
    show Steps p.tables e below (T113.setTop (mkF m 50 #[.val (.ref a1), .val (.ref a1), .val (.ref bv107), .val (.int (6 : Int32)), .val (.int (0 : Int32)), .val (.ref w0)] [])) _
    refine XS.aload X113.here hx rfl (hb hby d5_50) rfl rfl ?_
    show Steps p.tables e below (T113.setTop (mkF m 52 #[.val (.ref a1), .val (.ref a1), .val (.ref bv107), .val (.int (6 : Int32)), .val (.int (0 : Int32)), .val (.ref w0)] [(.ref w0)])) _
    jvm_step X113.here [X113.here.top, hx, (hb hby d5_52), X113.method', Bd.returns, Value.isRef, FieldType.isReference]
    first | (intro acts; rw [hr _ acts rfl rfl rfl]) | rw [hr _ _ rfl rfl rfl]
    exact Steps.refl _
  · show Q5 (.ref w0) h0 n0 _ T113.heap _
    rw [e113]
    exact ⟨rfl, N113, KK107⟩
set_option maxRecDepth 65536 in
set_option maxHeartbeats 40000000 in
theorem rm5_1 (l : Launch) (Z : State) (a0 : Array Value) (hw : ∀ d ∈ tables_1, d.before a0 Z = true) (ws : List Jvm.Cond) (G1 : Int32) (kV : ClassId) (wV w0 w1 w2 w3 w4 w5 : Addr) (s0 s1 s2 s3 s4 s5 : Addr) (a1 : Addr) (cs : List Int32) (h0 : Heap) (n0 : Nat) (O0 : Old Z n0 h0) (S_CS : Sta Z Z.heap "java/lang/String" "COMPACT_STRINGS" "Z" (.int G1)) (hG1 : ¬ (G1 = (0 : Int32))) (S_V : Sta Z Z.heap "com/example/plugroot/plugroot/sql/Comparison" "$VALUES" "[Lcom/example/plugroot/plugroot/sql/Comparison;" (.ref wV)) (A_V : Arv Z Z.heap wV kV (.object "com/example/plugroot/plugroot/sql/Comparison") (6 : Int32) [(.ref w0), (.ref w1), (.ref w2), (.ref w3), (.ref w4), (.ref w5)] .null) (E_V : Exa Z Z.heap wV "[Lcom/example/plugroot/plugroot/sql/Comparison;") (M0 : Fld Z Z.heap w0 "com/example/plugroot/plugroot/sql/Comparison" "symbol" "Ljava/lang/String;" (.ref s0)) (M1 : Fld Z Z.heap w1 "com/example/plugroot/plugroot/sql/Comparison" "symbol" "Ljava/lang/String;" (.ref s1)) (M2 : Fld Z Z.heap w2 "com/example/plugroot/plugroot/sql/Comparison" "symbol" "Ljava/lang/String;" (.ref s2)) (M3 : Fld Z Z.heap w3 "com/example/plugroot/plugroot/sql/Comparison" "symbol" "Ljava/lang/String;" (.ref s3)) (M4 : Fld Z Z.heap w4 "com/example/plugroot/plugroot/sql/Comparison" "symbol" "Ljava/lang/String;" (.ref s4)) (M5 : Fld Z Z.heap w5 "com/example/plugroot/plugroot/sql/Comparison" "symbol" "Ljava/lang/String;" (.ref s5)) (T0 : Str Z Z.heap s0 ([(61 : Int32)] : List Int32)) (T1 : Str Z Z.heap s1 ([(60 : Int32), (62 : Int32)] : List Int32)) (T2 : Str Z Z.heap s2 ([(60 : Int32)] : List Int32)) (T3 : Str Z Z.heap s3 ([(62 : Int32)] : List Int32)) (T4 : Str Z Z.heap s4 ([(60 : Int32), (61 : Int32)] : List Int32)) (T5 : Str Z Z.heap s5 ([(62 : Int32), (61 : Int32)] : List Int32)) (T : Str Z h0 a1 cs) (hbg : ¬ cs = [33, 61]) (g0_ : ¬ cs = [61]) (g1_ : cs = [60, 62]) :
    MetFree l (⟨"com/example/plugroot/plugroot/sql/Comparison", "of", "(Ljava/lang/String;)Lcom/example/plugroot/plugroot/sql/Comparison;"⟩ : MethodName) (head1 (Jvm.Cond.code (⟨"com/example/plugroot/plugroot/sql/Comparison", "of", "(Ljava/lang/String;)Lcom/example/plugroot/plugroot/sql/Comparison;"⟩ : MethodName) prog_73_method_4_code 6 (some (.object "com/example/plugroot/plugroot/sql/Comparison")) :: ws) ({ frames := 2, cells := 5, slots := 30, locals := 28 } : Room)) (fun a_ U => a_ = #[(.ref a1)] ∧ Z.Warmed39 U.vm ∧ U.heap = h0 ∧ CHv Z consts_1 U.vm h0) (fun _ _ _ _ _ => True) (fun _ U o U' => ∃ v L, o = .returned v ∧ Q5 (.ref w1) h0 n0 v U'.heap L ∧ CHr Z consts_1 U.vm U.heap U'.vm U'.heap ∧ ReturnedEndW U o U' L ({ frames := 2, cells := 5, slots := 30, locals := 28 } : Room).cells ({ frames := 2, cells := 5, slots := 30, locals := 28 } : Room).slots) := by
  refine MetFree.of_bodySF (plainFor_of_name pn_1) hisR ?_
  intro p e s m args below meth c s₁ Bd hml0 hP hK
  obtain ⟨rfl, hZ, hh, hC⟩ := hP
  have hx := Bd.exec
  have hby := Bd.bytes
  have hml : c.maxLocals = 6 := hml0
  have hown : s.vm.findClass "com/example/plugroot/plugroot/sql/Comparison" = some m.cls := findClass_of_methodNamed Bd.named
  have hnm := (name_of_methodNamed Bd.named Bd.method).1
  have X0 : Stand p l e ({ frames := 2, cells := 5, slots := 30, locals := 28 } : Room) (s.setVm s.vm) m #[(.ref a1)] below meth c s₁ [] 0 0 := Stand.of_body Bd
  have e0 : s₁.heap = h0 := by rw [← hh, Bd.state]; rfl
  have N0 := Fr.nil n0
  have pre0 : ∀ tg, Steps p.tables e below (s₁.setTop (mkF m 0 #[.val (.ref a1), .unset, .unset, .unset, .unset, .unset] [])) tg → Steps p.tables e below (s₁.setTop (entryFrame m #[(.ref a1)] 6)) tg := fun tg kq => castTop (ef_R_6 m a1) kq
  have hS0 : s.Since s.vm h0.size := (State.WarmedH.refl s).since _
  have hk0 : h0.size ≤ h0.size := Nat.le_refl _
  have CR0 : CHr Z consts_1 s.vm h0 s.vm h0 := CHr.refl hC
  obtain ⟨tm0, kbm0, Nm0, vsm0, sEm0, sVm0, sCm0, sKm0, scdm0, shpm0, shlm0⟩ := id T0
  obtain ⟨tm1, kbm1, Nm1, vsm1, sEm1, sVm1, sCm1, sKm1, scdm1, shpm1, shlm1⟩ := id T1
  obtain ⟨tm2, kbm2, Nm2, vsm2, sEm2, sVm2, sCm2, sKm2, scdm2, shpm2, shlm2⟩ := id T2
  obtain ⟨tm3, kbm3, Nm3, vsm3, sEm3, sVm3, sCm3, sKm3, scdm3, shpm3, shlm3⟩ := id T3
  obtain ⟨tm4, kbm4, Nm4, vsm4, sEm4, sVm4, sCm4, sKm4, scdm4, shpm4, shlm4⟩ := id T4
  obtain ⟨tm5, kbm5, Nm5, vsm5, sEm5, sVm5, sCm5, sKm5, scdm5, shpm5, shlm5⟩ := id T5
  obtain ⟨ta, kba, Na, vsa, sEa, sVa, sCa, sKa, scda, shpa, shla⟩ := id T
  obtain ⟨a101, T101, h101, k101, b101, kb101, X101, e101, E101, hS101, hk101, hZ101, hown101, lE101, lC101, lV101, lK101, la101, lb101, CS101, lL101, lne101, st101⟩ := ldcCH (s := s) (EL := consts_1) X0 hx hZ hown (wi hw 30 rfl) (fun d hd => hw d (own_strw d hd)) e0 hS0 hk0 (own_EW hw) (by decide) CR0.1 (vs := [(.int (33 : Int32)), (.int (61 : Int32))]) (z := (2 : Int32)) ⟨by decide, by decide⟩ (by decide) (by decide) (g := (mkF m 1 #[.val (.ref a1), .unset, .unset, .unset, .unset, .unset] [(.ref a1)])) rfl (hb hby d5_1) (n := 8) (by decide) (by decide) (by decide) (by decide)
  have O101 := O0.ext E101
  have CR101 := CR0.trans CS101
  have KK101 : Keep h0 h101 [] := (Keep.refl h0 []).ext E101
  have lcd101 : StrChars.Road.CodA ([(33 : Int32), (61 : Int32)] : List Int32) 0 (2 : Int32) [(.int (33 : Int32)), (.int (61 : Int32))] := Or.inl ⟨rfl, rfl, rfl, by decide⟩
  have lhp101 : ∀ c ∈ ([(33 : Int32), (61 : Int32)] : List Int32), ¬ c < 0 ∧ ¬ (255 : Int32) < c := by decide
  have fE_a1_1_102 := (sEa.ext E101)
  have fString_value_1_103 := (sVa.ext E101)
  have fString_coder_1_104 := (sCa.ext E101)
  have fV_ta_1_105 := (sKa.ext E101)
  obtain ⟨cq106, kq106, q106a, q106b, q106c⟩ := isOf hZ101 e101 fE_a1_1_102
  obtain ⟨_, _, ⟨T106, L106, k106, n106⟩, -, X106, ⟨Lc106, hQ106, l106, y106, z106⟩, st106⟩ := X101.virtualBack hx (y := (⟨"java/lang/String", "equals", "(Ljava/lang/Object;)Z"⟩ : MethodName)) (z := (⟨"java/lang/String", "equals", "(Ljava/lang/Object;)Z"⟩ : MethodName)) hown101 (mvT hZ101 (wi hw 31 rfl)) (mvT hZ101 (wi hw 32 rfl)) (notFace_of_selects (args := #[]) (mvT hZ101 (wi hw 34 rfl))) (mvT hZ101 (wi hw 34 rfl)) (mvT hZ101 (wi hw 33 rfl)) (by decide) (StrChars.Road.eqW (W := 0) hZ101 (fun d hd => hw d (own_w_eqW d hd)) (kI := 4) (wi hw 6 rfl) fE_a1_1_102 fString_value_1_103 fString_coder_1_104 fV_ta_1_105 scda (own_up _ shpa) shla lE101 lV101 lC101 lK101 lcd101 (own_up _ lhp101) (by decide) (S_CS.ext O101.2) hG1 (by decide) (by decide)) q106a q106c (g := (mkF m 3 #[.val (.ref a1), .unset, .unset, .unset, .unset, .unset] [(.ref a101), (.ref a1)])) rfl (by rw [hml]; rfl) (Steps.refl _) (argsL := [(.ref a101)]) (rest := []) (lenOf pd_0 rfl) rfl (by show 2 * 0 + _ ≤ _; exact Nat.le_of_eq rfl) (hb hby d5_3) (fun _ _ => ⟨rfl, e101, (by decide : 2 + 0 ≤ _), (by decide : 12 + 0 ≤ _)⟩)
  dsimp only [Pt.U, Pt.locs, Pt.cells, Pt.slots] at X106 l106 y106 z106 st106 hQ106
  subst l106 y106 z106
  obtain ⟨hv106, rfl, hh106⟩ := hQ106
  obtain rfl := (hv106.resolve_left (fun q => (hbg : ¬ cs = ([(33 : Int32), (61 : Int32)] : List Int32)) q.2)).1
  have N106q : Fr n0 ([] : List Loc) := Fr.nil n0
  have e106 : T106.heap = h101 := hh106
  have N106 := Fr.app N0 N106q
  obtain ⟨_, _, ⟨T107, L107, k107, n107⟩, -, X107, ⟨Lc107, hQ107, l107, y107, z107⟩, st107⟩ := Jvm.LawKit.callS X106 hx (y := (⟨"com/example/plugroot/plugroot/sql/Comparison", "values", "()[Lcom/example/plugroot/plugroot/sql/Comparison;"⟩ : MethodName)) hown101 (mvT hZ101 (wi hw 42 rfl)) (mvT hZ101 (wi hw 43 rfl)) (mvT hZ101 (wi hw 28 rfl)) (mvT hZ101 (wi hw 44 rfl)) (by decide) (backOf (W := 0) (rm8 l Z a0 hw [] kV wV w0 w1 w2 w3 w4 w5 h101 n0 O101 S_V A_V E_V) hZ101 (wi hw 44 rfl) (wi hw 28 rfl) (by decide) (by decide)) (g := (mkF m 16 #[.val (.ref a1), .val (.ref a1), .unset, .unset, .unset, .unset] [])) rfl (by rw [hml]; rfl) (argsL := []) (rest := []) (lenOf pd_1 rfl) rfl (by show 2 * 0 + _ ≤ _; exact Nat.le_of_eq rfl) (hb hby d5_16) (fun _ _ => ⟨rfl, e106, (by decide : 2 + 1 ≤ _), (by decide : 12 + 6 ≤ _)⟩)
  dsimp only [Pt.U, Pt.locs, Pt.cells, Pt.slots] at X107 l107 y107 z107 st107 hQ107
  subst l107 y107 z107
  obtain ⟨bv107, rfl, N107q, K107, szv107, Av107⟩ := hQ107
  obtain ⟨h107, e107⟩ : ∃ z, T107.heap = z := ⟨_, rfl⟩
  rw [e107] at K107 Av107
  have g_bv107 : n0 ≤ bv107 := Nat.le_trans (O101.1 ▸ O101.2.1) szv107
  have sz_bv107 : h0.size ≤ bv107 := Nat.le_trans KK101.1 szv107
  have O107 := O101.keep K107 all0
  have CS107 := CHr.keep K107 sf0 CR101.1
  have CR107 := CR101.trans CS107
  have KK107 : Keep h0 h107 [] := KK101.trans K107 all0
  have N107 := Fr.app N106 N107q
  obtain ⟨cl_bv107_19, Ar_bv107_19, -, S_bv107_19, N_bv107_19, -, -⟩ := id (Av107)
  obtain ⟨cl_bv107_38, Ar_bv107_38, q_bv107_38, S_bv107_38, N_bv107_38, H_bv107_38, G_bv107_38⟩ := id (Av107)
  have hinbv107_38 : ¬ ((0 : Int32) < 0 ∨ cl_bv107_38.slots.size ≤ ((0 : Int32)).toNatClampNeg) := inb_of S_bv107_38 ⟨by decide, by decide⟩
  have hatbv107_38 : cl_bv107_38.slots[((0 : Int32)).toNatClampNeg]? = some (.ref w0) := H_bv107_38.at hinbv107_38 rfl
  obtain ⟨T108, X108, e108, st108⟩ := getF X107 hx hZ101 hown101 (host := "") (Or.inl (wi hw 63 rfl)) Via.refl e107 (M0.ext O107.2) (g := (mkF m 40 #[.val (.ref a1), .val (.ref a1), .val (.ref bv107), .val (.int (6 : Int32)), .val (.int (0 : Int32)), .val (.ref w0)] [(.ref w0)])) rfl rfl (hb hby d5_40)
  have fE_a1_2_109 := (fE_a1_1_102.keep K107)
  have fString_value_2_110 := (fString_value_1_103.keep K107 nin0)
  have fString_coder_2_111 := (fString_coder_1_104.keep K107 nin0)
  have fV_ta_2_112 := (fV_ta_1_105.keep K107 nin0)
  obtain ⟨cq113, kq113, q113a, q113b, q113c⟩ := isOf hZ101 e108 (sEm0.ext O107.2)
  obtain ⟨_, _, ⟨T113, L113, k113, n113⟩, -, X113, ⟨Lc113, hQ113, l113, y113, z113⟩, st113⟩ := X108.virtualBack hx (y := (⟨"java/lang/String", "equals", "(Ljava/lang/Object;)Z"⟩ : MethodName)) (z := (⟨"java/lang/String", "equals", "(Ljava/lang/Object;)Z"⟩ : MethodName)) hown101 (mvT hZ101 (wi hw 31 rfl)) (mvT hZ101 (wi hw 32 rfl)) (notFace_of_selects (args := #[]) (mvT hZ101 (wi hw 34 rfl))) (mvT hZ101 (wi hw 34 rfl)) (mvT hZ101 (wi hw 33 rfl)) (by decide) (StrChars.Road.eqW (W := 0) hZ101 (fun d hd => hw d (own_w_eqW d hd)) (kI := 4) (wi hw 6 rfl) (sEm0.ext O107.2) (sVm0.ext O107.2) (sCm0.ext O107.2) (sKm0.ext O107.2) scdm0 (own_up _ shpm0) shlm0 fE_a1_2_109 fString_value_2_110 fString_coder_2_111 fV_ta_2_112 scda (own_up _ shpa) shla (S_CS.ext O107.2) hG1 (by decide) (by decide)) q113a q113c (g := (mkF m 44 #[.val (.ref a1), .val (.ref a1), .val (.ref bv107), .val (.int (6 : Int32)), .val (.int (0 : Int32)), .val (.ref w0)] [(.ref a1), (.ref s0)])) rfl (by rw [hml]; rfl) (Steps.refl _) (argsL := [(.ref a1)]) (rest := []) (lenOf pd_0 rfl) rfl (by show 2 * 0 + _ ≤ _; exact Nat.le_of_eq rfl) (hb hby d5_44) (fun _ _ => ⟨rfl, e108, (by decide : 3 + 0 ≤ _), (by decide : 18 + 0 ≤ _)⟩)
  dsimp only [Pt.U, Pt.locs, Pt.cells, Pt.slots] at X113 l113 y113 z113 st113 hQ113
  subst l113 y113 z113
  obtain ⟨hv113, rfl, hh113⟩ := hQ113
  obtain rfl := (hv113.resolve_left (fun q => ((fun z => g0_ z.symm) : ¬ ([(61 : Int32)] : List Int32) = cs) q.2)).1
  have N113q : Fr n0 ([] : List Loc) := Fr.nil n0
  have e113 : T113.heap = h107 := hh113
  have N113 := Fr.app N107 N113q
  obtain ⟨cl_bv107_66, Ar_bv107_66, q_bv107_66, S_bv107_66, N_bv107_66, H_bv107_66, G_bv107_66⟩ := id (Av107)
  have hinbv107_66 : ¬ ((1 : Int32) < 0 ∨ cl_bv107_66.slots.size ≤ ((1 : Int32)).toNatClampNeg) := inb_of S_bv107_66 ⟨by decide, by decide⟩
  have hatbv107_66 : cl_bv107_66.slots[((1 : Int32)).toNatClampNeg]? = some (.ref w1) := H_bv107_66.at hinbv107_66 rfl
  obtain ⟨T114, X114, e114, st114⟩ := getF X113 hx hZ101 hown101 (host := "") (Or.inl (wi hw 63 rfl)) Via.refl e113 (M1.ext O107.2) (g := (mkF m 40 #[.val (.ref a1), .val (.ref a1), .val (.ref bv107), .val (.int (6 : Int32)), .val (.int (1 : Int32)), .val (.ref w1)] [(.ref w1)])) rfl rfl (hb hby d5_40)
  obtain ⟨cq115, kq115, q115a, q115b, q115c⟩ := isOf hZ101 e114 (sEm1.ext O107.2)
  obtain ⟨_, _, ⟨T115, L115, k115, n115⟩, -, X115, ⟨Lc115, hQ115, l115, y115, z115⟩, st115⟩ := X114.virtualBack hx (y := (⟨"java/lang/String", "equals", "(Ljava/lang/Object;)Z"⟩ : MethodName)) (z := (⟨"java/lang/String", "equals", "(Ljava/lang/Object;)Z"⟩ : MethodName)) hown101 (mvT hZ101 (wi hw 31 rfl)) (mvT hZ101 (wi hw 32 rfl)) (notFace_of_selects (args := #[]) (mvT hZ101 (wi hw 34 rfl))) (mvT hZ101 (wi hw 34 rfl)) (mvT hZ101 (wi hw 33 rfl)) (by decide) (StrChars.Road.eqW (W := 0) hZ101 (fun d hd => hw d (own_w_eqW d hd)) (kI := 4) (wi hw 6 rfl) (sEm1.ext O107.2) (sVm1.ext O107.2) (sCm1.ext O107.2) (sKm1.ext O107.2) scdm1 (own_up _ shpm1) shlm1 fE_a1_2_109 fString_value_2_110 fString_coder_2_111 fV_ta_2_112 scda (own_up _ shpa) shla (S_CS.ext O107.2) hG1 (by decide) (by decide)) q115a q115c (g := (mkF m 44 #[.val (.ref a1), .val (.ref a1), .val (.ref bv107), .val (.int (6 : Int32)), .val (.int (1 : Int32)), .val (.ref w1)] [(.ref a1), (.ref s1)])) rfl (by rw [hml]; rfl) (Steps.refl _) (argsL := [(.ref a1)]) (rest := []) (lenOf pd_0 rfl) rfl (by show 2 * 0 + _ ≤ _; exact Nat.le_of_eq rfl) (hb hby d5_44) (fun _ _ => ⟨rfl, e114, (by decide : 3 + 0 ≤ _), (by decide : 18 + 0 ≤ _)⟩)
  dsimp only [Pt.U, Pt.locs, Pt.cells, Pt.slots] at X115 l115 y115 z115 st115 hQ115
  subst l115 y115 z115
  obtain ⟨hv115, rfl, hh115⟩ := hQ115
  obtain rfl := (hv115.resolve_right (fun q => q.2 (g1_.symm : ([(60 : Int32), (62 : Int32)] : List Int32) = cs))).1
  have N115q : Fr n0 ([] : List Loc) := Fr.nil n0
  have e115 : T115.heap = h107 := hh115
  have N115 := Fr.app N113 N115q
  obtain ⟨fs, hr, hrun, hended, hREW⟩ := X115.leaveW hS101 (by rw [e115]; exact (Nat.le_trans hk101 K107.1)) (v := some (.ref w1)) (fun h => by rw [Bd.returns] at h; cases h)
  refine ⟨_, _, pre0 _ ?_, hrun, hended, _, _, rfl, ?_, (by rw [hh]; show CHr Z consts_1 s.vm h0 T115.vm T115.heap; rw [e115]; exact CR107.trans (CHv.at X115 hZ101 (own_EW hw) CR107.1)), hREW.1, hREW.2.1, hREW.2.2.1, hREW.2.2.2.mono (by decide) (by decide)⟩
  · show Steps p.tables e below (s₁.setTop (mkF m 0 #[.val (.ref a1), .unset, .unset, .unset, .unset, .unset] [])) _
    refine XS.aloadN X0.here hx rfl (hb hby d5_0) rfl rfl ?_
    show Steps p.tables e below (s₁.setTop (mkF m 1 #[.val (.ref a1), .unset, .unset, .unset, .unset, .unset] [(.ref a1)])) _
    refine st101 _ ?_
    show Steps p.tables e below (T101.setTop (mkF m 3 #[.val (.ref a1), .unset, .unset, .unset, .unset, .unset] [(.ref a101), (.ref a1)])) _
    refine st106.trans ?_
    show Steps p.tables e below (T106.setTop (mkF m 6 #[.val (.ref a1), .unset, .unset, .unset, .unset, .unset] [(.int (0 : Int32))])) _
    refine XS.ifYes X106.here hx rfl (pc0 := 6) (pc' := 14) rfl (hb hby d5_6) rfl ((if0 _ _).trans (teq (by decide : (0 : Int32) = (0 : Int32))).1) (by decide) (by decide) ?_
    show Steps p.tables e below (T106.setTop (mkF m 14 #[.val (.ref a1), .unset, .unset, .unset, .unset, .unset] [])) _
    refine XS.aloadN X106.here hx rfl (hb hby d5_14) rfl rfl ?_
    show Steps p.tables e below (T106.setTop (mkF m 15 #[.val (.ref a1), .unset, .unset, .unset, .unset, .unset] [(.ref a1)])) _
    refine XS.astoreN X106.here hx rfl (hb hby d5_15) rfl rfl (l' := #[.val (.ref a1), .val (.ref a1), .unset, .unset, .unset, .unset]) rfl ?_
    show Steps p.tables e below (T106.setTop (mkF m 16 #[.val (.ref a1), .val (.ref a1), .unset, .unset, .unset, .unset] [])) _
    refine st107 _ ?_
    show Steps p.tables e below (T107.setTop (mkF m 19 #[.val (.ref a1), .val (.ref a1), .unset, .unset, .unset, .unset] [(.ref bv107)])) _
    refine XS.astoreN X107.here hx rfl (hb hby d5_19) rfl rfl (l' := #[.val (.ref a1), .val (.ref a1), .val (.ref bv107), .unset, .unset, .unset]) rfl ?_
    show Steps p.tables e below (T107.setTop (mkF m 20 #[.val (.ref a1), .val (.ref a1), .val (.ref bv107), .unset, .unset, .unset] [])) _
    refine XS.aloadN X107.here hx rfl (hb hby d5_20) rfl rfl ?_
    show Steps p.tables e below (T107.setTop (mkF m 21 #[.val (.ref a1), .val (.ref a1), .val (.ref bv107), .unset, .unset, .unset] [(.ref bv107)])) _
    refine X107.arraylength hx (by rw [e107]; exact Ar_bv107_19.1) (State.isArrayOf_alike hZ101.alike Ar_bv107_19.2.1) (g := (mkF m 21 #[.val (.ref a1), .val (.ref a1), .val (.ref bv107), .unset, .unset, .unset] [(.ref bv107)])) rfl rfl (hb hby d5_21) _ ?_
    rw [len_of S_bv107_19 N_bv107_19]
    show Steps p.tables e below (T107.setTop (mkF m 22 #[.val (.ref a1), .val (.ref a1), .val (.ref bv107), .unset, .unset, .unset] [(.int (6 : Int32))])) _
    refine XS.istoreN X107.here hx rfl (hb hby d5_22) rfl (l' := #[.val (.ref a1), .val (.ref a1), .val (.ref bv107), .val (.int (6 : Int32)), .unset, .unset]) rfl ?_
    show Steps p.tables e below (T107.setTop (mkF m 23 #[.val (.ref a1), .val (.ref a1), .val (.ref bv107), .val (.int (6 : Int32)), .unset, .unset] [])) _
    refine XS.iconst X107.here hx rfl (hb hby d5_23) ?_
    show Steps p.tables e below (T107.setTop (mkF m 24 #[.val (.ref a1), .val (.ref a1), .val (.ref bv107), .val (.int (6 : Int32)), .unset, .unset] [(.int (0 : Int32))])) _
    refine XS.istore X107.here hx rfl (hb hby d5_24) rfl (l' := #[.val (.ref a1), .val (.ref a1), .val (.ref bv107), .val (.int (6 : Int32)), .val (.int (0 : Int32)), .unset]) rfl ?_
    show Steps p.tables e below (T107.setTop (mkF m 26 #[.val (.ref a1), .val (.ref a1), .val (.ref bv107), .val (.int (6 : Int32)), .val (.int (0 : Int32)), .unset] [])) _
    refine XS.iload X107.here hx rfl (hb hby d5_26) rfl ?_
    show Steps p.tables e below (T107.setTop (mkF m 28 #[.val (.ref a1), .val (.ref a1), .val (.ref bv107), .val (.int (6 : Int32)), .val (.int (0 : Int32)), .unset] [(.int (0 : Int32))])) _
    refine XS.iloadN X107.here hx rfl (hb hby d5_28) rfl ?_
    show Steps p.tables e below (T107.setTop (mkF m 29 #[.val (.ref a1), .val (.ref a1), .val (.ref bv107), .val (.int (6 : Int32)), .val (.int (0 : Int32)), .unset] [(.int (6 : Int32)), (.int (0 : Int32))])) _
    refine XS.icmpNo X107.here hx rfl (hb hby d5_29) rfl (tlt (by decide : (0 : Int32) < (6 : Int32))).2.1 ?_
    show Steps p.tables e below (T107.setTop (mkF m 32 #[.val (.ref a1), .val (.ref a1), .val (.ref bv107), .val (.int (6 : Int32)), .val (.int (0 : Int32)), .unset] [])) _
    refine XS.aloadN X107.here hx rfl (hb hby d5_32) rfl rfl ?_
    show Steps p.tables e below (T107.setTop (mkF m 33 #[.val (.ref a1), .val (.ref a1), .val (.ref bv107), .val (.int (6 : Int32)), .val (.int (0 : Int32)), .unset] [(.ref bv107)])) _
    refine XS.iload X107.here hx rfl (hb hby d5_33) rfl ?_
    show Steps p.tables e below (T107.setTop (mkF m 35 #[.val (.ref a1), .val (.ref a1), .val (.ref bv107), .val (.int (6 : Int32)), .val (.int (0 : Int32)), .unset] [(.int (0 : Int32)), (.ref bv107)])) _
    refine X107.aaload hx (j := (0 : Int32)) (v := (.ref w0)) (by rw [e107]; exact Ar_bv107_38.1) (State.isArrayOf_alike hZ101.alike Ar_bv107_38.2.1) rfl Ar_bv107_38.2.2 hinbv107_38 hatbv107_38 (g := (mkF m 35 #[.val (.ref a1), .val (.ref a1), .val (.ref bv107), .val (.int (6 : Int32)), .val (.int (0 : Int32)), .unset] [(.int (0 : Int32)), (.ref bv107)])) rfl rfl (hb hby d5_35) _ ?_
    show Steps p.tables e below (T107.setTop (mkF m 36 #[.val (.ref a1), .val (.ref a1), .val (.ref bv107), .val (.int (6 : Int32)), .val (.int (0 : Int32)), .unset] [(.ref w0)])) _
    refine XS.astore X107.here hx rfl (hb hby d5_36) rfl rfl (l' := #[.val (.ref a1), .val (.ref a1), .val (.ref bv107), .val (.int (6 : Int32)), .val (.int (0 : Int32)), .val (.ref w0)]) rfl ?_
    show Steps p.tables e below (T107.setTop (mkF m 38 #[.val (.ref a1), .val (.ref a1), .val (.ref bv107), .val (.int (6 : Int32)), .val (.int (0 : Int32)), .val (.ref w0)] [])) _
    refine XS.aload X107.here hx rfl (hb hby d5_38) rfl rfl ?_
    show Steps p.tables e below (T107.setTop (mkF m 40 #[.val (.ref a1), .val (.ref a1), .val (.ref bv107), .val (.int (6 : Int32)), .val (.int (0 : Int32)), .val (.ref w0)] [(.ref w0)])) _
    refine st108 _ ?_
    show Steps p.tables e below (T108.setTop (mkF m 43 #[.val (.ref a1), .val (.ref a1), .val (.ref bv107), .val (.int (6 : Int32)), .val (.int (0 : Int32)), .val (.ref w0)] [(.ref s0)])) _
    refine XS.aloadN X108.here hx rfl (hb hby d5_43) rfl rfl ?_
    show Steps p.tables e below (T108.setTop (mkF m 44 #[.val (.ref a1), .val (.ref a1), .val (.ref bv107), .val (.int (6 : Int32)), .val (.int (0 : Int32)), .val (.ref w0)] [(.ref a1), (.ref s0)])) _
    refine st113.trans ?_
    show Steps p.tables e below (T113.setTop (mkF m 47 #[.val (.ref a1), .val (.ref a1), .val (.ref bv107), .val (.int (6 : Int32)), .val (.int (0 : Int32)), .val (.ref w0)] [(.int (0 : Int32))])) _
    refine XS.ifYes X113.here hx rfl (pc0 := 47) (pc' := 53) rfl (hb hby d5_47) rfl ((if0 _ _).trans (teq (by decide : (0 : Int32) = (0 : Int32))).1) (by decide) (by decide) ?_
    show Steps p.tables e below (T113.setTop (mkF m 53 #[.val (.ref a1), .val (.ref a1), .val (.ref bv107), .val (.int (6 : Int32)), .val (.int (0 : Int32)), .val (.ref w0)] [])) _
    refine XS.iinc X113.here hx rfl (hb hby d5_53) rfl (l' := #[.val (.ref a1), .val (.ref a1), .val (.ref bv107), .val (.int (6 : Int32)), .val (.int (1 : Int32)), .val (.ref w0)]) rfl ?_
    show Steps p.tables e below (T113.setTop (mkF m 56 #[.val (.ref a1), .val (.ref a1), .val (.ref bv107), .val (.int (6 : Int32)), .val (.int (1 : Int32)), .val (.ref w0)] [])) _
    refine XS.goto X113.here hx rfl (pc0 := 56) (pc' := 26) rfl (hb hby d5_56) (by decide) (by decide) ?_
    show Steps p.tables e below (T113.setTop (mkF m 26 #[.val (.ref a1), .val (.ref a1), .val (.ref bv107), .val (.int (6 : Int32)), .val (.int (1 : Int32)), .val (.ref w0)] [])) _
    refine XS.iload X113.here hx rfl (hb hby d5_26) rfl ?_
    show Steps p.tables e below (T113.setTop (mkF m 28 #[.val (.ref a1), .val (.ref a1), .val (.ref bv107), .val (.int (6 : Int32)), .val (.int (1 : Int32)), .val (.ref w0)] [(.int (1 : Int32))])) _
    refine XS.iloadN X113.here hx rfl (hb hby d5_28) rfl ?_
    show Steps p.tables e below (T113.setTop (mkF m 29 #[.val (.ref a1), .val (.ref a1), .val (.ref bv107), .val (.int (6 : Int32)), .val (.int (1 : Int32)), .val (.ref w0)] [(.int (6 : Int32)), (.int (1 : Int32))])) _
    refine XS.icmpNo X113.here hx rfl (hb hby d5_29) rfl (tlt (by decide : (1 : Int32) < (6 : Int32))).2.1 ?_
    show Steps p.tables e below (T113.setTop (mkF m 32 #[.val (.ref a1), .val (.ref a1), .val (.ref bv107), .val (.int (6 : Int32)), .val (.int (1 : Int32)), .val (.ref w0)] [])) _
    refine XS.aloadN X113.here hx rfl (hb hby d5_32) rfl rfl ?_
    show Steps p.tables e below (T113.setTop (mkF m 33 #[.val (.ref a1), .val (.ref a1), .val (.ref bv107), .val (.int (6 : Int32)), .val (.int (1 : Int32)), .val (.ref w0)] [(.ref bv107)])) _
    refine XS.iload X113.here hx rfl (hb hby d5_33) rfl ?_
    show Steps p.tables e below (T113.setTop (mkF m 35 #[.val (.ref a1), .val (.ref a1), .val (.ref bv107), .val (.int (6 : Int32)), .val (.int (1 : Int32)), .val (.ref w0)] [(.int (1 : Int32)), (.ref bv107)])) _
    refine X113.aaload hx (j := (1 : Int32)) (v := (.ref w1)) (by rw [e113]; exact Ar_bv107_66.1) (State.isArrayOf_alike hZ101.alike Ar_bv107_66.2.1) rfl Ar_bv107_66.2.2 hinbv107_66 hatbv107_66 (g := (mkF m 35 #[.val (.ref a1), .val (.ref a1), .val (.ref bv107), .val (.int (6 : Int32)), .val (.int (1 : Int32)), .val (.ref w0)] [(.int (1 : Int32)), (.ref bv107)])) rfl rfl (hb hby d5_35) _ ?_
    show Steps p.tables e below (T113.setTop (mkF m 36 #[.val (.ref a1), .val (.ref a1), .val (.ref bv107), .val (.int (6 : Int32)), .val (.int (1 : Int32)), .val (.ref w0)] [(.ref w1)])) _
    refine XS.astore X113.here hx rfl (hb hby d5_36) rfl rfl (l' := #[.val (.ref a1), .val (.ref a1), .val (.ref bv107), .val (.int (6 : Int32)), .val (.int (1 : Int32)), .val (.ref w1)]) rfl ?_
    show Steps p.tables e below (T113.setTop (mkF m 38 #[.val (.ref a1), .val (.ref a1), .val (.ref bv107), .val (.int (6 : Int32)), .val (.int (1 : Int32)), .val (.ref w1)] [])) _
    refine XS.aload X113.here hx rfl (hb hby d5_38) rfl rfl ?_
    show Steps p.tables e below (T113.setTop (mkF m 40 #[.val (.ref a1), .val (.ref a1), .val (.ref bv107), .val (.int (6 : Int32)), .val (.int (1 : Int32)), .val (.ref w1)] [(.ref w1)])) _
    refine st114 _ ?_
    show Steps p.tables e below (T114.setTop (mkF m 43 #[.val (.ref a1), .val (.ref a1), .val (.ref bv107), .val (.int (6 : Int32)), .val (.int (1 : Int32)), .val (.ref w1)] [(.ref s1)])) _
    refine XS.aloadN X114.here hx rfl (hb hby d5_43) rfl rfl ?_
    show Steps p.tables e below (T114.setTop (mkF m 44 #[.val (.ref a1), .val (.ref a1), .val (.ref bv107), .val (.int (6 : Int32)), .val (.int (1 : Int32)), .val (.ref w1)] [(.ref a1), (.ref s1)])) _
    refine st115.trans ?_
    show Steps p.tables e below (T115.setTop (mkF m 47 #[.val (.ref a1), .val (.ref a1), .val (.ref bv107), .val (.int (6 : Int32)), .val (.int (1 : Int32)), .val (.ref w1)] [(.int (1 : Int32))])) _
    refine XS.ifNo X115.here hx rfl (hb hby d5_47) rfl ((if0 _ _).trans (feq (by decide : ¬ ((1 : Int32) = (0 : Int32)))).1) ?_
    show Steps p.tables e below (T115.setTop (mkF m 50 #[.val (.ref a1), .val (.ref a1), .val (.ref bv107), .val (.int (6 : Int32)), .val (.int (1 : Int32)), .val (.ref w1)] [])) _
    refine XS.aload X115.here hx rfl (hb hby d5_50) rfl rfl ?_
    show Steps p.tables e below (T115.setTop (mkF m 52 #[.val (.ref a1), .val (.ref a1), .val (.ref bv107), .val (.int (6 : Int32)), .val (.int (1 : Int32)), .val (.ref w1)] [(.ref w1)])) _
    jvm_step X115.here [X115.here.top, hx, (hb hby d5_52), X115.method', Bd.returns, Value.isRef, FieldType.isReference]
    first | (intro acts; rw [hr _ acts rfl rfl rfl]) | rw [hr _ _ rfl rfl rfl]
    exact Steps.refl _
  · show Q5 (.ref w1) h0 n0 _ T115.heap _
    rw [e115]
    exact ⟨rfl, N115, KK107⟩
set_option maxRecDepth 65536 in
set_option maxHeartbeats 40000000 in
theorem rm5_2 (l : Launch) (Z : State) (a0 : Array Value) (hw : ∀ d ∈ tables_1, d.before a0 Z = true) (ws : List Jvm.Cond) (G1 : Int32) (kV : ClassId) (wV w0 w1 w2 w3 w4 w5 : Addr) (s0 s1 s2 s3 s4 s5 : Addr) (a1 : Addr) (cs : List Int32) (h0 : Heap) (n0 : Nat) (O0 : Old Z n0 h0) (S_CS : Sta Z Z.heap "java/lang/String" "COMPACT_STRINGS" "Z" (.int G1)) (hG1 : ¬ (G1 = (0 : Int32))) (S_V : Sta Z Z.heap "com/example/plugroot/plugroot/sql/Comparison" "$VALUES" "[Lcom/example/plugroot/plugroot/sql/Comparison;" (.ref wV)) (A_V : Arv Z Z.heap wV kV (.object "com/example/plugroot/plugroot/sql/Comparison") (6 : Int32) [(.ref w0), (.ref w1), (.ref w2), (.ref w3), (.ref w4), (.ref w5)] .null) (E_V : Exa Z Z.heap wV "[Lcom/example/plugroot/plugroot/sql/Comparison;") (M0 : Fld Z Z.heap w0 "com/example/plugroot/plugroot/sql/Comparison" "symbol" "Ljava/lang/String;" (.ref s0)) (M1 : Fld Z Z.heap w1 "com/example/plugroot/plugroot/sql/Comparison" "symbol" "Ljava/lang/String;" (.ref s1)) (M2 : Fld Z Z.heap w2 "com/example/plugroot/plugroot/sql/Comparison" "symbol" "Ljava/lang/String;" (.ref s2)) (M3 : Fld Z Z.heap w3 "com/example/plugroot/plugroot/sql/Comparison" "symbol" "Ljava/lang/String;" (.ref s3)) (M4 : Fld Z Z.heap w4 "com/example/plugroot/plugroot/sql/Comparison" "symbol" "Ljava/lang/String;" (.ref s4)) (M5 : Fld Z Z.heap w5 "com/example/plugroot/plugroot/sql/Comparison" "symbol" "Ljava/lang/String;" (.ref s5)) (T0 : Str Z Z.heap s0 ([(61 : Int32)] : List Int32)) (T1 : Str Z Z.heap s1 ([(60 : Int32), (62 : Int32)] : List Int32)) (T2 : Str Z Z.heap s2 ([(60 : Int32)] : List Int32)) (T3 : Str Z Z.heap s3 ([(62 : Int32)] : List Int32)) (T4 : Str Z Z.heap s4 ([(60 : Int32), (61 : Int32)] : List Int32)) (T5 : Str Z Z.heap s5 ([(62 : Int32), (61 : Int32)] : List Int32)) (T : Str Z h0 a1 cs) (hbg : ¬ cs = [33, 61]) (g0_ : ¬ cs = [61]) (g1_ : ¬ cs = [60, 62]) (g2_ : cs = [60]) :
    MetFree l (⟨"com/example/plugroot/plugroot/sql/Comparison", "of", "(Ljava/lang/String;)Lcom/example/plugroot/plugroot/sql/Comparison;"⟩ : MethodName) (head1 (Jvm.Cond.code (⟨"com/example/plugroot/plugroot/sql/Comparison", "of", "(Ljava/lang/String;)Lcom/example/plugroot/plugroot/sql/Comparison;"⟩ : MethodName) prog_73_method_4_code 6 (some (.object "com/example/plugroot/plugroot/sql/Comparison")) :: ws) ({ frames := 2, cells := 5, slots := 30, locals := 28 } : Room)) (fun a_ U => a_ = #[(.ref a1)] ∧ Z.Warmed39 U.vm ∧ U.heap = h0 ∧ CHv Z consts_1 U.vm h0) (fun _ _ _ _ _ => True) (fun _ U o U' => ∃ v L, o = .returned v ∧ Q5 (.ref w2) h0 n0 v U'.heap L ∧ CHr Z consts_1 U.vm U.heap U'.vm U'.heap ∧ ReturnedEndW U o U' L ({ frames := 2, cells := 5, slots := 30, locals := 28 } : Room).cells ({ frames := 2, cells := 5, slots := 30, locals := 28 } : Room).slots) := by
  refine MetFree.of_bodySF (plainFor_of_name pn_1) hisR ?_
  intro p e s m args below meth c s₁ Bd hml0 hP hK
  obtain ⟨rfl, hZ, hh, hC⟩ := hP
  have hx := Bd.exec
  have hby := Bd.bytes
  have hml : c.maxLocals = 6 := hml0
  have hown : s.vm.findClass "com/example/plugroot/plugroot/sql/Comparison" = some m.cls := findClass_of_methodNamed Bd.named
  have hnm := (name_of_methodNamed Bd.named Bd.method).1
  have X0 : Stand p l e ({ frames := 2, cells := 5, slots := 30, locals := 28 } : Room) (s.setVm s.vm) m #[(.ref a1)] below meth c s₁ [] 0 0 := Stand.of_body Bd
  have e0 : s₁.heap = h0 := by rw [← hh, Bd.state]; rfl
  have N0 := Fr.nil n0
  have pre0 : ∀ tg, Steps p.tables e below (s₁.setTop (mkF m 0 #[.val (.ref a1), .unset, .unset, .unset, .unset, .unset] [])) tg → Steps p.tables e below (s₁.setTop (entryFrame m #[(.ref a1)] 6)) tg := fun tg kq => castTop (ef_R_6 m a1) kq
  have hS0 : s.Since s.vm h0.size := (State.WarmedH.refl s).since _
  have hk0 : h0.size ≤ h0.size := Nat.le_refl _
  have CR0 : CHr Z consts_1 s.vm h0 s.vm h0 := CHr.refl hC
  obtain ⟨tm0, kbm0, Nm0, vsm0, sEm0, sVm0, sCm0, sKm0, scdm0, shpm0, shlm0⟩ := id T0
  obtain ⟨tm1, kbm1, Nm1, vsm1, sEm1, sVm1, sCm1, sKm1, scdm1, shpm1, shlm1⟩ := id T1
  obtain ⟨tm2, kbm2, Nm2, vsm2, sEm2, sVm2, sCm2, sKm2, scdm2, shpm2, shlm2⟩ := id T2
  obtain ⟨tm3, kbm3, Nm3, vsm3, sEm3, sVm3, sCm3, sKm3, scdm3, shpm3, shlm3⟩ := id T3
  obtain ⟨tm4, kbm4, Nm4, vsm4, sEm4, sVm4, sCm4, sKm4, scdm4, shpm4, shlm4⟩ := id T4
  obtain ⟨tm5, kbm5, Nm5, vsm5, sEm5, sVm5, sCm5, sKm5, scdm5, shpm5, shlm5⟩ := id T5
  obtain ⟨ta, kba, Na, vsa, sEa, sVa, sCa, sKa, scda, shpa, shla⟩ := id T
  obtain ⟨a101, T101, h101, k101, b101, kb101, X101, e101, E101, hS101, hk101, hZ101, hown101, lE101, lC101, lV101, lK101, la101, lb101, CS101, lL101, lne101, st101⟩ := ldcCH (s := s) (EL := consts_1) X0 hx hZ hown (wi hw 30 rfl) (fun d hd => hw d (own_strw d hd)) e0 hS0 hk0 (own_EW hw) (by decide) CR0.1 (vs := [(.int (33 : Int32)), (.int (61 : Int32))]) (z := (2 : Int32)) ⟨by decide, by decide⟩ (by decide) (by decide) (g := (mkF m 1 #[.val (.ref a1), .unset, .unset, .unset, .unset, .unset] [(.ref a1)])) rfl (hb hby d5_1) (n := 8) (by decide) (by decide) (by decide) (by decide)
  have O101 := O0.ext E101
  have CR101 := CR0.trans CS101
  have KK101 : Keep h0 h101 [] := (Keep.refl h0 []).ext E101
  have lcd101 : StrChars.Road.CodA ([(33 : Int32), (61 : Int32)] : List Int32) 0 (2 : Int32) [(.int (33 : Int32)), (.int (61 : Int32))] := Or.inl ⟨rfl, rfl, rfl, by decide⟩
  have lhp101 : ∀ c ∈ ([(33 : Int32), (61 : Int32)] : List Int32), ¬ c < 0 ∧ ¬ (255 : Int32) < c := by decide
  have fE_a1_1_102 := (sEa.ext E101)
  have fString_value_1_103 := (sVa.ext E101)
  have fString_coder_1_104 := (sCa.ext E101)
  have fV_ta_1_105 := (sKa.ext E101)
  obtain ⟨cq106, kq106, q106a, q106b, q106c⟩ := isOf hZ101 e101 fE_a1_1_102
  obtain ⟨_, _, ⟨T106, L106, k106, n106⟩, -, X106, ⟨Lc106, hQ106, l106, y106, z106⟩, st106⟩ := X101.virtualBack hx (y := (⟨"java/lang/String", "equals", "(Ljava/lang/Object;)Z"⟩ : MethodName)) (z := (⟨"java/lang/String", "equals", "(Ljava/lang/Object;)Z"⟩ : MethodName)) hown101 (mvT hZ101 (wi hw 31 rfl)) (mvT hZ101 (wi hw 32 rfl)) (notFace_of_selects (args := #[]) (mvT hZ101 (wi hw 34 rfl))) (mvT hZ101 (wi hw 34 rfl)) (mvT hZ101 (wi hw 33 rfl)) (by decide) (StrChars.Road.eqW (W := 0) hZ101 (fun d hd => hw d (own_w_eqW d hd)) (kI := 4) (wi hw 6 rfl) fE_a1_1_102 fString_value_1_103 fString_coder_1_104 fV_ta_1_105 scda (own_up _ shpa) shla lE101 lV101 lC101 lK101 lcd101 (own_up _ lhp101) (by decide) (S_CS.ext O101.2) hG1 (by decide) (by decide)) q106a q106c (g := (mkF m 3 #[.val (.ref a1), .unset, .unset, .unset, .unset, .unset] [(.ref a101), (.ref a1)])) rfl (by rw [hml]; rfl) (Steps.refl _) (argsL := [(.ref a101)]) (rest := []) (lenOf pd_0 rfl) rfl (by show 2 * 0 + _ ≤ _; exact Nat.le_of_eq rfl) (hb hby d5_3) (fun _ _ => ⟨rfl, e101, (by decide : 2 + 0 ≤ _), (by decide : 12 + 0 ≤ _)⟩)
  dsimp only [Pt.U, Pt.locs, Pt.cells, Pt.slots] at X106 l106 y106 z106 st106 hQ106
  subst l106 y106 z106
  obtain ⟨hv106, rfl, hh106⟩ := hQ106
  obtain rfl := (hv106.resolve_left (fun q => (hbg : ¬ cs = ([(33 : Int32), (61 : Int32)] : List Int32)) q.2)).1
  have N106q : Fr n0 ([] : List Loc) := Fr.nil n0
  have e106 : T106.heap = h101 := hh106
  have N106 := Fr.app N0 N106q
  obtain ⟨_, _, ⟨T107, L107, k107, n107⟩, -, X107, ⟨Lc107, hQ107, l107, y107, z107⟩, st107⟩ := Jvm.LawKit.callS X106 hx (y := (⟨"com/example/plugroot/plugroot/sql/Comparison", "values", "()[Lcom/example/plugroot/plugroot/sql/Comparison;"⟩ : MethodName)) hown101 (mvT hZ101 (wi hw 42 rfl)) (mvT hZ101 (wi hw 43 rfl)) (mvT hZ101 (wi hw 28 rfl)) (mvT hZ101 (wi hw 44 rfl)) (by decide) (backOf (W := 0) (rm8 l Z a0 hw [] kV wV w0 w1 w2 w3 w4 w5 h101 n0 O101 S_V A_V E_V) hZ101 (wi hw 44 rfl) (wi hw 28 rfl) (by decide) (by decide)) (g := (mkF m 16 #[.val (.ref a1), .val (.ref a1), .unset, .unset, .unset, .unset] [])) rfl (by rw [hml]; rfl) (argsL := []) (rest := []) (lenOf pd_1 rfl) rfl (by show 2 * 0 + _ ≤ _; exact Nat.le_of_eq rfl) (hb hby d5_16) (fun _ _ => ⟨rfl, e106, (by decide : 2 + 1 ≤ _), (by decide : 12 + 6 ≤ _)⟩)
  dsimp only [Pt.U, Pt.locs, Pt.cells, Pt.slots] at X107 l107 y107 z107 st107 hQ107
  subst l107 y107 z107
  obtain ⟨bv107, rfl, N107q, K107, szv107, Av107⟩ := hQ107
  obtain ⟨h107, e107⟩ : ∃ z, T107.heap = z := ⟨_, rfl⟩
  rw [e107] at K107 Av107
  have g_bv107 : n0 ≤ bv107 := Nat.le_trans (O101.1 ▸ O101.2.1) szv107
  have sz_bv107 : h0.size ≤ bv107 := Nat.le_trans KK101.1 szv107
  have O107 := O101.keep K107 all0
  have CS107 := CHr.keep K107 sf0 CR101.1
  have CR107 := CR101.trans CS107
  have KK107 : Keep h0 h107 [] := KK101.trans K107 all0
  have N107 := Fr.app N106 N107q
  obtain ⟨cl_bv107_19, Ar_bv107_19, -, S_bv107_19, N_bv107_19, -, -⟩ := id (Av107)
  obtain ⟨cl_bv107_38, Ar_bv107_38, q_bv107_38, S_bv107_38, N_bv107_38, H_bv107_38, G_bv107_38⟩ := id (Av107)
  have hinbv107_38 : ¬ ((0 : Int32) < 0 ∨ cl_bv107_38.slots.size ≤ ((0 : Int32)).toNatClampNeg) := inb_of S_bv107_38 ⟨by decide, by decide⟩
  have hatbv107_38 : cl_bv107_38.slots[((0 : Int32)).toNatClampNeg]? = some (.ref w0) := H_bv107_38.at hinbv107_38 rfl
  obtain ⟨T108, X108, e108, st108⟩ := getF X107 hx hZ101 hown101 (host := "") (Or.inl (wi hw 63 rfl)) Via.refl e107 (M0.ext O107.2) (g := (mkF m 40 #[.val (.ref a1), .val (.ref a1), .val (.ref bv107), .val (.int (6 : Int32)), .val (.int (0 : Int32)), .val (.ref w0)] [(.ref w0)])) rfl rfl (hb hby d5_40)
  have fE_a1_2_109 := (fE_a1_1_102.keep K107)
  have fString_value_2_110 := (fString_value_1_103.keep K107 nin0)
  have fString_coder_2_111 := (fString_coder_1_104.keep K107 nin0)
  have fV_ta_2_112 := (fV_ta_1_105.keep K107 nin0)
  obtain ⟨cq113, kq113, q113a, q113b, q113c⟩ := isOf hZ101 e108 (sEm0.ext O107.2)
  obtain ⟨_, _, ⟨T113, L113, k113, n113⟩, -, X113, ⟨Lc113, hQ113, l113, y113, z113⟩, st113⟩ := X108.virtualBack hx (y := (⟨"java/lang/String", "equals", "(Ljava/lang/Object;)Z"⟩ : MethodName)) (z := (⟨"java/lang/String", "equals", "(Ljava/lang/Object;)Z"⟩ : MethodName)) hown101 (mvT hZ101 (wi hw 31 rfl)) (mvT hZ101 (wi hw 32 rfl)) (notFace_of_selects (args := #[]) (mvT hZ101 (wi hw 34 rfl))) (mvT hZ101 (wi hw 34 rfl)) (mvT hZ101 (wi hw 33 rfl)) (by decide) (StrChars.Road.eqW (W := 0) hZ101 (fun d hd => hw d (own_w_eqW d hd)) (kI := 4) (wi hw 6 rfl) (sEm0.ext O107.2) (sVm0.ext O107.2) (sCm0.ext O107.2) (sKm0.ext O107.2) scdm0 (own_up _ shpm0) shlm0 fE_a1_2_109 fString_value_2_110 fString_coder_2_111 fV_ta_2_112 scda (own_up _ shpa) shla (S_CS.ext O107.2) hG1 (by decide) (by decide)) q113a q113c (g := (mkF m 44 #[.val (.ref a1), .val (.ref a1), .val (.ref bv107), .val (.int (6 : Int32)), .val (.int (0 : Int32)), .val (.ref w0)] [(.ref a1), (.ref s0)])) rfl (by rw [hml]; rfl) (Steps.refl _) (argsL := [(.ref a1)]) (rest := []) (lenOf pd_0 rfl) rfl (by show 2 * 0 + _ ≤ _; exact Nat.le_of_eq rfl) (hb hby d5_44) (fun _ _ => ⟨rfl, e108, (by decide : 3 + 0 ≤ _), (by decide : 18 + 0 ≤ _)⟩)
  dsimp only [Pt.U, Pt.locs, Pt.cells, Pt.slots] at X113 l113 y113 z113 st113 hQ113
  subst l113 y113 z113
  obtain ⟨hv113, rfl, hh113⟩ := hQ113
  obtain rfl := (hv113.resolve_left (fun q => ((fun z => g0_ z.symm) : ¬ ([(61 : Int32)] : List Int32) = cs) q.2)).1
  have N113q : Fr n0 ([] : List Loc) := Fr.nil n0
  have e113 : T113.heap = h107 := hh113
  have N113 := Fr.app N107 N113q
  obtain ⟨cl_bv107_66, Ar_bv107_66, q_bv107_66, S_bv107_66, N_bv107_66, H_bv107_66, G_bv107_66⟩ := id (Av107)
  have hinbv107_66 : ¬ ((1 : Int32) < 0 ∨ cl_bv107_66.slots.size ≤ ((1 : Int32)).toNatClampNeg) := inb_of S_bv107_66 ⟨by decide, by decide⟩
  have hatbv107_66 : cl_bv107_66.slots[((1 : Int32)).toNatClampNeg]? = some (.ref w1) := H_bv107_66.at hinbv107_66 rfl
  obtain ⟨T114, X114, e114, st114⟩ := getF X113 hx hZ101 hown101 (host := "") (Or.inl (wi hw 63 rfl)) Via.refl e113 (M1.ext O107.2) (g := (mkF m 40 #[.val (.ref a1), .val (.ref a1), .val (.ref bv107), .val (.int (6 : Int32)), .val (.int (1 : Int32)), .val (.ref w1)] [(.ref w1)])) rfl rfl (hb hby d5_40)
  obtain ⟨cq115, kq115, q115a, q115b, q115c⟩ := isOf hZ101 e114 (sEm1.ext O107.2)
  obtain ⟨_, _, ⟨T115, L115, k115, n115⟩, -, X115, ⟨Lc115, hQ115, l115, y115, z115⟩, st115⟩ := X114.virtualBack hx (y := (⟨"java/lang/String", "equals", "(Ljava/lang/Object;)Z"⟩ : MethodName)) (z := (⟨"java/lang/String", "equals", "(Ljava/lang/Object;)Z"⟩ : MethodName)) hown101 (mvT hZ101 (wi hw 31 rfl)) (mvT hZ101 (wi hw 32 rfl)) (notFace_of_selects (args := #[]) (mvT hZ101 (wi hw 34 rfl))) (mvT hZ101 (wi hw 34 rfl)) (mvT hZ101 (wi hw 33 rfl)) (by decide) (StrChars.Road.eqW (W := 0) hZ101 (fun d hd => hw d (own_w_eqW d hd)) (kI := 4) (wi hw 6 rfl) (sEm1.ext O107.2) (sVm1.ext O107.2) (sCm1.ext O107.2) (sKm1.ext O107.2) scdm1 (own_up _ shpm1) shlm1 fE_a1_2_109 fString_value_2_110 fString_coder_2_111 fV_ta_2_112 scda (own_up _ shpa) shla (S_CS.ext O107.2) hG1 (by decide) (by decide)) q115a q115c (g := (mkF m 44 #[.val (.ref a1), .val (.ref a1), .val (.ref bv107), .val (.int (6 : Int32)), .val (.int (1 : Int32)), .val (.ref w1)] [(.ref a1), (.ref s1)])) rfl (by rw [hml]; rfl) (Steps.refl _) (argsL := [(.ref a1)]) (rest := []) (lenOf pd_0 rfl) rfl (by show 2 * 0 + _ ≤ _; exact Nat.le_of_eq rfl) (hb hby d5_44) (fun _ _ => ⟨rfl, e114, (by decide : 3 + 0 ≤ _), (by decide : 18 + 0 ≤ _)⟩)
  dsimp only [Pt.U, Pt.locs, Pt.cells, Pt.slots] at X115 l115 y115 z115 st115 hQ115
  subst l115 y115 z115
  obtain ⟨hv115, rfl, hh115⟩ := hQ115
  obtain rfl := (hv115.resolve_left (fun q => ((fun z => g1_ z.symm) : ¬ ([(60 : Int32), (62 : Int32)] : List Int32) = cs) q.2)).1
  have N115q : Fr n0 ([] : List Loc) := Fr.nil n0
  have e115 : T115.heap = h107 := hh115
  have N115 := Fr.app N113 N115q
  obtain ⟨cl_bv107_94, Ar_bv107_94, q_bv107_94, S_bv107_94, N_bv107_94, H_bv107_94, G_bv107_94⟩ := id (Av107)
  have hinbv107_94 : ¬ ((2 : Int32) < 0 ∨ cl_bv107_94.slots.size ≤ ((2 : Int32)).toNatClampNeg) := inb_of S_bv107_94 ⟨by decide, by decide⟩
  have hatbv107_94 : cl_bv107_94.slots[((2 : Int32)).toNatClampNeg]? = some (.ref w2) := H_bv107_94.at hinbv107_94 rfl
  obtain ⟨T116, X116, e116, st116⟩ := getF X115 hx hZ101 hown101 (host := "") (Or.inl (wi hw 63 rfl)) Via.refl e115 (M2.ext O107.2) (g := (mkF m 40 #[.val (.ref a1), .val (.ref a1), .val (.ref bv107), .val (.int (6 : Int32)), .val (.int (2 : Int32)), .val (.ref w2)] [(.ref w2)])) rfl rfl (hb hby d5_40)
  obtain ⟨cq117, kq117, q117a, q117b, q117c⟩ := isOf hZ101 e116 (sEm2.ext O107.2)
  obtain ⟨_, _, ⟨T117, L117, k117, n117⟩, -, X117, ⟨Lc117, hQ117, l117, y117, z117⟩, st117⟩ := X116.virtualBack hx (y := (⟨"java/lang/String", "equals", "(Ljava/lang/Object;)Z"⟩ : MethodName)) (z := (⟨"java/lang/String", "equals", "(Ljava/lang/Object;)Z"⟩ : MethodName)) hown101 (mvT hZ101 (wi hw 31 rfl)) (mvT hZ101 (wi hw 32 rfl)) (notFace_of_selects (args := #[]) (mvT hZ101 (wi hw 34 rfl))) (mvT hZ101 (wi hw 34 rfl)) (mvT hZ101 (wi hw 33 rfl)) (by decide) (StrChars.Road.eqW (W := 0) hZ101 (fun d hd => hw d (own_w_eqW d hd)) (kI := 4) (wi hw 6 rfl) (sEm2.ext O107.2) (sVm2.ext O107.2) (sCm2.ext O107.2) (sKm2.ext O107.2) scdm2 (own_up _ shpm2) shlm2 fE_a1_2_109 fString_value_2_110 fString_coder_2_111 fV_ta_2_112 scda (own_up _ shpa) shla (S_CS.ext O107.2) hG1 (by decide) (by decide)) q117a q117c (g := (mkF m 44 #[.val (.ref a1), .val (.ref a1), .val (.ref bv107), .val (.int (6 : Int32)), .val (.int (2 : Int32)), .val (.ref w2)] [(.ref a1), (.ref s2)])) rfl (by rw [hml]; rfl) (Steps.refl _) (argsL := [(.ref a1)]) (rest := []) (lenOf pd_0 rfl) rfl (by show 2 * 0 + _ ≤ _; exact Nat.le_of_eq rfl) (hb hby d5_44) (fun _ _ => ⟨rfl, e116, (by decide : 3 + 0 ≤ _), (by decide : 18 + 0 ≤ _)⟩)
  dsimp only [Pt.U, Pt.locs, Pt.cells, Pt.slots] at X117 l117 y117 z117 st117 hQ117
  subst l117 y117 z117
  obtain ⟨hv117, rfl, hh117⟩ := hQ117
  obtain rfl := (hv117.resolve_right (fun q => q.2 (g2_.symm : ([(60 : Int32)] : List Int32) = cs))).1
  have N117q : Fr n0 ([] : List Loc) := Fr.nil n0
  have e117 : T117.heap = h107 := hh117
  have N117 := Fr.app N115 N117q
  obtain ⟨fs, hr, hrun, hended, hREW⟩ := X117.leaveW hS101 (by rw [e117]; exact (Nat.le_trans hk101 K107.1)) (v := some (.ref w2)) (fun h => by rw [Bd.returns] at h; cases h)
  refine ⟨_, _, pre0 _ ?_, hrun, hended, _, _, rfl, ?_, (by rw [hh]; show CHr Z consts_1 s.vm h0 T117.vm T117.heap; rw [e117]; exact CR107.trans (CHv.at X117 hZ101 (own_EW hw) CR107.1)), hREW.1, hREW.2.1, hREW.2.2.1, hREW.2.2.2.mono (by decide) (by decide)⟩
  · show Steps p.tables e below (s₁.setTop (mkF m 0 #[.val (.ref a1), .unset, .unset, .unset, .unset, .unset] [])) _
    refine XS.aloadN X0.here hx rfl (hb hby d5_0) rfl rfl ?_
    show Steps p.tables e below (s₁.setTop (mkF m 1 #[.val (.ref a1), .unset, .unset, .unset, .unset, .unset] [(.ref a1)])) _
    refine st101 _ ?_
    show Steps p.tables e below (T101.setTop (mkF m 3 #[.val (.ref a1), .unset, .unset, .unset, .unset, .unset] [(.ref a101), (.ref a1)])) _
    refine st106.trans ?_
    show Steps p.tables e below (T106.setTop (mkF m 6 #[.val (.ref a1), .unset, .unset, .unset, .unset, .unset] [(.int (0 : Int32))])) _
    refine XS.ifYes X106.here hx rfl (pc0 := 6) (pc' := 14) rfl (hb hby d5_6) rfl ((if0 _ _).trans (teq (by decide : (0 : Int32) = (0 : Int32))).1) (by decide) (by decide) ?_
    show Steps p.tables e below (T106.setTop (mkF m 14 #[.val (.ref a1), .unset, .unset, .unset, .unset, .unset] [])) _
    refine XS.aloadN X106.here hx rfl (hb hby d5_14) rfl rfl ?_
    show Steps p.tables e below (T106.setTop (mkF m 15 #[.val (.ref a1), .unset, .unset, .unset, .unset, .unset] [(.ref a1)])) _
    refine XS.astoreN X106.here hx rfl (hb hby d5_15) rfl rfl (l' := #[.val (.ref a1), .val (.ref a1), .unset, .unset, .unset, .unset]) rfl ?_
    show Steps p.tables e below (T106.setTop (mkF m 16 #[.val (.ref a1), .val (.ref a1), .unset, .unset, .unset, .unset] [])) _
    refine st107 _ ?_
    show Steps p.tables e below (T107.setTop (mkF m 19 #[.val (.ref a1), .val (.ref a1), .unset, .unset, .unset, .unset] [(.ref bv107)])) _
    refine XS.astoreN X107.here hx rfl (hb hby d5_19) rfl rfl (l' := #[.val (.ref a1), .val (.ref a1), .val (.ref bv107), .unset, .unset, .unset]) rfl ?_
    show Steps p.tables e below (T107.setTop (mkF m 20 #[.val (.ref a1), .val (.ref a1), .val (.ref bv107), .unset, .unset, .unset] [])) _
    refine XS.aloadN X107.here hx rfl (hb hby d5_20) rfl rfl ?_
    show Steps p.tables e below (T107.setTop (mkF m 21 #[.val (.ref a1), .val (.ref a1), .val (.ref bv107), .unset, .unset, .unset] [(.ref bv107)])) _
    refine X107.arraylength hx (by rw [e107]; exact Ar_bv107_19.1) (State.isArrayOf_alike hZ101.alike Ar_bv107_19.2.1) (g := (mkF m 21 #[.val (.ref a1), .val (.ref a1), .val (.ref bv107), .unset, .unset, .unset] [(.ref bv107)])) rfl rfl (hb hby d5_21) _ ?_
    rw [len_of S_bv107_19 N_bv107_19]
    show Steps p.tables e below (T107.setTop (mkF m 22 #[.val (.ref a1), .val (.ref a1), .val (.ref bv107), .unset, .unset, .unset] [(.int (6 : Int32))])) _
    refine XS.istoreN X107.here hx rfl (hb hby d5_22) rfl (l' := #[.val (.ref a1), .val (.ref a1), .val (.ref bv107), .val (.int (6 : Int32)), .unset, .unset]) rfl ?_
    show Steps p.tables e below (T107.setTop (mkF m 23 #[.val (.ref a1), .val (.ref a1), .val (.ref bv107), .val (.int (6 : Int32)), .unset, .unset] [])) _
    refine XS.iconst X107.here hx rfl (hb hby d5_23) ?_
    show Steps p.tables e below (T107.setTop (mkF m 24 #[.val (.ref a1), .val (.ref a1), .val (.ref bv107), .val (.int (6 : Int32)), .unset, .unset] [(.int (0 : Int32))])) _
    refine XS.istore X107.here hx rfl (hb hby d5_24) rfl (l' := #[.val (.ref a1), .val (.ref a1), .val (.ref bv107), .val (.int (6 : Int32)), .val (.int (0 : Int32)), .unset]) rfl ?_
    show Steps p.tables e below (T107.setTop (mkF m 26 #[.val (.ref a1), .val (.ref a1), .val (.ref bv107), .val (.int (6 : Int32)), .val (.int (0 : Int32)), .unset] [])) _
    refine XS.iload X107.here hx rfl (hb hby d5_26) rfl ?_
    show Steps p.tables e below (T107.setTop (mkF m 28 #[.val (.ref a1), .val (.ref a1), .val (.ref bv107), .val (.int (6 : Int32)), .val (.int (0 : Int32)), .unset] [(.int (0 : Int32))])) _
    refine XS.iloadN X107.here hx rfl (hb hby d5_28) rfl ?_
    show Steps p.tables e below (T107.setTop (mkF m 29 #[.val (.ref a1), .val (.ref a1), .val (.ref bv107), .val (.int (6 : Int32)), .val (.int (0 : Int32)), .unset] [(.int (6 : Int32)), (.int (0 : Int32))])) _
    refine XS.icmpNo X107.here hx rfl (hb hby d5_29) rfl (tlt (by decide : (0 : Int32) < (6 : Int32))).2.1 ?_
    show Steps p.tables e below (T107.setTop (mkF m 32 #[.val (.ref a1), .val (.ref a1), .val (.ref bv107), .val (.int (6 : Int32)), .val (.int (0 : Int32)), .unset] [])) _
    refine XS.aloadN X107.here hx rfl (hb hby d5_32) rfl rfl ?_
    show Steps p.tables e below (T107.setTop (mkF m 33 #[.val (.ref a1), .val (.ref a1), .val (.ref bv107), .val (.int (6 : Int32)), .val (.int (0 : Int32)), .unset] [(.ref bv107)])) _
    refine XS.iload X107.here hx rfl (hb hby d5_33) rfl ?_
    show Steps p.tables e below (T107.setTop (mkF m 35 #[.val (.ref a1), .val (.ref a1), .val (.ref bv107), .val (.int (6 : Int32)), .val (.int (0 : Int32)), .unset] [(.int (0 : Int32)), (.ref bv107)])) _
    refine X107.aaload hx (j := (0 : Int32)) (v := (.ref w0)) (by rw [e107]; exact Ar_bv107_38.1) (State.isArrayOf_alike hZ101.alike Ar_bv107_38.2.1) rfl Ar_bv107_38.2.2 hinbv107_38 hatbv107_38 (g := (mkF m 35 #[.val (.ref a1), .val (.ref a1), .val (.ref bv107), .val (.int (6 : Int32)), .val (.int (0 : Int32)), .unset] [(.int (0 : Int32)), (.ref bv107)])) rfl rfl (hb hby d5_35) _ ?_
    show Steps p.tables e below (T107.setTop (mkF m 36 #[.val (.ref a1), .val (.ref a1), .val (.ref bv107), .val (.int (6 : Int32)), .val (.int (0 : Int32)), .unset] [(.ref w0)])) _
    refine XS.astore X107.here hx rfl (hb hby d5_36) rfl rfl (l' := #[.val (.ref a1), .val (.ref a1), .val (.ref bv107), .val (.int (6 : Int32)), .val (.int (0 : Int32)), .val (.ref w0)]) rfl ?_
    show Steps p.tables e below (T107.setTop (mkF m 38 #[.val (.ref a1), .val (.ref a1), .val (.ref bv107), .val (.int (6 : Int32)), .val (.int (0 : Int32)), .val (.ref w0)] [])) _
    refine XS.aload X107.here hx rfl (hb hby d5_38) rfl rfl ?_
    show Steps p.tables e below (T107.setTop (mkF m 40 #[.val (.ref a1), .val (.ref a1), .val (.ref bv107), .val (.int (6 : Int32)), .val (.int (0 : Int32)), .val (.ref w0)] [(.ref w0)])) _
    refine st108 _ ?_
    show Steps p.tables e below (T108.setTop (mkF m 43 #[.val (.ref a1), .val (.ref a1), .val (.ref bv107), .val (.int (6 : Int32)), .val (.int (0 : Int32)), .val (.ref w0)] [(.ref s0)])) _
    refine XS.aloadN X108.here hx rfl (hb hby d5_43) rfl rfl ?_
    show Steps p.tables e below (T108.setTop (mkF m 44 #[.val (.ref a1), .val (.ref a1), .val (.ref bv107), .val (.int (6 : Int32)), .val (.int (0 : Int32)), .val (.ref w0)] [(.ref a1), (.ref s0)])) _
    refine st113.trans ?_
    show Steps p.tables e below (T113.setTop (mkF m 47 #[.val (.ref a1), .val (.ref a1), .val (.ref bv107), .val (.int (6 : Int32)), .val (.int (0 : Int32)), .val (.ref w0)] [(.int (0 : Int32))])) _
    refine XS.ifYes X113.here hx rfl (pc0 := 47) (pc' := 53) rfl (hb hby d5_47) rfl ((if0 _ _).trans (teq (by decide : (0 : Int32) = (0 : Int32))).1) (by decide) (by decide) ?_
    show Steps p.tables e below (T113.setTop (mkF m 53 #[.val (.ref a1), .val (.ref a1), .val (.ref bv107), .val (.int (6 : Int32)), .val (.int (0 : Int32)), .val (.ref w0)] [])) _
    refine XS.iinc X113.here hx rfl (hb hby d5_53) rfl (l' := #[.val (.ref a1), .val (.ref a1), .val (.ref bv107), .val (.int (6 : Int32)), .val (.int (1 : Int32)), .val (.ref w0)]) rfl ?_
    show Steps p.tables e below (T113.setTop (mkF m 56 #[.val (.ref a1), .val (.ref a1), .val (.ref bv107), .val (.int (6 : Int32)), .val (.int (1 : Int32)), .val (.ref w0)] [])) _
    refine XS.goto X113.here hx rfl (pc0 := 56) (pc' := 26) rfl (hb hby d5_56) (by decide) (by decide) ?_
    show Steps p.tables e below (T113.setTop (mkF m 26 #[.val (.ref a1), .val (.ref a1), .val (.ref bv107), .val (.int (6 : Int32)), .val (.int (1 : Int32)), .val (.ref w0)] [])) _
    refine XS.iload X113.here hx rfl (hb hby d5_26) rfl ?_
    show Steps p.tables e below (T113.setTop (mkF m 28 #[.val (.ref a1), .val (.ref a1), .val (.ref bv107), .val (.int (6 : Int32)), .val (.int (1 : Int32)), .val (.ref w0)] [(.int (1 : Int32))])) _
    refine XS.iloadN X113.here hx rfl (hb hby d5_28) rfl ?_
    show Steps p.tables e below (T113.setTop (mkF m 29 #[.val (.ref a1), .val (.ref a1), .val (.ref bv107), .val (.int (6 : Int32)), .val (.int (1 : Int32)), .val (.ref w0)] [(.int (6 : Int32)), (.int (1 : Int32))])) _
    refine XS.icmpNo X113.here hx rfl (hb hby d5_29) rfl (tlt (by decide : (1 : Int32) < (6 : Int32))).2.1 ?_
    show Steps p.tables e below (T113.setTop (mkF m 32 #[.val (.ref a1), .val (.ref a1), .val (.ref bv107), .val (.int (6 : Int32)), .val (.int (1 : Int32)), .val (.ref w0)] [])) _
    refine XS.aloadN X113.here hx rfl (hb hby d5_32) rfl rfl ?_
    show Steps p.tables e below (T113.setTop (mkF m 33 #[.val (.ref a1), .val (.ref a1), .val (.ref bv107), .val (.int (6 : Int32)), .val (.int (1 : Int32)), .val (.ref w0)] [(.ref bv107)])) _
    refine XS.iload X113.here hx rfl (hb hby d5_33) rfl ?_
    show Steps p.tables e below (T113.setTop (mkF m 35 #[.val (.ref a1), .val (.ref a1), .val (.ref bv107), .val (.int (6 : Int32)), .val (.int (1 : Int32)), .val (.ref w0)] [(.int (1 : Int32)), (.ref bv107)])) _
    refine X113.aaload hx (j := (1 : Int32)) (v := (.ref w1)) (by rw [e113]; exact Ar_bv107_66.1) (State.isArrayOf_alike hZ101.alike Ar_bv107_66.2.1) rfl Ar_bv107_66.2.2 hinbv107_66 hatbv107_66 (g := (mkF m 35 #[.val (.ref a1), .val (.ref a1), .val (.ref bv107), .val (.int (6 : Int32)), .val (.int (1 : Int32)), .val (.ref w0)] [(.int (1 : Int32)), (.ref bv107)])) rfl rfl (hb hby d5_35) _ ?_
    show Steps p.tables e below (T113.setTop (mkF m 36 #[.val (.ref a1), .val (.ref a1), .val (.ref bv107), .val (.int (6 : Int32)), .val (.int (1 : Int32)), .val (.ref w0)] [(.ref w1)])) _
    refine XS.astore X113.here hx rfl (hb hby d5_36) rfl rfl (l' := #[.val (.ref a1), .val (.ref a1), .val (.ref bv107), .val (.int (6 : Int32)), .val (.int (1 : Int32)), .val (.ref w1)]) rfl ?_
    show Steps p.tables e below (T113.setTop (mkF m 38 #[.val (.ref a1), .val (.ref a1), .val (.ref bv107), .val (.int (6 : Int32)), .val (.int (1 : Int32)), .val (.ref w1)] [])) _
    refine XS.aload X113.here hx rfl (hb hby d5_38) rfl rfl ?_
    show Steps p.tables e below (T113.setTop (mkF m 40 #[.val (.ref a1), .val (.ref a1), .val (.ref bv107), .val (.int (6 : Int32)), .val (.int (1 : Int32)), .val (.ref w1)] [(.ref w1)])) _
    refine st114 _ ?_
    show Steps p.tables e below (T114.setTop (mkF m 43 #[.val (.ref a1), .val (.ref a1), .val (.ref bv107), .val (.int (6 : Int32)), .val (.int (1 : Int32)), .val (.ref w1)] [(.ref s1)])) _
    refine XS.aloadN X114.here hx rfl (hb hby d5_43) rfl rfl ?_
    show Steps p.tables e below (T114.setTop (mkF m 44 #[.val (.ref a1), .val (.ref a1), .val (.ref bv107), .val (.int (6 : Int32)), .val (.int (1 : Int32)), .val (.ref w1)] [(.ref a1), (.ref s1)])) _
    refine st115.trans ?_
    show Steps p.tables e below (T115.setTop (mkF m 47 #[.val (.ref a1), .val (.ref a1), .val (.ref bv107), .val (.int (6 : Int32)), .val (.int (1 : Int32)), .val (.ref w1)] [(.int (0 : Int32))])) _
    refine XS.ifYes X115.here hx rfl (pc0 := 47) (pc' := 53) rfl (hb hby d5_47) rfl ((if0 _ _).trans (teq (by decide : (0 : Int32) = (0 : Int32))).1) (by decide) (by decide) ?_
    show Steps p.tables e below (T115.setTop (mkF m 53 #[.val (.ref a1), .val (.ref a1), .val (.ref bv107), .val (.int (6 : Int32)), .val (.int (1 : Int32)), .val (.ref w1)] [])) _
    refine XS.iinc X115.here hx rfl (hb hby d5_53) rfl (l' := #[.val (.ref a1), .val (.ref a1), .val (.ref bv107), .val (.int (6 : Int32)), .val (.int (2 : Int32)), .val (.ref w1)]) rfl ?_
    show Steps p.tables e below (T115.setTop (mkF m 56 #[.val (.ref a1), .val (.ref a1), .val (.ref bv107), .val (.int (6 : Int32)), .val (.int (2 : Int32)), .val (.ref w1)] [])) _
    refine XS.goto X115.here hx rfl (pc0 := 56) (pc' := 26) rfl (hb hby d5_56) (by decide) (by decide) ?_
    show Steps p.tables e below (T115.setTop (mkF m 26 #[.val (.ref a1), .val (.ref a1), .val (.ref bv107), .val (.int (6 : Int32)), .val (.int (2 : Int32)), .val (.ref w1)] [])) _
    refine XS.iload X115.here hx rfl (hb hby d5_26) rfl ?_
    show Steps p.tables e below (T115.setTop (mkF m 28 #[.val (.ref a1), .val (.ref a1), .val (.ref bv107), .val (.int (6 : Int32)), .val (.int (2 : Int32)), .val (.ref w1)] [(.int (2 : Int32))])) _
    refine XS.iloadN X115.here hx rfl (hb hby d5_28) rfl ?_
    show Steps p.tables e below (T115.setTop (mkF m 29 #[.val (.ref a1), .val (.ref a1), .val (.ref bv107), .val (.int (6 : Int32)), .val (.int (2 : Int32)), .val (.ref w1)] [(.int (6 : Int32)), (.int (2 : Int32))])) _
    refine XS.icmpNo X115.here hx rfl (hb hby d5_29) rfl (tlt (by decide : (2 : Int32) < (6 : Int32))).2.1 ?_
    show Steps p.tables e below (T115.setTop (mkF m 32 #[.val (.ref a1), .val (.ref a1), .val (.ref bv107), .val (.int (6 : Int32)), .val (.int (2 : Int32)), .val (.ref w1)] [])) _
    refine XS.aloadN X115.here hx rfl (hb hby d5_32) rfl rfl ?_
    show Steps p.tables e below (T115.setTop (mkF m 33 #[.val (.ref a1), .val (.ref a1), .val (.ref bv107), .val (.int (6 : Int32)), .val (.int (2 : Int32)), .val (.ref w1)] [(.ref bv107)])) _
    refine XS.iload X115.here hx rfl (hb hby d5_33) rfl ?_
    show Steps p.tables e below (T115.setTop (mkF m 35 #[.val (.ref a1), .val (.ref a1), .val (.ref bv107), .val (.int (6 : Int32)), .val (.int (2 : Int32)), .val (.ref w1)] [(.int (2 : Int32)), (.ref bv107)])) _
    refine X115.aaload hx (j := (2 : Int32)) (v := (.ref w2)) (by rw [e115]; exact Ar_bv107_94.1) (State.isArrayOf_alike hZ101.alike Ar_bv107_94.2.1) rfl Ar_bv107_94.2.2 hinbv107_94 hatbv107_94 (g := (mkF m 35 #[.val (.ref a1), .val (.ref a1), .val (.ref bv107), .val (.int (6 : Int32)), .val (.int (2 : Int32)), .val (.ref w1)] [(.int (2 : Int32)), (.ref bv107)])) rfl rfl (hb hby d5_35) _ ?_
    show Steps p.tables e below (T115.setTop (mkF m 36 #[.val (.ref a1), .val (.ref a1), .val (.ref bv107), .val (.int (6 : Int32)), .val (.int (2 : Int32)), .val (.ref w1)] [(.ref w2)])) _
    refine XS.astore X115.here hx rfl (hb hby d5_36) rfl rfl (l' := #[.val (.ref a1), .val (.ref a1), .val (.ref bv107), .val (.int (6 : Int32)), .val (.int (2 : Int32)), .val (.ref w2)]) rfl ?_
    show Steps p.tables e below (T115.setTop (mkF m 38 #[.val (.ref a1), .val (.ref a1), .val (.ref bv107), .val (.int (6 : Int32)), .val (.int (2 : Int32)), .val (.ref w2)] [])) _
    refine XS.aload X115.here hx rfl (hb hby d5_38) rfl rfl ?_
    show Steps p.tables e below (T115.setTop (mkF m 40 #[.val (.ref a1), .val (.ref a1), .val (.ref bv107), .val (.int (6 : Int32)), .val (.int (2 : Int32)), .val (.ref w2)] [(.ref w2)])) _
    refine st116 _ ?_
    show Steps p.tables e below (T116.setTop (mkF m 43 #[.val (.ref a1), .val (.ref a1), .val (.ref bv107), .val (.int (6 : Int32)), .val (.int (2 : Int32)), .val (.ref w2)] [(.ref s2)])) _
    refine XS.aloadN X116.here hx rfl (hb hby d5_43) rfl rfl ?_
    show Steps p.tables e below (T116.setTop (mkF m 44 #[.val (.ref a1), .val (.ref a1), .val (.ref bv107), .val (.int (6 : Int32)), .val (.int (2 : Int32)), .val (.ref w2)] [(.ref a1), (.ref s2)])) _
    refine st117.trans ?_
    show Steps p.tables e below (T117.setTop (mkF m 47 #[.val (.ref a1), .val (.ref a1), .val (.ref bv107), .val (.int (6 : Int32)), .val (.int (2 : Int32)), .val (.ref w2)] [(.int (1 : Int32))])) _
    refine XS.ifNo X117.here hx rfl (hb hby d5_47) rfl ((if0 _ _).trans (feq (by decide : ¬ ((1 : Int32) = (0 : Int32)))).1) ?_
    show Steps p.tables e below (T117.setTop (mkF m 50 #[.val (.ref a1), .val (.ref a1), .val (.ref bv107), .val (.int (6 : Int32)), .val (.int (2 : Int32)), .val (.ref w2)] [])) _
    refine XS.aload X117.here hx rfl (hb hby d5_50) rfl rfl ?_
    show Steps p.tables e below (T117.setTop (mkF m 52 #[.val (.ref a1), .val (.ref a1), .val (.ref bv107), .val (.int (6 : Int32)), .val (.int (2 : Int32)), .val (.ref w2)] [(.ref w2)])) _
    jvm_step X117.here [X117.here.top, hx, (hb hby d5_52), X117.method', Bd.returns, Value.isRef, FieldType.isReference]
    first | (intro acts; rw [hr _ acts rfl rfl rfl]) | rw [hr _ _ rfl rfl rfl]
    exact Steps.refl _
  · show Q5 (.ref w2) h0 n0 _ T117.heap _
    rw [e117]
    exact ⟨rfl, N117, KK107⟩
set_option maxRecDepth 65536 in
set_option maxHeartbeats 40000000 in
theorem rm5_3 (l : Launch) (Z : State) (a0 : Array Value) (hw : ∀ d ∈ tables_1, d.before a0 Z = true) (ws : List Jvm.Cond) (G1 : Int32) (kV : ClassId) (wV w0 w1 w2 w3 w4 w5 : Addr) (s0 s1 s2 s3 s4 s5 : Addr) (a1 : Addr) (cs : List Int32) (h0 : Heap) (n0 : Nat) (O0 : Old Z n0 h0) (S_CS : Sta Z Z.heap "java/lang/String" "COMPACT_STRINGS" "Z" (.int G1)) (hG1 : ¬ (G1 = (0 : Int32))) (S_V : Sta Z Z.heap "com/example/plugroot/plugroot/sql/Comparison" "$VALUES" "[Lcom/example/plugroot/plugroot/sql/Comparison;" (.ref wV)) (A_V : Arv Z Z.heap wV kV (.object "com/example/plugroot/plugroot/sql/Comparison") (6 : Int32) [(.ref w0), (.ref w1), (.ref w2), (.ref w3), (.ref w4), (.ref w5)] .null) (E_V : Exa Z Z.heap wV "[Lcom/example/plugroot/plugroot/sql/Comparison;") (M0 : Fld Z Z.heap w0 "com/example/plugroot/plugroot/sql/Comparison" "symbol" "Ljava/lang/String;" (.ref s0)) (M1 : Fld Z Z.heap w1 "com/example/plugroot/plugroot/sql/Comparison" "symbol" "Ljava/lang/String;" (.ref s1)) (M2 : Fld Z Z.heap w2 "com/example/plugroot/plugroot/sql/Comparison" "symbol" "Ljava/lang/String;" (.ref s2)) (M3 : Fld Z Z.heap w3 "com/example/plugroot/plugroot/sql/Comparison" "symbol" "Ljava/lang/String;" (.ref s3)) (M4 : Fld Z Z.heap w4 "com/example/plugroot/plugroot/sql/Comparison" "symbol" "Ljava/lang/String;" (.ref s4)) (M5 : Fld Z Z.heap w5 "com/example/plugroot/plugroot/sql/Comparison" "symbol" "Ljava/lang/String;" (.ref s5)) (T0 : Str Z Z.heap s0 ([(61 : Int32)] : List Int32)) (T1 : Str Z Z.heap s1 ([(60 : Int32), (62 : Int32)] : List Int32)) (T2 : Str Z Z.heap s2 ([(60 : Int32)] : List Int32)) (T3 : Str Z Z.heap s3 ([(62 : Int32)] : List Int32)) (T4 : Str Z Z.heap s4 ([(60 : Int32), (61 : Int32)] : List Int32)) (T5 : Str Z Z.heap s5 ([(62 : Int32), (61 : Int32)] : List Int32)) (T : Str Z h0 a1 cs) (hbg : ¬ cs = [33, 61]) (g0_ : ¬ cs = [61]) (g1_ : ¬ cs = [60, 62]) (g2_ : ¬ cs = [60]) (g3_ : cs = [62]) :
    MetFree l (⟨"com/example/plugroot/plugroot/sql/Comparison", "of", "(Ljava/lang/String;)Lcom/example/plugroot/plugroot/sql/Comparison;"⟩ : MethodName) (head1 (Jvm.Cond.code (⟨"com/example/plugroot/plugroot/sql/Comparison", "of", "(Ljava/lang/String;)Lcom/example/plugroot/plugroot/sql/Comparison;"⟩ : MethodName) prog_73_method_4_code 6 (some (.object "com/example/plugroot/plugroot/sql/Comparison")) :: ws) ({ frames := 2, cells := 5, slots := 30, locals := 28 } : Room)) (fun a_ U => a_ = #[(.ref a1)] ∧ Z.Warmed39 U.vm ∧ U.heap = h0 ∧ CHv Z consts_1 U.vm h0) (fun _ _ _ _ _ => True) (fun _ U o U' => ∃ v L, o = .returned v ∧ Q5 (.ref w3) h0 n0 v U'.heap L ∧ CHr Z consts_1 U.vm U.heap U'.vm U'.heap ∧ ReturnedEndW U o U' L ({ frames := 2, cells := 5, slots := 30, locals := 28 } : Room).cells ({ frames := 2, cells := 5, slots := 30, locals := 28 } : Room).slots) := by
  refine MetFree.of_bodySF (plainFor_of_name pn_1) hisR ?_
  intro p e s m args below meth c s₁ Bd hml0 hP hK
  obtain ⟨rfl, hZ, hh, hC⟩ := hP
  have hx := Bd.exec
  have hby := Bd.bytes
  have hml : c.maxLocals = 6 := hml0
  have hown : s.vm.findClass "com/example/plugroot/plugroot/sql/Comparison" = some m.cls := findClass_of_methodNamed Bd.named
  have hnm := (name_of_methodNamed Bd.named Bd.method).1
  have X0 : Stand p l e ({ frames := 2, cells := 5, slots := 30, locals := 28 } : Room) (s.setVm s.vm) m #[(.ref a1)] below meth c s₁ [] 0 0 := Stand.of_body Bd
  have e0 : s₁.heap = h0 := by rw [← hh, Bd.state]; rfl
  have N0 := Fr.nil n0
  have pre0 : ∀ tg, Steps p.tables e below (s₁.setTop (mkF m 0 #[.val (.ref a1), .unset, .unset, .unset, .unset, .unset] [])) tg → Steps p.tables e below (s₁.setTop (entryFrame m #[(.ref a1)] 6)) tg := fun tg kq => castTop (ef_R_6 m a1) kq
  have hS0 : s.Since s.vm h0.size := (State.WarmedH.refl s).since _
  have hk0 : h0.size ≤ h0.size := Nat.le_refl _
  have CR0 : CHr Z consts_1 s.vm h0 s.vm h0 := CHr.refl hC
  obtain ⟨tm0, kbm0, Nm0, vsm0, sEm0, sVm0, sCm0, sKm0, scdm0, shpm0, shlm0⟩ := id T0
  obtain ⟨tm1, kbm1, Nm1, vsm1, sEm1, sVm1, sCm1, sKm1, scdm1, shpm1, shlm1⟩ := id T1
  obtain ⟨tm2, kbm2, Nm2, vsm2, sEm2, sVm2, sCm2, sKm2, scdm2, shpm2, shlm2⟩ := id T2
  obtain ⟨tm3, kbm3, Nm3, vsm3, sEm3, sVm3, sCm3, sKm3, scdm3, shpm3, shlm3⟩ := id T3
  obtain ⟨tm4, kbm4, Nm4, vsm4, sEm4, sVm4, sCm4, sKm4, scdm4, shpm4, shlm4⟩ := id T4
  obtain ⟨tm5, kbm5, Nm5, vsm5, sEm5, sVm5, sCm5, sKm5, scdm5, shpm5, shlm5⟩ := id T5
  obtain ⟨ta, kba, Na, vsa, sEa, sVa, sCa, sKa, scda, shpa, shla⟩ := id T
  obtain ⟨a101, T101, h101, k101, b101, kb101, X101, e101, E101, hS101, hk101, hZ101, hown101, lE101, lC101, lV101, lK101, la101, lb101, CS101, lL101, lne101, st101⟩ := ldcCH (s := s) (EL := consts_1) X0 hx hZ hown (wi hw 30 rfl) (fun d hd => hw d (own_strw d hd)) e0 hS0 hk0 (own_EW hw) (by decide) CR0.1 (vs := [(.int (33 : Int32)), (.int (61 : Int32))]) (z := (2 : Int32)) ⟨by decide, by decide⟩ (by decide) (by decide) (g := (mkF m 1 #[.val (.ref a1), .unset, .unset, .unset, .unset, .unset] [(.ref a1)])) rfl (hb hby d5_1) (n := 8) (by decide) (by decide) (by decide) (by decide)
  have O101 := O0.ext E101
  have CR101 := CR0.trans CS101
  have KK101 : Keep h0 h101 [] := (Keep.refl h0 []).ext E101
  have lcd101 : StrChars.Road.CodA ([(33 : Int32), (61 : Int32)] : List Int32) 0 (2 : Int32) [(.int (33 : Int32)), (.int (61 : Int32))] := Or.inl ⟨rfl, rfl, rfl, by decide⟩
  have lhp101 : ∀ c ∈ ([(33 : Int32), (61 : Int32)] : List Int32), ¬ c < 0 ∧ ¬ (255 : Int32) < c := by decide
  have fE_a1_1_102 := (sEa.ext E101)
  have fString_value_1_103 := (sVa.ext E101)
  have fString_coder_1_104 := (sCa.ext E101)
  have fV_ta_1_105 := (sKa.ext E101)
  obtain ⟨cq106, kq106, q106a, q106b, q106c⟩ := isOf hZ101 e101 fE_a1_1_102
  obtain ⟨_, _, ⟨T106, L106, k106, n106⟩, -, X106, ⟨Lc106, hQ106, l106, y106, z106⟩, st106⟩ := X101.virtualBack hx (y := (⟨"java/lang/String", "equals", "(Ljava/lang/Object;)Z"⟩ : MethodName)) (z := (⟨"java/lang/String", "equals", "(Ljava/lang/Object;)Z"⟩ : MethodName)) hown101 (mvT hZ101 (wi hw 31 rfl)) (mvT hZ101 (wi hw 32 rfl)) (notFace_of_selects (args := #[]) (mvT hZ101 (wi hw 34 rfl))) (mvT hZ101 (wi hw 34 rfl)) (mvT hZ101 (wi hw 33 rfl)) (by decide) (StrChars.Road.eqW (W := 0) hZ101 (fun d hd => hw d (own_w_eqW d hd)) (kI := 4) (wi hw 6 rfl) fE_a1_1_102 fString_value_1_103 fString_coder_1_104 fV_ta_1_105 scda (own_up _ shpa) shla lE101 lV101 lC101 lK101 lcd101 (own_up _ lhp101) (by decide) (S_CS.ext O101.2) hG1 (by decide) (by decide)) q106a q106c (g := (mkF m 3 #[.val (.ref a1), .unset, .unset, .unset, .unset, .unset] [(.ref a101), (.ref a1)])) rfl (by rw [hml]; rfl) (Steps.refl _) (argsL := [(.ref a101)]) (rest := []) (lenOf pd_0 rfl) rfl (by show 2 * 0 + _ ≤ _; exact Nat.le_of_eq rfl) (hb hby d5_3) (fun _ _ => ⟨rfl, e101, (by decide : 2 + 0 ≤ _), (by decide : 12 + 0 ≤ _)⟩)
  dsimp only [Pt.U, Pt.locs, Pt.cells, Pt.slots] at X106 l106 y106 z106 st106 hQ106
  subst l106 y106 z106
  obtain ⟨hv106, rfl, hh106⟩ := hQ106
  obtain rfl := (hv106.resolve_left (fun q => (hbg : ¬ cs = ([(33 : Int32), (61 : Int32)] : List Int32)) q.2)).1
  have N106q : Fr n0 ([] : List Loc) := Fr.nil n0
  have e106 : T106.heap = h101 := hh106
  have N106 := Fr.app N0 N106q
  obtain ⟨_, _, ⟨T107, L107, k107, n107⟩, -, X107, ⟨Lc107, hQ107, l107, y107, z107⟩, st107⟩ := Jvm.LawKit.callS X106 hx (y := (⟨"com/example/plugroot/plugroot/sql/Comparison", "values", "()[Lcom/example/plugroot/plugroot/sql/Comparison;"⟩ : MethodName)) hown101 (mvT hZ101 (wi hw 42 rfl)) (mvT hZ101 (wi hw 43 rfl)) (mvT hZ101 (wi hw 28 rfl)) (mvT hZ101 (wi hw 44 rfl)) (by decide) (backOf (W := 0) (rm8 l Z a0 hw [] kV wV w0 w1 w2 w3 w4 w5 h101 n0 O101 S_V A_V E_V) hZ101 (wi hw 44 rfl) (wi hw 28 rfl) (by decide) (by decide)) (g := (mkF m 16 #[.val (.ref a1), .val (.ref a1), .unset, .unset, .unset, .unset] [])) rfl (by rw [hml]; rfl) (argsL := []) (rest := []) (lenOf pd_1 rfl) rfl (by show 2 * 0 + _ ≤ _; exact Nat.le_of_eq rfl) (hb hby d5_16) (fun _ _ => ⟨rfl, e106, (by decide : 2 + 1 ≤ _), (by decide : 12 + 6 ≤ _)⟩)
  dsimp only [Pt.U, Pt.locs, Pt.cells, Pt.slots] at X107 l107 y107 z107 st107 hQ107
  subst l107 y107 z107
  obtain ⟨bv107, rfl, N107q, K107, szv107, Av107⟩ := hQ107
  obtain ⟨h107, e107⟩ : ∃ z, T107.heap = z := ⟨_, rfl⟩
  rw [e107] at K107 Av107
  have g_bv107 : n0 ≤ bv107 := Nat.le_trans (O101.1 ▸ O101.2.1) szv107
  have sz_bv107 : h0.size ≤ bv107 := Nat.le_trans KK101.1 szv107
  have O107 := O101.keep K107 all0
  have CS107 := CHr.keep K107 sf0 CR101.1
  have CR107 := CR101.trans CS107
  have KK107 : Keep h0 h107 [] := KK101.trans K107 all0
  have N107 := Fr.app N106 N107q
  obtain ⟨cl_bv107_19, Ar_bv107_19, -, S_bv107_19, N_bv107_19, -, -⟩ := id (Av107)
  obtain ⟨cl_bv107_38, Ar_bv107_38, q_bv107_38, S_bv107_38, N_bv107_38, H_bv107_38, G_bv107_38⟩ := id (Av107)
  have hinbv107_38 : ¬ ((0 : Int32) < 0 ∨ cl_bv107_38.slots.size ≤ ((0 : Int32)).toNatClampNeg) := inb_of S_bv107_38 ⟨by decide, by decide⟩
  have hatbv107_38 : cl_bv107_38.slots[((0 : Int32)).toNatClampNeg]? = some (.ref w0) := H_bv107_38.at hinbv107_38 rfl
  obtain ⟨T108, X108, e108, st108⟩ := getF X107 hx hZ101 hown101 (host := "") (Or.inl (wi hw 63 rfl)) Via.refl e107 (M0.ext O107.2) (g := (mkF m 40 #[.val (.ref a1), .val (.ref a1), .val (.ref bv107), .val (.int (6 : Int32)), .val (.int (0 : Int32)), .val (.ref w0)] [(.ref w0)])) rfl rfl (hb hby d5_40)
  have fE_a1_2_109 := (fE_a1_1_102.keep K107)
  have fString_value_2_110 := (fString_value_1_103.keep K107 nin0)
  have fString_coder_2_111 := (fString_coder_1_104.keep K107 nin0)
  have fV_ta_2_112 := (fV_ta_1_105.keep K107 nin0)
  obtain ⟨cq113, kq113, q113a, q113b, q113c⟩ := isOf hZ101 e108 (sEm0.ext O107.2)
  obtain ⟨_, _, ⟨T113, L113, k113, n113⟩, -, X113, ⟨Lc113, hQ113, l113, y113, z113⟩, st113⟩ := X108.virtualBack hx (y := (⟨"java/lang/String", "equals", "(Ljava/lang/Object;)Z"⟩ : MethodName)) (z := (⟨"java/lang/String", "equals", "(Ljava/lang/Object;)Z"⟩ : MethodName)) hown101 (mvT hZ101 (wi hw 31 rfl)) (mvT hZ101 (wi hw 32 rfl)) (notFace_of_selects (args := #[]) (mvT hZ101 (wi hw 34 rfl))) (mvT hZ101 (wi hw 34 rfl)) (mvT hZ101 (wi hw 33 rfl)) (by decide) (StrChars.Road.eqW (W := 0) hZ101 (fun d hd => hw d (own_w_eqW d hd)) (kI := 4) (wi hw 6 rfl) (sEm0.ext O107.2) (sVm0.ext O107.2) (sCm0.ext O107.2) (sKm0.ext O107.2) scdm0 (own_up _ shpm0) shlm0 fE_a1_2_109 fString_value_2_110 fString_coder_2_111 fV_ta_2_112 scda (own_up _ shpa) shla (S_CS.ext O107.2) hG1 (by decide) (by decide)) q113a q113c (g := (mkF m 44 #[.val (.ref a1), .val (.ref a1), .val (.ref bv107), .val (.int (6 : Int32)), .val (.int (0 : Int32)), .val (.ref w0)] [(.ref a1), (.ref s0)])) rfl (by rw [hml]; rfl) (Steps.refl _) (argsL := [(.ref a1)]) (rest := []) (lenOf pd_0 rfl) rfl (by show 2 * 0 + _ ≤ _; exact Nat.le_of_eq rfl) (hb hby d5_44) (fun _ _ => ⟨rfl, e108, (by decide : 3 + 0 ≤ _), (by decide : 18 + 0 ≤ _)⟩)
  dsimp only [Pt.U, Pt.locs, Pt.cells, Pt.slots] at X113 l113 y113 z113 st113 hQ113
  subst l113 y113 z113
  obtain ⟨hv113, rfl, hh113⟩ := hQ113
  obtain rfl := (hv113.resolve_left (fun q => ((fun z => g0_ z.symm) : ¬ ([(61 : Int32)] : List Int32) = cs) q.2)).1
  have N113q : Fr n0 ([] : List Loc) := Fr.nil n0
  have e113 : T113.heap = h107 := hh113
  have N113 := Fr.app N107 N113q
  obtain ⟨cl_bv107_66, Ar_bv107_66, q_bv107_66, S_bv107_66, N_bv107_66, H_bv107_66, G_bv107_66⟩ := id (Av107)
  have hinbv107_66 : ¬ ((1 : Int32) < 0 ∨ cl_bv107_66.slots.size ≤ ((1 : Int32)).toNatClampNeg) := inb_of S_bv107_66 ⟨by decide, by decide⟩
  have hatbv107_66 : cl_bv107_66.slots[((1 : Int32)).toNatClampNeg]? = some (.ref w1) := H_bv107_66.at hinbv107_66 rfl
  obtain ⟨T114, X114, e114, st114⟩ := getF X113 hx hZ101 hown101 (host := "") (Or.inl (wi hw 63 rfl)) Via.refl e113 (M1.ext O107.2) (g := (mkF m 40 #[.val (.ref a1), .val (.ref a1), .val (.ref bv107), .val (.int (6 : Int32)), .val (.int (1 : Int32)), .val (.ref w1)] [(.ref w1)])) rfl rfl (hb hby d5_40)
  obtain ⟨cq115, kq115, q115a, q115b, q115c⟩ := isOf hZ101 e114 (sEm1.ext O107.2)
  obtain ⟨_, _, ⟨T115, L115, k115, n115⟩, -, X115, ⟨Lc115, hQ115, l115, y115, z115⟩, st115⟩ := X114.virtualBack hx (y := (⟨"java/lang/String", "equals", "(Ljava/lang/Object;)Z"⟩ : MethodName)) (z := (⟨"java/lang/String", "equals", "(Ljava/lang/Object;)Z"⟩ : MethodName)) hown101 (mvT hZ101 (wi hw 31 rfl)) (mvT hZ101 (wi hw 32 rfl)) (notFace_of_selects (args := #[]) (mvT hZ101 (wi hw 34 rfl))) (mvT hZ101 (wi hw 34 rfl)) (mvT hZ101 (wi hw 33 rfl)) (by decide) (StrChars.Road.eqW (W := 0) hZ101 (fun d hd => hw d (own_w_eqW d hd)) (kI := 4) (wi hw 6 rfl) (sEm1.ext O107.2) (sVm1.ext O107.2) (sCm1.ext O107.2) (sKm1.ext O107.2) scdm1 (own_up _ shpm1) shlm1 fE_a1_2_109 fString_value_2_110 fString_coder_2_111 fV_ta_2_112 scda (own_up _ shpa) shla (S_CS.ext O107.2) hG1 (by decide) (by decide)) q115a q115c (g := (mkF m 44 #[.val (.ref a1), .val (.ref a1), .val (.ref bv107), .val (.int (6 : Int32)), .val (.int (1 : Int32)), .val (.ref w1)] [(.ref a1), (.ref s1)])) rfl (by rw [hml]; rfl) (Steps.refl _) (argsL := [(.ref a1)]) (rest := []) (lenOf pd_0 rfl) rfl (by show 2 * 0 + _ ≤ _; exact Nat.le_of_eq rfl) (hb hby d5_44) (fun _ _ => ⟨rfl, e114, (by decide : 3 + 0 ≤ _), (by decide : 18 + 0 ≤ _)⟩)
  dsimp only [Pt.U, Pt.locs, Pt.cells, Pt.slots] at X115 l115 y115 z115 st115 hQ115
  subst l115 y115 z115
  obtain ⟨hv115, rfl, hh115⟩ := hQ115
  obtain rfl := (hv115.resolve_left (fun q => ((fun z => g1_ z.symm) : ¬ ([(60 : Int32), (62 : Int32)] : List Int32) = cs) q.2)).1
  have N115q : Fr n0 ([] : List Loc) := Fr.nil n0
  have e115 : T115.heap = h107 := hh115
  have N115 := Fr.app N113 N115q
  obtain ⟨cl_bv107_94, Ar_bv107_94, q_bv107_94, S_bv107_94, N_bv107_94, H_bv107_94, G_bv107_94⟩ := id (Av107)
  have hinbv107_94 : ¬ ((2 : Int32) < 0 ∨ cl_bv107_94.slots.size ≤ ((2 : Int32)).toNatClampNeg) := inb_of S_bv107_94 ⟨by decide, by decide⟩
  have hatbv107_94 : cl_bv107_94.slots[((2 : Int32)).toNatClampNeg]? = some (.ref w2) := H_bv107_94.at hinbv107_94 rfl
  obtain ⟨T116, X116, e116, st116⟩ := getF X115 hx hZ101 hown101 (host := "") (Or.inl (wi hw 63 rfl)) Via.refl e115 (M2.ext O107.2) (g := (mkF m 40 #[.val (.ref a1), .val (.ref a1), .val (.ref bv107), .val (.int (6 : Int32)), .val (.int (2 : Int32)), .val (.ref w2)] [(.ref w2)])) rfl rfl (hb hby d5_40)
  obtain ⟨cq117, kq117, q117a, q117b, q117c⟩ := isOf hZ101 e116 (sEm2.ext O107.2)
  obtain ⟨_, _, ⟨T117, L117, k117, n117⟩, -, X117, ⟨Lc117, hQ117, l117, y117, z117⟩, st117⟩ := X116.virtualBack hx (y := (⟨"java/lang/String", "equals", "(Ljava/lang/Object;)Z"⟩ : MethodName)) (z := (⟨"java/lang/String", "equals", "(Ljava/lang/Object;)Z"⟩ : MethodName)) hown101 (mvT hZ101 (wi hw 31 rfl)) (mvT hZ101 (wi hw 32 rfl)) (notFace_of_selects (args := #[]) (mvT hZ101 (wi hw 34 rfl))) (mvT hZ101 (wi hw 34 rfl)) (mvT hZ101 (wi hw 33 rfl)) (by decide) (StrChars.Road.eqW (W := 0) hZ101 (fun d hd => hw d (own_w_eqW d hd)) (kI := 4) (wi hw 6 rfl) (sEm2.ext O107.2) (sVm2.ext O107.2) (sCm2.ext O107.2) (sKm2.ext O107.2) scdm2 (own_up _ shpm2) shlm2 fE_a1_2_109 fString_value_2_110 fString_coder_2_111 fV_ta_2_112 scda (own_up _ shpa) shla (S_CS.ext O107.2) hG1 (by decide) (by decide)) q117a q117c (g := (mkF m 44 #[.val (.ref a1), .val (.ref a1), .val (.ref bv107), .val (.int (6 : Int32)), .val (.int (2 : Int32)), .val (.ref w2)] [(.ref a1), (.ref s2)])) rfl (by rw [hml]; rfl) (Steps.refl _) (argsL := [(.ref a1)]) (rest := []) (lenOf pd_0 rfl) rfl (by show 2 * 0 + _ ≤ _; exact Nat.le_of_eq rfl) (hb hby d5_44) (fun _ _ => ⟨rfl, e116, (by decide : 3 + 0 ≤ _), (by decide : 18 + 0 ≤ _)⟩)
  dsimp only [Pt.U, Pt.locs, Pt.cells, Pt.slots] at X117 l117 y117 z117 st117 hQ117
  subst l117 y117 z117
  obtain ⟨hv117, rfl, hh117⟩ := hQ117
  obtain rfl := (hv117.resolve_left (fun q => ((fun z => g2_ z.symm) : ¬ ([(60 : Int32)] : List Int32) = cs) q.2)).1
  have N117q : Fr n0 ([] : List Loc) := Fr.nil n0
  have e117 : T117.heap = h107 := hh117
  have N117 := Fr.app N115 N117q
  obtain ⟨cl_bv107_122, Ar_bv107_122, q_bv107_122, S_bv107_122, N_bv107_122, H_bv107_122, G_bv107_122⟩ := id (Av107)
  have hinbv107_122 : ¬ ((3 : Int32) < 0 ∨ cl_bv107_122.slots.size ≤ ((3 : Int32)).toNatClampNeg) := inb_of S_bv107_122 ⟨by decide, by decide⟩
  have hatbv107_122 : cl_bv107_122.slots[((3 : Int32)).toNatClampNeg]? = some (.ref w3) := H_bv107_122.at hinbv107_122 rfl
  obtain ⟨T118, X118, e118, st118⟩ := getF X117 hx hZ101 hown101 (host := "") (Or.inl (wi hw 63 rfl)) Via.refl e117 (M3.ext O107.2) (g := (mkF m 40 #[.val (.ref a1), .val (.ref a1), .val (.ref bv107), .val (.int (6 : Int32)), .val (.int (3 : Int32)), .val (.ref w3)] [(.ref w3)])) rfl rfl (hb hby d5_40)
  obtain ⟨cq119, kq119, q119a, q119b, q119c⟩ := isOf hZ101 e118 (sEm3.ext O107.2)
  obtain ⟨_, _, ⟨T119, L119, k119, n119⟩, -, X119, ⟨Lc119, hQ119, l119, y119, z119⟩, st119⟩ := X118.virtualBack hx (y := (⟨"java/lang/String", "equals", "(Ljava/lang/Object;)Z"⟩ : MethodName)) (z := (⟨"java/lang/String", "equals", "(Ljava/lang/Object;)Z"⟩ : MethodName)) hown101 (mvT hZ101 (wi hw 31 rfl)) (mvT hZ101 (wi hw 32 rfl)) (notFace_of_selects (args := #[]) (mvT hZ101 (wi hw 34 rfl))) (mvT hZ101 (wi hw 34 rfl)) (mvT hZ101 (wi hw 33 rfl)) (by decide) (StrChars.Road.eqW (W := 0) hZ101 (fun d hd => hw d (own_w_eqW d hd)) (kI := 4) (wi hw 6 rfl) (sEm3.ext O107.2) (sVm3.ext O107.2) (sCm3.ext O107.2) (sKm3.ext O107.2) scdm3 (own_up _ shpm3) shlm3 fE_a1_2_109 fString_value_2_110 fString_coder_2_111 fV_ta_2_112 scda (own_up _ shpa) shla (S_CS.ext O107.2) hG1 (by decide) (by decide)) q119a q119c (g := (mkF m 44 #[.val (.ref a1), .val (.ref a1), .val (.ref bv107), .val (.int (6 : Int32)), .val (.int (3 : Int32)), .val (.ref w3)] [(.ref a1), (.ref s3)])) rfl (by rw [hml]; rfl) (Steps.refl _) (argsL := [(.ref a1)]) (rest := []) (lenOf pd_0 rfl) rfl (by show 2 * 0 + _ ≤ _; exact Nat.le_of_eq rfl) (hb hby d5_44) (fun _ _ => ⟨rfl, e118, (by decide : 3 + 0 ≤ _), (by decide : 18 + 0 ≤ _)⟩)
  dsimp only [Pt.U, Pt.locs, Pt.cells, Pt.slots] at X119 l119 y119 z119 st119 hQ119
  subst l119 y119 z119
  obtain ⟨hv119, rfl, hh119⟩ := hQ119
  obtain rfl := (hv119.resolve_right (fun q => q.2 (g3_.symm : ([(62 : Int32)] : List Int32) = cs))).1
  have N119q : Fr n0 ([] : List Loc) := Fr.nil n0
  have e119 : T119.heap = h107 := hh119
  have N119 := Fr.app N117 N119q
  obtain ⟨fs, hr, hrun, hended, hREW⟩ := X119.leaveW hS101 (by rw [e119]; exact (Nat.le_trans hk101 K107.1)) (v := some (.ref w3)) (fun h => by rw [Bd.returns] at h; cases h)
  refine ⟨_, _, pre0 _ ?_, hrun, hended, _, _, rfl, ?_, (by rw [hh]; show CHr Z consts_1 s.vm h0 T119.vm T119.heap; rw [e119]; exact CR107.trans (CHv.at X119 hZ101 (own_EW hw) CR107.1)), hREW.1, hREW.2.1, hREW.2.2.1, hREW.2.2.2.mono (by decide) (by decide)⟩
  · show Steps p.tables e below (s₁.setTop (mkF m 0 #[.val (.ref a1), .unset, .unset, .unset, .unset, .unset] [])) _
    refine XS.aloadN X0.here hx rfl (hb hby d5_0) rfl rfl ?_
    show Steps p.tables e below (s₁.setTop (mkF m 1 #[.val (.ref a1), .unset, .unset, .unset, .unset, .unset] [(.ref a1)])) _
    refine st101 _ ?_
    show Steps p.tables e below (T101.setTop (mkF m 3 #[.val (.ref a1), .unset, .unset, .unset, .unset, .unset] [(.ref a101), (.ref a1)])) _
    refine st106.trans ?_
    show Steps p.tables e below (T106.setTop (mkF m 6 #[.val (.ref a1), .unset, .unset, .unset, .unset, .unset] [(.int (0 : Int32))])) _
    refine XS.ifYes X106.here hx rfl (pc0 := 6) (pc' := 14) rfl (hb hby d5_6) rfl ((if0 _ _).trans (teq (by decide : (0 : Int32) = (0 : Int32))).1) (by decide) (by decide) ?_
    show Steps p.tables e below (T106.setTop (mkF m 14 #[.val (.ref a1), .unset, .unset, .unset, .unset, .unset] [])) _
    refine XS.aloadN X106.here hx rfl (hb hby d5_14) rfl rfl ?_
    show Steps p.tables e below (T106.setTop (mkF m 15 #[.val (.ref a1), .unset, .unset, .unset, .unset, .unset] [(.ref a1)])) _
    refine XS.astoreN X106.here hx rfl (hb hby d5_15) rfl rfl (l' := #[.val (.ref a1), .val (.ref a1), .unset, .unset, .unset, .unset]) rfl ?_
    show Steps p.tables e below (T106.setTop (mkF m 16 #[.val (.ref a1), .val (.ref a1), .unset, .unset, .unset, .unset] [])) _
    refine st107 _ ?_
    show Steps p.tables e below (T107.setTop (mkF m 19 #[.val (.ref a1), .val (.ref a1), .unset, .unset, .unset, .unset] [(.ref bv107)])) _
    refine XS.astoreN X107.here hx rfl (hb hby d5_19) rfl rfl (l' := #[.val (.ref a1), .val (.ref a1), .val (.ref bv107), .unset, .unset, .unset]) rfl ?_
    show Steps p.tables e below (T107.setTop (mkF m 20 #[.val (.ref a1), .val (.ref a1), .val (.ref bv107), .unset, .unset, .unset] [])) _
    refine XS.aloadN X107.here hx rfl (hb hby d5_20) rfl rfl ?_
    show Steps p.tables e below (T107.setTop (mkF m 21 #[.val (.ref a1), .val (.ref a1), .val (.ref bv107), .unset, .unset, .unset] [(.ref bv107)])) _
    refine X107.arraylength hx (by rw [e107]; exact Ar_bv107_19.1) (State.isArrayOf_alike hZ101.alike Ar_bv107_19.2.1) (g := (mkF m 21 #[.val (.ref a1), .val (.ref a1), .val (.ref bv107), .unset, .unset, .unset] [(.ref bv107)])) rfl rfl (hb hby d5_21) _ ?_
    rw [len_of S_bv107_19 N_bv107_19]
    show Steps p.tables e below (T107.setTop (mkF m 22 #[.val (.ref a1), .val (.ref a1), .val (.ref bv107), .unset, .unset, .unset] [(.int (6 : Int32))])) _
    refine XS.istoreN X107.here hx rfl (hb hby d5_22) rfl (l' := #[.val (.ref a1), .val (.ref a1), .val (.ref bv107), .val (.int (6 : Int32)), .unset, .unset]) rfl ?_
    show Steps p.tables e below (T107.setTop (mkF m 23 #[.val (.ref a1), .val (.ref a1), .val (.ref bv107), .val (.int (6 : Int32)), .unset, .unset] [])) _
    refine XS.iconst X107.here hx rfl (hb hby d5_23) ?_
    show Steps p.tables e below (T107.setTop (mkF m 24 #[.val (.ref a1), .val (.ref a1), .val (.ref bv107), .val (.int (6 : Int32)), .unset, .unset] [(.int (0 : Int32))])) _
    refine XS.istore X107.here hx rfl (hb hby d5_24) rfl (l' := #[.val (.ref a1), .val (.ref a1), .val (.ref bv107), .val (.int (6 : Int32)), .val (.int (0 : Int32)), .unset]) rfl ?_
    show Steps p.tables e below (T107.setTop (mkF m 26 #[.val (.ref a1), .val (.ref a1), .val (.ref bv107), .val (.int (6 : Int32)), .val (.int (0 : Int32)), .unset] [])) _
    refine XS.iload X107.here hx rfl (hb hby d5_26) rfl ?_
    show Steps p.tables e below (T107.setTop (mkF m 28 #[.val (.ref a1), .val (.ref a1), .val (.ref bv107), .val (.int (6 : Int32)), .val (.int (0 : Int32)), .unset] [(.int (0 : Int32))])) _
    refine XS.iloadN X107.here hx rfl (hb hby d5_28) rfl ?_
    show Steps p.tables e below (T107.setTop (mkF m 29 #[.val (.ref a1), .val (.ref a1), .val (.ref bv107), .val (.int (6 : Int32)), .val (.int (0 : Int32)), .unset] [(.int (6 : Int32)), (.int (0 : Int32))])) _
    refine XS.icmpNo X107.here hx rfl (hb hby d5_29) rfl (tlt (by decide : (0 : Int32) < (6 : Int32))).2.1 ?_
    show Steps p.tables e below (T107.setTop (mkF m 32 #[.val (.ref a1), .val (.ref a1), .val (.ref bv107), .val (.int (6 : Int32)), .val (.int (0 : Int32)), .unset] [])) _
    refine XS.aloadN X107.here hx rfl (hb hby d5_32) rfl rfl ?_
    show Steps p.tables e below (T107.setTop (mkF m 33 #[.val (.ref a1), .val (.ref a1), .val (.ref bv107), .val (.int (6 : Int32)), .val (.int (0 : Int32)), .unset] [(.ref bv107)])) _
    refine XS.iload X107.here hx rfl (hb hby d5_33) rfl ?_
    show Steps p.tables e below (T107.setTop (mkF m 35 #[.val (.ref a1), .val (.ref a1), .val (.ref bv107), .val (.int (6 : Int32)), .val (.int (0 : Int32)), .unset] [(.int (0 : Int32)), (.ref bv107)])) _
    refine X107.aaload hx (j := (0 : Int32)) (v := (.ref w0)) (by rw [e107]; exact Ar_bv107_38.1) (State.isArrayOf_alike hZ101.alike Ar_bv107_38.2.1) rfl Ar_bv107_38.2.2 hinbv107_38 hatbv107_38 (g := (mkF m 35 #[.val (.ref a1), .val (.ref a1), .val (.ref bv107), .val (.int (6 : Int32)), .val (.int (0 : Int32)), .unset] [(.int (0 : Int32)), (.ref bv107)])) rfl rfl (hb hby d5_35) _ ?_
    show Steps p.tables e below (T107.setTop (mkF m 36 #[.val (.ref a1), .val (.ref a1), .val (.ref bv107), .val (.int (6 : Int32)), .val (.int (0 : Int32)), .unset] [(.ref w0)])) _
    refine XS.astore X107.here hx rfl (hb hby d5_36) rfl rfl (l' := #[.val (.ref a1), .val (.ref a1), .val (.ref bv107), .val (.int (6 : Int32)), .val (.int (0 : Int32)), .val (.ref w0)]) rfl ?_
    show Steps p.tables e below (T107.setTop (mkF m 38 #[.val (.ref a1), .val (.ref a1), .val (.ref bv107), .val (.int (6 : Int32)), .val (.int (0 : Int32)), .val (.ref w0)] [])) _
    refine XS.aload X107.here hx rfl (hb hby d5_38) rfl rfl ?_
    show Steps p.tables e below (T107.setTop (mkF m 40 #[.val (.ref a1), .val (.ref a1), .val (.ref bv107), .val (.int (6 : Int32)), .val (.int (0 : Int32)), .val (.ref w0)] [(.ref w0)])) _
    refine st108 _ ?_
    show Steps p.tables e below (T108.setTop (mkF m 43 #[.val (.ref a1), .val (.ref a1), .val (.ref bv107), .val (.int (6 : Int32)), .val (.int (0 : Int32)), .val (.ref w0)] [(.ref s0)])) _
    refine XS.aloadN X108.here hx rfl (hb hby d5_43) rfl rfl ?_
    show Steps p.tables e below (T108.setTop (mkF m 44 #[.val (.ref a1), .val (.ref a1), .val (.ref bv107), .val (.int (6 : Int32)), .val (.int (0 : Int32)), .val (.ref w0)] [(.ref a1), (.ref s0)])) _
    refine st113.trans ?_
    show Steps p.tables e below (T113.setTop (mkF m 47 #[.val (.ref a1), .val (.ref a1), .val (.ref bv107), .val (.int (6 : Int32)), .val (.int (0 : Int32)), .val (.ref w0)] [(.int (0 : Int32))])) _
    refine XS.ifYes X113.here hx rfl (pc0 := 47) (pc' := 53) rfl (hb hby d5_47) rfl ((if0 _ _).trans (teq (by decide : (0 : Int32) = (0 : Int32))).1) (by decide) (by decide) ?_
    show Steps p.tables e below (T113.setTop (mkF m 53 #[.val (.ref a1), .val (.ref a1), .val (.ref bv107), .val (.int (6 : Int32)), .val (.int (0 : Int32)), .val (.ref w0)] [])) _
    refine XS.iinc X113.here hx rfl (hb hby d5_53) rfl (l' := #[.val (.ref a1), .val (.ref a1), .val (.ref bv107), .val (.int (6 : Int32)), .val (.int (1 : Int32)), .val (.ref w0)]) rfl ?_
    show Steps p.tables e below (T113.setTop (mkF m 56 #[.val (.ref a1), .val (.ref a1), .val (.ref bv107), .val (.int (6 : Int32)), .val (.int (1 : Int32)), .val (.ref w0)] [])) _
    refine XS.goto X113.here hx rfl (pc0 := 56) (pc' := 26) rfl (hb hby d5_56) (by decide) (by decide) ?_
    show Steps p.tables e below (T113.setTop (mkF m 26 #[.val (.ref a1), .val (.ref a1), .val (.ref bv107), .val (.int (6 : Int32)), .val (.int (1 : Int32)), .val (.ref w0)] [])) _
    refine XS.iload X113.here hx rfl (hb hby d5_26) rfl ?_
    show Steps p.tables e below (T113.setTop (mkF m 28 #[.val (.ref a1), .val (.ref a1), .val (.ref bv107), .val (.int (6 : Int32)), .val (.int (1 : Int32)), .val (.ref w0)] [(.int (1 : Int32))])) _
    refine XS.iloadN X113.here hx rfl (hb hby d5_28) rfl ?_
    show Steps p.tables e below (T113.setTop (mkF m 29 #[.val (.ref a1), .val (.ref a1), .val (.ref bv107), .val (.int (6 : Int32)), .val (.int (1 : Int32)), .val (.ref w0)] [(.int (6 : Int32)), (.int (1 : Int32))])) _
    refine XS.icmpNo X113.here hx rfl (hb hby d5_29) rfl (tlt (by decide : (1 : Int32) < (6 : Int32))).2.1 ?_
    show Steps p.tables e below (T113.setTop (mkF m 32 #[.val (.ref a1), .val (.ref a1), .val (.ref bv107), .val (.int (6 : Int32)), .val (.int (1 : Int32)), .val (.ref w0)] [])) _
    refine XS.aloadN X113.here hx rfl (hb hby d5_32) rfl rfl ?_
    show Steps p.tables e below (T113.setTop (mkF m 33 #[.val (.ref a1), .val (.ref a1), .val (.ref bv107), .val (.int (6 : Int32)), .val (.int (1 : Int32)), .val (.ref w0)] [(.ref bv107)])) _
    refine XS.iload X113.here hx rfl (hb hby d5_33) rfl ?_
    show Steps p.tables e below (T113.setTop (mkF m 35 #[.val (.ref a1), .val (.ref a1), .val (.ref bv107), .val (.int (6 : Int32)), .val (.int (1 : Int32)), .val (.ref w0)] [(.int (1 : Int32)), (.ref bv107)])) _
    refine X113.aaload hx (j := (1 : Int32)) (v := (.ref w1)) (by rw [e113]; exact Ar_bv107_66.1) (State.isArrayOf_alike hZ101.alike Ar_bv107_66.2.1) rfl Ar_bv107_66.2.2 hinbv107_66 hatbv107_66 (g := (mkF m 35 #[.val (.ref a1), .val (.ref a1), .val (.ref bv107), .val (.int (6 : Int32)), .val (.int (1 : Int32)), .val (.ref w0)] [(.int (1 : Int32)), (.ref bv107)])) rfl rfl (hb hby d5_35) _ ?_
    show Steps p.tables e below (T113.setTop (mkF m 36 #[.val (.ref a1), .val (.ref a1), .val (.ref bv107), .val (.int (6 : Int32)), .val (.int (1 : Int32)), .val (.ref w0)] [(.ref w1)])) _
    refine XS.astore X113.here hx rfl (hb hby d5_36) rfl rfl (l' := #[.val (.ref a1), .val (.ref a1), .val (.ref bv107), .val (.int (6 : Int32)), .val (.int (1 : Int32)), .val (.ref w1)]) rfl ?_
    show Steps p.tables e below (T113.setTop (mkF m 38 #[.val (.ref a1), .val (.ref a1), .val (.ref bv107), .val (.int (6 : Int32)), .val (.int (1 : Int32)), .val (.ref w1)] [])) _
    refine XS.aload X113.here hx rfl (hb hby d5_38) rfl rfl ?_
    show Steps p.tables e below (T113.setTop (mkF m 40 #[.val (.ref a1), .val (.ref a1), .val (.ref bv107), .val (.int (6 : Int32)), .val (.int (1 : Int32)), .val (.ref w1)] [(.ref w1)])) _
    refine st114 _ ?_
    show Steps p.tables e below (T114.setTop (mkF m 43 #[.val (.ref a1), .val (.ref a1), .val (.ref bv107), .val (.int (6 : Int32)), .val (.int (1 : Int32)), .val (.ref w1)] [(.ref s1)])) _
    refine XS.aloadN X114.here hx rfl (hb hby d5_43) rfl rfl ?_
    show Steps p.tables e below (T114.setTop (mkF m 44 #[.val (.ref a1), .val (.ref a1), .val (.ref bv107), .val (.int (6 : Int32)), .val (.int (1 : Int32)), .val (.ref w1)] [(.ref a1), (.ref s1)])) _
    refine st115.trans ?_
    show Steps p.tables e below (T115.setTop (mkF m 47 #[.val (.ref a1), .val (.ref a1), .val (.ref bv107), .val (.int (6 : Int32)), .val (.int (1 : Int32)), .val (.ref w1)] [(.int (0 : Int32))])) _
    refine XS.ifYes X115.here hx rfl (pc0 := 47) (pc' := 53) rfl (hb hby d5_47) rfl ((if0 _ _).trans (teq (by decide : (0 : Int32) = (0 : Int32))).1) (by decide) (by decide) ?_
    show Steps p.tables e below (T115.setTop (mkF m 53 #[.val (.ref a1), .val (.ref a1), .val (.ref bv107), .val (.int (6 : Int32)), .val (.int (1 : Int32)), .val (.ref w1)] [])) _
    refine XS.iinc X115.here hx rfl (hb hby d5_53) rfl (l' := #[.val (.ref a1), .val (.ref a1), .val (.ref bv107), .val (.int (6 : Int32)), .val (.int (2 : Int32)), .val (.ref w1)]) rfl ?_
    show Steps p.tables e below (T115.setTop (mkF m 56 #[.val (.ref a1), .val (.ref a1), .val (.ref bv107), .val (.int (6 : Int32)), .val (.int (2 : Int32)), .val (.ref w1)] [])) _
    refine XS.goto X115.here hx rfl (pc0 := 56) (pc' := 26) rfl (hb hby d5_56) (by decide) (by decide) ?_
    show Steps p.tables e below (T115.setTop (mkF m 26 #[.val (.ref a1), .val (.ref a1), .val (.ref bv107), .val (.int (6 : Int32)), .val (.int (2 : Int32)), .val (.ref w1)] [])) _
    refine XS.iload X115.here hx rfl (hb hby d5_26) rfl ?_
    show Steps p.tables e below (T115.setTop (mkF m 28 #[.val (.ref a1), .val (.ref a1), .val (.ref bv107), .val (.int (6 : Int32)), .val (.int (2 : Int32)), .val (.ref w1)] [(.int (2 : Int32))])) _
    refine XS.iloadN X115.here hx rfl (hb hby d5_28) rfl ?_
    show Steps p.tables e below (T115.setTop (mkF m 29 #[.val (.ref a1), .val (.ref a1), .val (.ref bv107), .val (.int (6 : Int32)), .val (.int (2 : Int32)), .val (.ref w1)] [(.int (6 : Int32)), (.int (2 : Int32))])) _
    refine XS.icmpNo X115.here hx rfl (hb hby d5_29) rfl (tlt (by decide : (2 : Int32) < (6 : Int32))).2.1 ?_
    show Steps p.tables e below (T115.setTop (mkF m 32 #[.val (.ref a1), .val (.ref a1), .val (.ref bv107), .val (.int (6 : Int32)), .val (.int (2 : Int32)), .val (.ref w1)] [])) _
    refine XS.aloadN X115.here hx rfl (hb hby d5_32) rfl rfl ?_
    show Steps p.tables e below (T115.setTop (mkF m 33 #[.val (.ref a1), .val (.ref a1), .val (.ref bv107), .val (.int (6 : Int32)), .val (.int (2 : Int32)), .val (.ref w1)] [(.ref bv107)])) _
    refine XS.iload X115.here hx rfl (hb hby d5_33) rfl ?_
    show Steps p.tables e below (T115.setTop (mkF m 35 #[.val (.ref a1), .val (.ref a1), .val (.ref bv107), .val (.int (6 : Int32)), .val (.int (2 : Int32)), .val (.ref w1)] [(.int (2 : Int32)), (.ref bv107)])) _
    refine X115.aaload hx (j := (2 : Int32)) (v := (.ref w2)) (by rw [e115]; exact Ar_bv107_94.1) (State.isArrayOf_alike hZ101.alike Ar_bv107_94.2.1) rfl Ar_bv107_94.2.2 hinbv107_94 hatbv107_94 (g := (mkF m 35 #[.val (.ref a1), .val (.ref a1), .val (.ref bv107), .val (.int (6 : Int32)), .val (.int (2 : Int32)), .val (.ref w1)] [(.int (2 : Int32)), (.ref bv107)])) rfl rfl (hb hby d5_35) _ ?_
    show Steps p.tables e below (T115.setTop (mkF m 36 #[.val (.ref a1), .val (.ref a1), .val (.ref bv107), .val (.int (6 : Int32)), .val (.int (2 : Int32)), .val (.ref w1)] [(.ref w2)])) _
    refine XS.astore X115.here hx rfl (hb hby d5_36) rfl rfl (l' := #[.val (.ref a1), .val (.ref a1), .val (.ref bv107), .val (.int (6 : Int32)), .val (.int (2 : Int32)), .val (.ref w2)]) rfl ?_
    show Steps p.tables e below (T115.setTop (mkF m 38 #[.val (.ref a1), .val (.ref a1), .val (.ref bv107), .val (.int (6 : Int32)), .val (.int (2 : Int32)), .val (.ref w2)] [])) _
    refine XS.aload X115.here hx rfl (hb hby d5_38) rfl rfl ?_
    show Steps p.tables e below (T115.setTop (mkF m 40 #[.val (.ref a1), .val (.ref a1), .val (.ref bv107), .val (.int (6 : Int32)), .val (.int (2 : Int32)), .val (.ref w2)] [(.ref w2)])) _
    refine st116 _ ?_
    show Steps p.tables e below (T116.setTop (mkF m 43 #[.val (.ref a1), .val (.ref a1), .val (.ref bv107), .val (.int (6 : Int32)), .val (.int (2 : Int32)), .val (.ref w2)] [(.ref s2)])) _
    refine XS.aloadN X116.here hx rfl (hb hby d5_43) rfl rfl ?_
    show Steps p.tables e below (T116.setTop (mkF m 44 #[.val (.ref a1), .val (.ref a1), .val (.ref bv107), .val (.int (6 : Int32)), .val (.int (2 : Int32)), .val (.ref w2)] [(.ref a1), (.ref s2)])) _
    refine st117.trans ?_
    show Steps p.tables e below (T117.setTop (mkF m 47 #[.val (.ref a1), .val (.ref a1), .val (.ref bv107), .val (.int (6 : Int32)), .val (.int (2 : Int32)), .val (.ref w2)] [(.int (0 : Int32))])) _
    refine XS.ifYes X117.here hx rfl (pc0 := 47) (pc' := 53) rfl (hb hby d5_47) rfl ((if0 _ _).trans (teq (by decide : (0 : Int32) = (0 : Int32))).1) (by decide) (by decide) ?_
    show Steps p.tables e below (T117.setTop (mkF m 53 #[.val (.ref a1), .val (.ref a1), .val (.ref bv107), .val (.int (6 : Int32)), .val (.int (2 : Int32)), .val (.ref w2)] [])) _
    refine XS.iinc X117.here hx rfl (hb hby d5_53) rfl (l' := #[.val (.ref a1), .val (.ref a1), .val (.ref bv107), .val (.int (6 : Int32)), .val (.int (3 : Int32)), .val (.ref w2)]) rfl ?_
    show Steps p.tables e below (T117.setTop (mkF m 56 #[.val (.ref a1), .val (.ref a1), .val (.ref bv107), .val (.int (6 : Int32)), .val (.int (3 : Int32)), .val (.ref w2)] [])) _
    refine XS.goto X117.here hx rfl (pc0 := 56) (pc' := 26) rfl (hb hby d5_56) (by decide) (by decide) ?_
    show Steps p.tables e below (T117.setTop (mkF m 26 #[.val (.ref a1), .val (.ref a1), .val (.ref bv107), .val (.int (6 : Int32)), .val (.int (3 : Int32)), .val (.ref w2)] [])) _
    refine XS.iload X117.here hx rfl (hb hby d5_26) rfl ?_
    show Steps p.tables e below (T117.setTop (mkF m 28 #[.val (.ref a1), .val (.ref a1), .val (.ref bv107), .val (.int (6 : Int32)), .val (.int (3 : Int32)), .val (.ref w2)] [(.int (3 : Int32))])) _
    refine XS.iloadN X117.here hx rfl (hb hby d5_28) rfl ?_
    show Steps p.tables e below (T117.setTop (mkF m 29 #[.val (.ref a1), .val (.ref a1), .val (.ref bv107), .val (.int (6 : Int32)), .val (.int (3 : Int32)), .val (.ref w2)] [(.int (6 : Int32)), (.int (3 : Int32))])) _
    refine XS.icmpNo X117.here hx rfl (hb hby d5_29) rfl (tlt (by decide : (3 : Int32) < (6 : Int32))).2.1 ?_
    show Steps p.tables e below (T117.setTop (mkF m 32 #[.val (.ref a1), .val (.ref a1), .val (.ref bv107), .val (.int (6 : Int32)), .val (.int (3 : Int32)), .val (.ref w2)] [])) _
    refine XS.aloadN X117.here hx rfl (hb hby d5_32) rfl rfl ?_
    show Steps p.tables e below (T117.setTop (mkF m 33 #[.val (.ref a1), .val (.ref a1), .val (.ref bv107), .val (.int (6 : Int32)), .val (.int (3 : Int32)), .val (.ref w2)] [(.ref bv107)])) _
    refine XS.iload X117.here hx rfl (hb hby d5_33) rfl ?_
    show Steps p.tables e below (T117.setTop (mkF m 35 #[.val (.ref a1), .val (.ref a1), .val (.ref bv107), .val (.int (6 : Int32)), .val (.int (3 : Int32)), .val (.ref w2)] [(.int (3 : Int32)), (.ref bv107)])) _
    refine X117.aaload hx (j := (3 : Int32)) (v := (.ref w3)) (by rw [e117]; exact Ar_bv107_122.1) (State.isArrayOf_alike hZ101.alike Ar_bv107_122.2.1) rfl Ar_bv107_122.2.2 hinbv107_122 hatbv107_122 (g := (mkF m 35 #[.val (.ref a1), .val (.ref a1), .val (.ref bv107), .val (.int (6 : Int32)), .val (.int (3 : Int32)), .val (.ref w2)] [(.int (3 : Int32)), (.ref bv107)])) rfl rfl (hb hby d5_35) _ ?_
    show Steps p.tables e below (T117.setTop (mkF m 36 #[.val (.ref a1), .val (.ref a1), .val (.ref bv107), .val (.int (6 : Int32)), .val (.int (3 : Int32)), .val (.ref w2)] [(.ref w3)])) _
    refine XS.astore X117.here hx rfl (hb hby d5_36) rfl rfl (l' := #[.val (.ref a1), .val (.ref a1), .val (.ref bv107), .val (.int (6 : Int32)), .val (.int (3 : Int32)), .val (.ref w3)]) rfl ?_
    show Steps p.tables e below (T117.setTop (mkF m 38 #[.val (.ref a1), .val (.ref a1), .val (.ref bv107), .val (.int (6 : Int32)), .val (.int (3 : Int32)), .val (.ref w3)] [])) _
    refine XS.aload X117.here hx rfl (hb hby d5_38) rfl rfl ?_
    show Steps p.tables e below (T117.setTop (mkF m 40 #[.val (.ref a1), .val (.ref a1), .val (.ref bv107), .val (.int (6 : Int32)), .val (.int (3 : Int32)), .val (.ref w3)] [(.ref w3)])) _
    refine st118 _ ?_
    show Steps p.tables e below (T118.setTop (mkF m 43 #[.val (.ref a1), .val (.ref a1), .val (.ref bv107), .val (.int (6 : Int32)), .val (.int (3 : Int32)), .val (.ref w3)] [(.ref s3)])) _
    refine XS.aloadN X118.here hx rfl (hb hby d5_43) rfl rfl ?_
    show Steps p.tables e below (T118.setTop (mkF m 44 #[.val (.ref a1), .val (.ref a1), .val (.ref bv107), .val (.int (6 : Int32)), .val (.int (3 : Int32)), .val (.ref w3)] [(.ref a1), (.ref s3)])) _
    refine st119.trans ?_
    show Steps p.tables e below (T119.setTop (mkF m 47 #[.val (.ref a1), .val (.ref a1), .val (.ref bv107), .val (.int (6 : Int32)), .val (.int (3 : Int32)), .val (.ref w3)] [(.int (1 : Int32))])) _
    refine XS.ifNo X119.here hx rfl (hb hby d5_47) rfl ((if0 _ _).trans (feq (by decide : ¬ ((1 : Int32) = (0 : Int32)))).1) ?_
    show Steps p.tables e below (T119.setTop (mkF m 50 #[.val (.ref a1), .val (.ref a1), .val (.ref bv107), .val (.int (6 : Int32)), .val (.int (3 : Int32)), .val (.ref w3)] [])) _
    refine XS.aload X119.here hx rfl (hb hby d5_50) rfl rfl ?_
    show Steps p.tables e below (T119.setTop (mkF m 52 #[.val (.ref a1), .val (.ref a1), .val (.ref bv107), .val (.int (6 : Int32)), .val (.int (3 : Int32)), .val (.ref w3)] [(.ref w3)])) _
    jvm_step X119.here [X119.here.top, hx, (hb hby d5_52), X119.method', Bd.returns, Value.isRef, FieldType.isReference]
    first | (intro acts; rw [hr _ acts rfl rfl rfl]) | rw [hr _ _ rfl rfl rfl]
    exact Steps.refl _
  · show Q5 (.ref w3) h0 n0 _ T119.heap _
    rw [e119]
    exact ⟨rfl, N119, KK107⟩
set_option maxRecDepth 65536 in
set_option maxHeartbeats 40000000 in
theorem rm5_4 (l : Launch) (Z : State) (a0 : Array Value) (hw : ∀ d ∈ tables_1, d.before a0 Z = true) (ws : List Jvm.Cond) (G1 : Int32) (kV : ClassId) (wV w0 w1 w2 w3 w4 w5 : Addr) (s0 s1 s2 s3 s4 s5 : Addr) (a1 : Addr) (cs : List Int32) (h0 : Heap) (n0 : Nat) (O0 : Old Z n0 h0) (S_CS : Sta Z Z.heap "java/lang/String" "COMPACT_STRINGS" "Z" (.int G1)) (hG1 : ¬ (G1 = (0 : Int32))) (S_V : Sta Z Z.heap "com/example/plugroot/plugroot/sql/Comparison" "$VALUES" "[Lcom/example/plugroot/plugroot/sql/Comparison;" (.ref wV)) (A_V : Arv Z Z.heap wV kV (.object "com/example/plugroot/plugroot/sql/Comparison") (6 : Int32) [(.ref w0), (.ref w1), (.ref w2), (.ref w3), (.ref w4), (.ref w5)] .null) (E_V : Exa Z Z.heap wV "[Lcom/example/plugroot/plugroot/sql/Comparison;") (M0 : Fld Z Z.heap w0 "com/example/plugroot/plugroot/sql/Comparison" "symbol" "Ljava/lang/String;" (.ref s0)) (M1 : Fld Z Z.heap w1 "com/example/plugroot/plugroot/sql/Comparison" "symbol" "Ljava/lang/String;" (.ref s1)) (M2 : Fld Z Z.heap w2 "com/example/plugroot/plugroot/sql/Comparison" "symbol" "Ljava/lang/String;" (.ref s2)) (M3 : Fld Z Z.heap w3 "com/example/plugroot/plugroot/sql/Comparison" "symbol" "Ljava/lang/String;" (.ref s3)) (M4 : Fld Z Z.heap w4 "com/example/plugroot/plugroot/sql/Comparison" "symbol" "Ljava/lang/String;" (.ref s4)) (M5 : Fld Z Z.heap w5 "com/example/plugroot/plugroot/sql/Comparison" "symbol" "Ljava/lang/String;" (.ref s5)) (T0 : Str Z Z.heap s0 ([(61 : Int32)] : List Int32)) (T1 : Str Z Z.heap s1 ([(60 : Int32), (62 : Int32)] : List Int32)) (T2 : Str Z Z.heap s2 ([(60 : Int32)] : List Int32)) (T3 : Str Z Z.heap s3 ([(62 : Int32)] : List Int32)) (T4 : Str Z Z.heap s4 ([(60 : Int32), (61 : Int32)] : List Int32)) (T5 : Str Z Z.heap s5 ([(62 : Int32), (61 : Int32)] : List Int32)) (T : Str Z h0 a1 cs) (hbg : ¬ cs = [33, 61]) (g0_ : ¬ cs = [61]) (g1_ : ¬ cs = [60, 62]) (g2_ : ¬ cs = [60]) (g3_ : ¬ cs = [62]) (g4_ : cs = [60, 61]) :
    MetFree l (⟨"com/example/plugroot/plugroot/sql/Comparison", "of", "(Ljava/lang/String;)Lcom/example/plugroot/plugroot/sql/Comparison;"⟩ : MethodName) (head1 (Jvm.Cond.code (⟨"com/example/plugroot/plugroot/sql/Comparison", "of", "(Ljava/lang/String;)Lcom/example/plugroot/plugroot/sql/Comparison;"⟩ : MethodName) prog_73_method_4_code 6 (some (.object "com/example/plugroot/plugroot/sql/Comparison")) :: ws) ({ frames := 2, cells := 5, slots := 30, locals := 28 } : Room)) (fun a_ U => a_ = #[(.ref a1)] ∧ Z.Warmed39 U.vm ∧ U.heap = h0 ∧ CHv Z consts_1 U.vm h0) (fun _ _ _ _ _ => True) (fun _ U o U' => ∃ v L, o = .returned v ∧ Q5 (.ref w4) h0 n0 v U'.heap L ∧ CHr Z consts_1 U.vm U.heap U'.vm U'.heap ∧ ReturnedEndW U o U' L ({ frames := 2, cells := 5, slots := 30, locals := 28 } : Room).cells ({ frames := 2, cells := 5, slots := 30, locals := 28 } : Room).slots) := by
  refine MetFree.of_bodySF (plainFor_of_name pn_1) hisR ?_
  intro p e s m args below meth c s₁ Bd hml0 hP hK
  obtain ⟨rfl, hZ, hh, hC⟩ := hP
  have hx := Bd.exec
  have hby := Bd.bytes
  have hml : c.maxLocals = 6 := hml0
  have hown : s.vm.findClass "com/example/plugroot/plugroot/sql/Comparison" = some m.cls := findClass_of_methodNamed Bd.named
  have hnm := (name_of_methodNamed Bd.named Bd.method).1
  have X0 : Stand p l e ({ frames := 2, cells := 5, slots := 30, locals := 28 } : Room) (s.setVm s.vm) m #[(.ref a1)] below meth c s₁ [] 0 0 := Stand.of_body Bd
  have e0 : s₁.heap = h0 := by rw [← hh, Bd.state]; rfl
  have N0 := Fr.nil n0
  have pre0 : ∀ tg, Steps p.tables e below (s₁.setTop (mkF m 0 #[.val (.ref a1), .unset, .unset, .unset, .unset, .unset] [])) tg → Steps p.tables e below (s₁.setTop (entryFrame m #[(.ref a1)] 6)) tg := fun tg kq => castTop (ef_R_6 m a1) kq
  have hS0 : s.Since s.vm h0.size := (State.WarmedH.refl s).since _
  have hk0 : h0.size ≤ h0.size := Nat.le_refl _
  have CR0 : CHr Z consts_1 s.vm h0 s.vm h0 := CHr.refl hC
  obtain ⟨tm0, kbm0, Nm0, vsm0, sEm0, sVm0, sCm0, sKm0, scdm0, shpm0, shlm0⟩ := id T0
  obtain ⟨tm1, kbm1, Nm1, vsm1, sEm1, sVm1, sCm1, sKm1, scdm1, shpm1, shlm1⟩ := id T1
  obtain ⟨tm2, kbm2, Nm2, vsm2, sEm2, sVm2, sCm2, sKm2, scdm2, shpm2, shlm2⟩ := id T2
  obtain ⟨tm3, kbm3, Nm3, vsm3, sEm3, sVm3, sCm3, sKm3, scdm3, shpm3, shlm3⟩ := id T3
  obtain ⟨tm4, kbm4, Nm4, vsm4, sEm4, sVm4, sCm4, sKm4, scdm4, shpm4, shlm4⟩ := id T4
  obtain ⟨tm5, kbm5, Nm5, vsm5, sEm5, sVm5, sCm5, sKm5, scdm5, shpm5, shlm5⟩ := id T5
  obtain ⟨ta, kba, Na, vsa, sEa, sVa, sCa, sKa, scda, shpa, shla⟩ := id T
  obtain ⟨a101, T101, h101, k101, b101, kb101, X101, e101, E101, hS101, hk101, hZ101, hown101, lE101, lC101, lV101, lK101, la101, lb101, CS101, lL101, lne101, st101⟩ := ldcCH (s := s) (EL := consts_1) X0 hx hZ hown (wi hw 30 rfl) (fun d hd => hw d (own_strw d hd)) e0 hS0 hk0 (own_EW hw) (by decide) CR0.1 (vs := [(.int (33 : Int32)), (.int (61 : Int32))]) (z := (2 : Int32)) ⟨by decide, by decide⟩ (by decide) (by decide) (g := (mkF m 1 #[.val (.ref a1), .unset, .unset, .unset, .unset, .unset] [(.ref a1)])) rfl (hb hby d5_1) (n := 8) (by decide) (by decide) (by decide) (by decide)
  have O101 := O0.ext E101
  have CR101 := CR0.trans CS101
  have KK101 : Keep h0 h101 [] := (Keep.refl h0 []).ext E101
  have lcd101 : StrChars.Road.CodA ([(33 : Int32), (61 : Int32)] : List Int32) 0 (2 : Int32) [(.int (33 : Int32)), (.int (61 : Int32))] := Or.inl ⟨rfl, rfl, rfl, by decide⟩
  have lhp101 : ∀ c ∈ ([(33 : Int32), (61 : Int32)] : List Int32), ¬ c < 0 ∧ ¬ (255 : Int32) < c := by decide
  have fE_a1_1_102 := (sEa.ext E101)
  have fString_value_1_103 := (sVa.ext E101)
  have fString_coder_1_104 := (sCa.ext E101)
  have fV_ta_1_105 := (sKa.ext E101)
  obtain ⟨cq106, kq106, q106a, q106b, q106c⟩ := isOf hZ101 e101 fE_a1_1_102
  obtain ⟨_, _, ⟨T106, L106, k106, n106⟩, -, X106, ⟨Lc106, hQ106, l106, y106, z106⟩, st106⟩ := X101.virtualBack hx (y := (⟨"java/lang/String", "equals", "(Ljava/lang/Object;)Z"⟩ : MethodName)) (z := (⟨"java/lang/String", "equals", "(Ljava/lang/Object;)Z"⟩ : MethodName)) hown101 (mvT hZ101 (wi hw 31 rfl)) (mvT hZ101 (wi hw 32 rfl)) (notFace_of_selects (args := #[]) (mvT hZ101 (wi hw 34 rfl))) (mvT hZ101 (wi hw 34 rfl)) (mvT hZ101 (wi hw 33 rfl)) (by decide) (StrChars.Road.eqW (W := 0) hZ101 (fun d hd => hw d (own_w_eqW d hd)) (kI := 4) (wi hw 6 rfl) fE_a1_1_102 fString_value_1_103 fString_coder_1_104 fV_ta_1_105 scda (own_up _ shpa) shla lE101 lV101 lC101 lK101 lcd101 (own_up _ lhp101) (by decide) (S_CS.ext O101.2) hG1 (by decide) (by decide)) q106a q106c (g := (mkF m 3 #[.val (.ref a1), .unset, .unset, .unset, .unset, .unset] [(.ref a101), (.ref a1)])) rfl (by rw [hml]; rfl) (Steps.refl _) (argsL := [(.ref a101)]) (rest := []) (lenOf pd_0 rfl) rfl (by show 2 * 0 + _ ≤ _; exact Nat.le_of_eq rfl) (hb hby d5_3) (fun _ _ => ⟨rfl, e101, (by decide : 2 + 0 ≤ _), (by decide : 12 + 0 ≤ _)⟩)
  dsimp only [Pt.U, Pt.locs, Pt.cells, Pt.slots] at X106 l106 y106 z106 st106 hQ106
  subst l106 y106 z106
  obtain ⟨hv106, rfl, hh106⟩ := hQ106
  obtain rfl := (hv106.resolve_left (fun q => (hbg : ¬ cs = ([(33 : Int32), (61 : Int32)] : List Int32)) q.2)).1
  have N106q : Fr n0 ([] : List Loc) := Fr.nil n0
  have e106 : T106.heap = h101 := hh106
  have N106 := Fr.app N0 N106q
  obtain ⟨_, _, ⟨T107, L107, k107, n107⟩, -, X107, ⟨Lc107, hQ107, l107, y107, z107⟩, st107⟩ := Jvm.LawKit.callS X106 hx (y := (⟨"com/example/plugroot/plugroot/sql/Comparison", "values", "()[Lcom/example/plugroot/plugroot/sql/Comparison;"⟩ : MethodName)) hown101 (mvT hZ101 (wi hw 42 rfl)) (mvT hZ101 (wi hw 43 rfl)) (mvT hZ101 (wi hw 28 rfl)) (mvT hZ101 (wi hw 44 rfl)) (by decide) (backOf (W := 0) (rm8 l Z a0 hw [] kV wV w0 w1 w2 w3 w4 w5 h101 n0 O101 S_V A_V E_V) hZ101 (wi hw 44 rfl) (wi hw 28 rfl) (by decide) (by decide)) (g := (mkF m 16 #[.val (.ref a1), .val (.ref a1), .unset, .unset, .unset, .unset] [])) rfl (by rw [hml]; rfl) (argsL := []) (rest := []) (lenOf pd_1 rfl) rfl (by show 2 * 0 + _ ≤ _; exact Nat.le_of_eq rfl) (hb hby d5_16) (fun _ _ => ⟨rfl, e106, (by decide : 2 + 1 ≤ _), (by decide : 12 + 6 ≤ _)⟩)
  dsimp only [Pt.U, Pt.locs, Pt.cells, Pt.slots] at X107 l107 y107 z107 st107 hQ107
  subst l107 y107 z107
  obtain ⟨bv107, rfl, N107q, K107, szv107, Av107⟩ := hQ107
  obtain ⟨h107, e107⟩ : ∃ z, T107.heap = z := ⟨_, rfl⟩
  rw [e107] at K107 Av107
  have g_bv107 : n0 ≤ bv107 := Nat.le_trans (O101.1 ▸ O101.2.1) szv107
  have sz_bv107 : h0.size ≤ bv107 := Nat.le_trans KK101.1 szv107
  have O107 := O101.keep K107 all0
  have CS107 := CHr.keep K107 sf0 CR101.1
  have CR107 := CR101.trans CS107
  have KK107 : Keep h0 h107 [] := KK101.trans K107 all0
  have N107 := Fr.app N106 N107q
  obtain ⟨cl_bv107_19, Ar_bv107_19, -, S_bv107_19, N_bv107_19, -, -⟩ := id (Av107)
  obtain ⟨cl_bv107_38, Ar_bv107_38, q_bv107_38, S_bv107_38, N_bv107_38, H_bv107_38, G_bv107_38⟩ := id (Av107)
  have hinbv107_38 : ¬ ((0 : Int32) < 0 ∨ cl_bv107_38.slots.size ≤ ((0 : Int32)).toNatClampNeg) := inb_of S_bv107_38 ⟨by decide, by decide⟩
  have hatbv107_38 : cl_bv107_38.slots[((0 : Int32)).toNatClampNeg]? = some (.ref w0) := H_bv107_38.at hinbv107_38 rfl
  obtain ⟨T108, X108, e108, st108⟩ := getF X107 hx hZ101 hown101 (host := "") (Or.inl (wi hw 63 rfl)) Via.refl e107 (M0.ext O107.2) (g := (mkF m 40 #[.val (.ref a1), .val (.ref a1), .val (.ref bv107), .val (.int (6 : Int32)), .val (.int (0 : Int32)), .val (.ref w0)] [(.ref w0)])) rfl rfl (hb hby d5_40)
  have fE_a1_2_109 := (fE_a1_1_102.keep K107)
  have fString_value_2_110 := (fString_value_1_103.keep K107 nin0)
  have fString_coder_2_111 := (fString_coder_1_104.keep K107 nin0)
  have fV_ta_2_112 := (fV_ta_1_105.keep K107 nin0)
  obtain ⟨cq113, kq113, q113a, q113b, q113c⟩ := isOf hZ101 e108 (sEm0.ext O107.2)
  obtain ⟨_, _, ⟨T113, L113, k113, n113⟩, -, X113, ⟨Lc113, hQ113, l113, y113, z113⟩, st113⟩ := X108.virtualBack hx (y := (⟨"java/lang/String", "equals", "(Ljava/lang/Object;)Z"⟩ : MethodName)) (z := (⟨"java/lang/String", "equals", "(Ljava/lang/Object;)Z"⟩ : MethodName)) hown101 (mvT hZ101 (wi hw 31 rfl)) (mvT hZ101 (wi hw 32 rfl)) (notFace_of_selects (args := #[]) (mvT hZ101 (wi hw 34 rfl))) (mvT hZ101 (wi hw 34 rfl)) (mvT hZ101 (wi hw 33 rfl)) (by decide) (StrChars.Road.eqW (W := 0) hZ101 (fun d hd => hw d (own_w_eqW d hd)) (kI := 4) (wi hw 6 rfl) (sEm0.ext O107.2) (sVm0.ext O107.2) (sCm0.ext O107.2) (sKm0.ext O107.2) scdm0 (own_up _ shpm0) shlm0 fE_a1_2_109 fString_value_2_110 fString_coder_2_111 fV_ta_2_112 scda (own_up _ shpa) shla (S_CS.ext O107.2) hG1 (by decide) (by decide)) q113a q113c (g := (mkF m 44 #[.val (.ref a1), .val (.ref a1), .val (.ref bv107), .val (.int (6 : Int32)), .val (.int (0 : Int32)), .val (.ref w0)] [(.ref a1), (.ref s0)])) rfl (by rw [hml]; rfl) (Steps.refl _) (argsL := [(.ref a1)]) (rest := []) (lenOf pd_0 rfl) rfl (by show 2 * 0 + _ ≤ _; exact Nat.le_of_eq rfl) (hb hby d5_44) (fun _ _ => ⟨rfl, e108, (by decide : 3 + 0 ≤ _), (by decide : 18 + 0 ≤ _)⟩)
  dsimp only [Pt.U, Pt.locs, Pt.cells, Pt.slots] at X113 l113 y113 z113 st113 hQ113
  subst l113 y113 z113
  obtain ⟨hv113, rfl, hh113⟩ := hQ113
  obtain rfl := (hv113.resolve_left (fun q => ((fun z => g0_ z.symm) : ¬ ([(61 : Int32)] : List Int32) = cs) q.2)).1
  have N113q : Fr n0 ([] : List Loc) := Fr.nil n0
  have e113 : T113.heap = h107 := hh113
  have N113 := Fr.app N107 N113q
  obtain ⟨cl_bv107_66, Ar_bv107_66, q_bv107_66, S_bv107_66, N_bv107_66, H_bv107_66, G_bv107_66⟩ := id (Av107)
  have hinbv107_66 : ¬ ((1 : Int32) < 0 ∨ cl_bv107_66.slots.size ≤ ((1 : Int32)).toNatClampNeg) := inb_of S_bv107_66 ⟨by decide, by decide⟩
  have hatbv107_66 : cl_bv107_66.slots[((1 : Int32)).toNatClampNeg]? = some (.ref w1) := H_bv107_66.at hinbv107_66 rfl
  obtain ⟨T114, X114, e114, st114⟩ := getF X113 hx hZ101 hown101 (host := "") (Or.inl (wi hw 63 rfl)) Via.refl e113 (M1.ext O107.2) (g := (mkF m 40 #[.val (.ref a1), .val (.ref a1), .val (.ref bv107), .val (.int (6 : Int32)), .val (.int (1 : Int32)), .val (.ref w1)] [(.ref w1)])) rfl rfl (hb hby d5_40)
  obtain ⟨cq115, kq115, q115a, q115b, q115c⟩ := isOf hZ101 e114 (sEm1.ext O107.2)
  obtain ⟨_, _, ⟨T115, L115, k115, n115⟩, -, X115, ⟨Lc115, hQ115, l115, y115, z115⟩, st115⟩ := X114.virtualBack hx (y := (⟨"java/lang/String", "equals", "(Ljava/lang/Object;)Z"⟩ : MethodName)) (z := (⟨"java/lang/String", "equals", "(Ljava/lang/Object;)Z"⟩ : MethodName)) hown101 (mvT hZ101 (wi hw 31 rfl)) (mvT hZ101 (wi hw 32 rfl)) (notFace_of_selects (args := #[]) (mvT hZ101 (wi hw 34 rfl))) (mvT hZ101 (wi hw 34 rfl)) (mvT hZ101 (wi hw 33 rfl)) (by decide) (StrChars.Road.eqW (W := 0) hZ101 (fun d hd => hw d (own_w_eqW d hd)) (kI := 4) (wi hw 6 rfl) (sEm1.ext O107.2) (sVm1.ext O107.2) (sCm1.ext O107.2) (sKm1.ext O107.2) scdm1 (own_up _ shpm1) shlm1 fE_a1_2_109 fString_value_2_110 fString_coder_2_111 fV_ta_2_112 scda (own_up _ shpa) shla (S_CS.ext O107.2) hG1 (by decide) (by decide)) q115a q115c (g := (mkF m 44 #[.val (.ref a1), .val (.ref a1), .val (.ref bv107), .val (.int (6 : Int32)), .val (.int (1 : Int32)), .val (.ref w1)] [(.ref a1), (.ref s1)])) rfl (by rw [hml]; rfl) (Steps.refl _) (argsL := [(.ref a1)]) (rest := []) (lenOf pd_0 rfl) rfl (by show 2 * 0 + _ ≤ _; exact Nat.le_of_eq rfl) (hb hby d5_44) (fun _ _ => ⟨rfl, e114, (by decide : 3 + 0 ≤ _), (by decide : 18 + 0 ≤ _)⟩)
  dsimp only [Pt.U, Pt.locs, Pt.cells, Pt.slots] at X115 l115 y115 z115 st115 hQ115
  subst l115 y115 z115
  obtain ⟨hv115, rfl, hh115⟩ := hQ115
  obtain rfl := (hv115.resolve_left (fun q => ((fun z => g1_ z.symm) : ¬ ([(60 : Int32), (62 : Int32)] : List Int32) = cs) q.2)).1
  have N115q : Fr n0 ([] : List Loc) := Fr.nil n0
  have e115 : T115.heap = h107 := hh115
  have N115 := Fr.app N113 N115q
  obtain ⟨cl_bv107_94, Ar_bv107_94, q_bv107_94, S_bv107_94, N_bv107_94, H_bv107_94, G_bv107_94⟩ := id (Av107)
  have hinbv107_94 : ¬ ((2 : Int32) < 0 ∨ cl_bv107_94.slots.size ≤ ((2 : Int32)).toNatClampNeg) := inb_of S_bv107_94 ⟨by decide, by decide⟩
  have hatbv107_94 : cl_bv107_94.slots[((2 : Int32)).toNatClampNeg]? = some (.ref w2) := H_bv107_94.at hinbv107_94 rfl
  obtain ⟨T116, X116, e116, st116⟩ := getF X115 hx hZ101 hown101 (host := "") (Or.inl (wi hw 63 rfl)) Via.refl e115 (M2.ext O107.2) (g := (mkF m 40 #[.val (.ref a1), .val (.ref a1), .val (.ref bv107), .val (.int (6 : Int32)), .val (.int (2 : Int32)), .val (.ref w2)] [(.ref w2)])) rfl rfl (hb hby d5_40)
  obtain ⟨cq117, kq117, q117a, q117b, q117c⟩ := isOf hZ101 e116 (sEm2.ext O107.2)
  obtain ⟨_, _, ⟨T117, L117, k117, n117⟩, -, X117, ⟨Lc117, hQ117, l117, y117, z117⟩, st117⟩ := X116.virtualBack hx (y := (⟨"java/lang/String", "equals", "(Ljava/lang/Object;)Z"⟩ : MethodName)) (z := (⟨"java/lang/String", "equals", "(Ljava/lang/Object;)Z"⟩ : MethodName)) hown101 (mvT hZ101 (wi hw 31 rfl)) (mvT hZ101 (wi hw 32 rfl)) (notFace_of_selects (args := #[]) (mvT hZ101 (wi hw 34 rfl))) (mvT hZ101 (wi hw 34 rfl)) (mvT hZ101 (wi hw 33 rfl)) (by decide) (StrChars.Road.eqW (W := 0) hZ101 (fun d hd => hw d (own_w_eqW d hd)) (kI := 4) (wi hw 6 rfl) (sEm2.ext O107.2) (sVm2.ext O107.2) (sCm2.ext O107.2) (sKm2.ext O107.2) scdm2 (own_up _ shpm2) shlm2 fE_a1_2_109 fString_value_2_110 fString_coder_2_111 fV_ta_2_112 scda (own_up _ shpa) shla (S_CS.ext O107.2) hG1 (by decide) (by decide)) q117a q117c (g := (mkF m 44 #[.val (.ref a1), .val (.ref a1), .val (.ref bv107), .val (.int (6 : Int32)), .val (.int (2 : Int32)), .val (.ref w2)] [(.ref a1), (.ref s2)])) rfl (by rw [hml]; rfl) (Steps.refl _) (argsL := [(.ref a1)]) (rest := []) (lenOf pd_0 rfl) rfl (by show 2 * 0 + _ ≤ _; exact Nat.le_of_eq rfl) (hb hby d5_44) (fun _ _ => ⟨rfl, e116, (by decide : 3 + 0 ≤ _), (by decide : 18 + 0 ≤ _)⟩)
  dsimp only [Pt.U, Pt.locs, Pt.cells, Pt.slots] at X117 l117 y117 z117 st117 hQ117
  subst l117 y117 z117
  obtain ⟨hv117, rfl, hh117⟩ := hQ117
  obtain rfl := (hv117.resolve_left (fun q => ((fun z => g2_ z.symm) : ¬ ([(60 : Int32)] : List Int32) = cs) q.2)).1
  have N117q : Fr n0 ([] : List Loc) := Fr.nil n0
  have e117 : T117.heap = h107 := hh117
  have N117 := Fr.app N115 N117q
  obtain ⟨cl_bv107_122, Ar_bv107_122, q_bv107_122, S_bv107_122, N_bv107_122, H_bv107_122, G_bv107_122⟩ := id (Av107)
  have hinbv107_122 : ¬ ((3 : Int32) < 0 ∨ cl_bv107_122.slots.size ≤ ((3 : Int32)).toNatClampNeg) := inb_of S_bv107_122 ⟨by decide, by decide⟩
  have hatbv107_122 : cl_bv107_122.slots[((3 : Int32)).toNatClampNeg]? = some (.ref w3) := H_bv107_122.at hinbv107_122 rfl
  obtain ⟨T118, X118, e118, st118⟩ := getF X117 hx hZ101 hown101 (host := "") (Or.inl (wi hw 63 rfl)) Via.refl e117 (M3.ext O107.2) (g := (mkF m 40 #[.val (.ref a1), .val (.ref a1), .val (.ref bv107), .val (.int (6 : Int32)), .val (.int (3 : Int32)), .val (.ref w3)] [(.ref w3)])) rfl rfl (hb hby d5_40)
  obtain ⟨cq119, kq119, q119a, q119b, q119c⟩ := isOf hZ101 e118 (sEm3.ext O107.2)
  obtain ⟨_, _, ⟨T119, L119, k119, n119⟩, -, X119, ⟨Lc119, hQ119, l119, y119, z119⟩, st119⟩ := X118.virtualBack hx (y := (⟨"java/lang/String", "equals", "(Ljava/lang/Object;)Z"⟩ : MethodName)) (z := (⟨"java/lang/String", "equals", "(Ljava/lang/Object;)Z"⟩ : MethodName)) hown101 (mvT hZ101 (wi hw 31 rfl)) (mvT hZ101 (wi hw 32 rfl)) (notFace_of_selects (args := #[]) (mvT hZ101 (wi hw 34 rfl))) (mvT hZ101 (wi hw 34 rfl)) (mvT hZ101 (wi hw 33 rfl)) (by decide) (StrChars.Road.eqW (W := 0) hZ101 (fun d hd => hw d (own_w_eqW d hd)) (kI := 4) (wi hw 6 rfl) (sEm3.ext O107.2) (sVm3.ext O107.2) (sCm3.ext O107.2) (sKm3.ext O107.2) scdm3 (own_up _ shpm3) shlm3 fE_a1_2_109 fString_value_2_110 fString_coder_2_111 fV_ta_2_112 scda (own_up _ shpa) shla (S_CS.ext O107.2) hG1 (by decide) (by decide)) q119a q119c (g := (mkF m 44 #[.val (.ref a1), .val (.ref a1), .val (.ref bv107), .val (.int (6 : Int32)), .val (.int (3 : Int32)), .val (.ref w3)] [(.ref a1), (.ref s3)])) rfl (by rw [hml]; rfl) (Steps.refl _) (argsL := [(.ref a1)]) (rest := []) (lenOf pd_0 rfl) rfl (by show 2 * 0 + _ ≤ _; exact Nat.le_of_eq rfl) (hb hby d5_44) (fun _ _ => ⟨rfl, e118, (by decide : 3 + 0 ≤ _), (by decide : 18 + 0 ≤ _)⟩)
  dsimp only [Pt.U, Pt.locs, Pt.cells, Pt.slots] at X119 l119 y119 z119 st119 hQ119
  subst l119 y119 z119
  obtain ⟨hv119, rfl, hh119⟩ := hQ119
  obtain rfl := (hv119.resolve_left (fun q => ((fun z => g3_ z.symm) : ¬ ([(62 : Int32)] : List Int32) = cs) q.2)).1
  have N119q : Fr n0 ([] : List Loc) := Fr.nil n0
  have e119 : T119.heap = h107 := hh119
  have N119 := Fr.app N117 N119q
  obtain ⟨cl_bv107_150, Ar_bv107_150, q_bv107_150, S_bv107_150, N_bv107_150, H_bv107_150, G_bv107_150⟩ := id (Av107)
  have hinbv107_150 : ¬ ((4 : Int32) < 0 ∨ cl_bv107_150.slots.size ≤ ((4 : Int32)).toNatClampNeg) := inb_of S_bv107_150 ⟨by decide, by decide⟩
  have hatbv107_150 : cl_bv107_150.slots[((4 : Int32)).toNatClampNeg]? = some (.ref w4) := H_bv107_150.at hinbv107_150 rfl
  obtain ⟨T120, X120, e120, st120⟩ := getF X119 hx hZ101 hown101 (host := "") (Or.inl (wi hw 63 rfl)) Via.refl e119 (M4.ext O107.2) (g := (mkF m 40 #[.val (.ref a1), .val (.ref a1), .val (.ref bv107), .val (.int (6 : Int32)), .val (.int (4 : Int32)), .val (.ref w4)] [(.ref w4)])) rfl rfl (hb hby d5_40)
  obtain ⟨cq121, kq121, q121a, q121b, q121c⟩ := isOf hZ101 e120 (sEm4.ext O107.2)
  obtain ⟨_, _, ⟨T121, L121, k121, n121⟩, -, X121, ⟨Lc121, hQ121, l121, y121, z121⟩, st121⟩ := X120.virtualBack hx (y := (⟨"java/lang/String", "equals", "(Ljava/lang/Object;)Z"⟩ : MethodName)) (z := (⟨"java/lang/String", "equals", "(Ljava/lang/Object;)Z"⟩ : MethodName)) hown101 (mvT hZ101 (wi hw 31 rfl)) (mvT hZ101 (wi hw 32 rfl)) (notFace_of_selects (args := #[]) (mvT hZ101 (wi hw 34 rfl))) (mvT hZ101 (wi hw 34 rfl)) (mvT hZ101 (wi hw 33 rfl)) (by decide) (StrChars.Road.eqW (W := 0) hZ101 (fun d hd => hw d (own_w_eqW d hd)) (kI := 4) (wi hw 6 rfl) (sEm4.ext O107.2) (sVm4.ext O107.2) (sCm4.ext O107.2) (sKm4.ext O107.2) scdm4 (own_up _ shpm4) shlm4 fE_a1_2_109 fString_value_2_110 fString_coder_2_111 fV_ta_2_112 scda (own_up _ shpa) shla (S_CS.ext O107.2) hG1 (by decide) (by decide)) q121a q121c (g := (mkF m 44 #[.val (.ref a1), .val (.ref a1), .val (.ref bv107), .val (.int (6 : Int32)), .val (.int (4 : Int32)), .val (.ref w4)] [(.ref a1), (.ref s4)])) rfl (by rw [hml]; rfl) (Steps.refl _) (argsL := [(.ref a1)]) (rest := []) (lenOf pd_0 rfl) rfl (by show 2 * 0 + _ ≤ _; exact Nat.le_of_eq rfl) (hb hby d5_44) (fun _ _ => ⟨rfl, e120, (by decide : 3 + 0 ≤ _), (by decide : 18 + 0 ≤ _)⟩)
  dsimp only [Pt.U, Pt.locs, Pt.cells, Pt.slots] at X121 l121 y121 z121 st121 hQ121
  subst l121 y121 z121
  obtain ⟨hv121, rfl, hh121⟩ := hQ121
  obtain rfl := (hv121.resolve_right (fun q => q.2 (g4_.symm : ([(60 : Int32), (61 : Int32)] : List Int32) = cs))).1
  have N121q : Fr n0 ([] : List Loc) := Fr.nil n0
  have e121 : T121.heap = h107 := hh121
  have N121 := Fr.app N119 N121q
  obtain ⟨fs, hr, hrun, hended, hREW⟩ := X121.leaveW hS101 (by rw [e121]; exact (Nat.le_trans hk101 K107.1)) (v := some (.ref w4)) (fun h => by rw [Bd.returns] at h; cases h)
  refine ⟨_, _, pre0 _ ?_, hrun, hended, _, _, rfl, ?_, (by rw [hh]; show CHr Z consts_1 s.vm h0 T121.vm T121.heap; rw [e121]; exact CR107.trans (CHv.at X121 hZ101 (own_EW hw) CR107.1)), hREW.1, hREW.2.1, hREW.2.2.1, hREW.2.2.2.mono (by decide) (by decide)⟩
  · show Steps p.tables e below (s₁.setTop (mkF m 0 #[.val (.ref a1), .unset, .unset, .unset, .unset, .unset] [])) _
    refine XS.aloadN X0.here hx rfl (hb hby d5_0) rfl rfl ?_
    show Steps p.tables e below (s₁.setTop (mkF m 1 #[.val (.ref a1), .unset, .unset, .unset, .unset, .unset] [(.ref a1)])) _
    refine st101 _ ?_
    show Steps p.tables e below (T101.setTop (mkF m 3 #[.val (.ref a1), .unset, .unset, .unset, .unset, .unset] [(.ref a101), (.ref a1)])) _
    refine st106.trans ?_
    show Steps p.tables e below (T106.setTop (mkF m 6 #[.val (.ref a1), .unset, .unset, .unset, .unset, .unset] [(.int (0 : Int32))])) _
    refine XS.ifYes X106.here hx rfl (pc0 := 6) (pc' := 14) rfl (hb hby d5_6) rfl ((if0 _ _).trans (teq (by decide : (0 : Int32) = (0 : Int32))).1) (by decide) (by decide) ?_
    show Steps p.tables e below (T106.setTop (mkF m 14 #[.val (.ref a1), .unset, .unset, .unset, .unset, .unset] [])) _
    refine XS.aloadN X106.here hx rfl (hb hby d5_14) rfl rfl ?_
    show Steps p.tables e below (T106.setTop (mkF m 15 #[.val (.ref a1), .unset, .unset, .unset, .unset, .unset] [(.ref a1)])) _
    refine XS.astoreN X106.here hx rfl (hb hby d5_15) rfl rfl (l' := #[.val (.ref a1), .val (.ref a1), .unset, .unset, .unset, .unset]) rfl ?_
    show Steps p.tables e below (T106.setTop (mkF m 16 #[.val (.ref a1), .val (.ref a1), .unset, .unset, .unset, .unset] [])) _
    refine st107 _ ?_
    show Steps p.tables e below (T107.setTop (mkF m 19 #[.val (.ref a1), .val (.ref a1), .unset, .unset, .unset, .unset] [(.ref bv107)])) _
    refine XS.astoreN X107.here hx rfl (hb hby d5_19) rfl rfl (l' := #[.val (.ref a1), .val (.ref a1), .val (.ref bv107), .unset, .unset, .unset]) rfl ?_
    show Steps p.tables e below (T107.setTop (mkF m 20 #[.val (.ref a1), .val (.ref a1), .val (.ref bv107), .unset, .unset, .unset] [])) _
    refine XS.aloadN X107.here hx rfl (hb hby d5_20) rfl rfl ?_
    show Steps p.tables e below (T107.setTop (mkF m 21 #[.val (.ref a1), .val (.ref a1), .val (.ref bv107), .unset, .unset, .unset] [(.ref bv107)])) _
    refine X107.arraylength hx (by rw [e107]; exact Ar_bv107_19.1) (State.isArrayOf_alike hZ101.alike Ar_bv107_19.2.1) (g := (mkF m 21 #[.val (.ref a1), .val (.ref a1), .val (.ref bv107), .unset, .unset, .unset] [(.ref bv107)])) rfl rfl (hb hby d5_21) _ ?_
    rw [len_of S_bv107_19 N_bv107_19]
    show Steps p.tables e below (T107.setTop (mkF m 22 #[.val (.ref a1), .val (.ref a1), .val (.ref bv107), .unset, .unset, .unset] [(.int (6 : Int32))])) _
    refine XS.istoreN X107.here hx rfl (hb hby d5_22) rfl (l' := #[.val (.ref a1), .val (.ref a1), .val (.ref bv107), .val (.int (6 : Int32)), .unset, .unset]) rfl ?_
    show Steps p.tables e below (T107.setTop (mkF m 23 #[.val (.ref a1), .val (.ref a1), .val (.ref bv107), .val (.int (6 : Int32)), .unset, .unset] [])) _
    refine XS.iconst X107.here hx rfl (hb hby d5_23) ?_
    show Steps p.tables e below (T107.setTop (mkF m 24 #[.val (.ref a1), .val (.ref a1), .val (.ref bv107), .val (.int (6 : Int32)), .unset, .unset] [(.int (0 : Int32))])) _
    refine XS.istore X107.here hx rfl (hb hby d5_24) rfl (l' := #[.val (.ref a1), .val (.ref a1), .val (.ref bv107), .val (.int (6 : Int32)), .val (.int (0 : Int32)), .unset]) rfl ?_
    show Steps p.tables e below (T107.setTop (mkF m 26 #[.val (.ref a1), .val (.ref a1), .val (.ref bv107), .val (.int (6 : Int32)), .val (.int (0 : Int32)), .unset] [])) _
    refine XS.iload X107.here hx rfl (hb hby d5_26) rfl ?_
    show Steps p.tables e below (T107.setTop (mkF m 28 #[.val (.ref a1), .val (.ref a1), .val (.ref bv107), .val (.int (6 : Int32)), .val (.int (0 : Int32)), .unset] [(.int (0 : Int32))])) _
    refine XS.iloadN X107.here hx rfl (hb hby d5_28) rfl ?_
    show Steps p.tables e below (T107.setTop (mkF m 29 #[.val (.ref a1), .val (.ref a1), .val (.ref bv107), .val (.int (6 : Int32)), .val (.int (0 : Int32)), .unset] [(.int (6 : Int32)), (.int (0 : Int32))])) _
    refine XS.icmpNo X107.here hx rfl (hb hby d5_29) rfl (tlt (by decide : (0 : Int32) < (6 : Int32))).2.1 ?_
    show Steps p.tables e below (T107.setTop (mkF m 32 #[.val (.ref a1), .val (.ref a1), .val (.ref bv107), .val (.int (6 : Int32)), .val (.int (0 : Int32)), .unset] [])) _
    refine XS.aloadN X107.here hx rfl (hb hby d5_32) rfl rfl ?_
    show Steps p.tables e below (T107.setTop (mkF m 33 #[.val (.ref a1), .val (.ref a1), .val (.ref bv107), .val (.int (6 : Int32)), .val (.int (0 : Int32)), .unset] [(.ref bv107)])) _
    refine XS.iload X107.here hx rfl (hb hby d5_33) rfl ?_
    show Steps p.tables e below (T107.setTop (mkF m 35 #[.val (.ref a1), .val (.ref a1), .val (.ref bv107), .val (.int (6 : Int32)), .val (.int (0 : Int32)), .unset] [(.int (0 : Int32)), (.ref bv107)])) _
    refine X107.aaload hx (j := (0 : Int32)) (v := (.ref w0)) (by rw [e107]; exact Ar_bv107_38.1) (State.isArrayOf_alike hZ101.alike Ar_bv107_38.2.1) rfl Ar_bv107_38.2.2 hinbv107_38 hatbv107_38 (g := (mkF m 35 #[.val (.ref a1), .val (.ref a1), .val (.ref bv107), .val (.int (6 : Int32)), .val (.int (0 : Int32)), .unset] [(.int (0 : Int32)), (.ref bv107)])) rfl rfl (hb hby d5_35) _ ?_
    show Steps p.tables e below (T107.setTop (mkF m 36 #[.val (.ref a1), .val (.ref a1), .val (.ref bv107), .val (.int (6 : Int32)), .val (.int (0 : Int32)), .unset] [(.ref w0)])) _
    refine XS.astore X107.here hx rfl (hb hby d5_36) rfl rfl (l' := #[.val (.ref a1), .val (.ref a1), .val (.ref bv107), .val (.int (6 : Int32)), .val (.int (0 : Int32)), .val (.ref w0)]) rfl ?_
    show Steps p.tables e below (T107.setTop (mkF m 38 #[.val (.ref a1), .val (.ref a1), .val (.ref bv107), .val (.int (6 : Int32)), .val (.int (0 : Int32)), .val (.ref w0)] [])) _
    refine XS.aload X107.here hx rfl (hb hby d5_38) rfl rfl ?_
    show Steps p.tables e below (T107.setTop (mkF m 40 #[.val (.ref a1), .val (.ref a1), .val (.ref bv107), .val (.int (6 : Int32)), .val (.int (0 : Int32)), .val (.ref w0)] [(.ref w0)])) _
    refine st108 _ ?_
    show Steps p.tables e below (T108.setTop (mkF m 43 #[.val (.ref a1), .val (.ref a1), .val (.ref bv107), .val (.int (6 : Int32)), .val (.int (0 : Int32)), .val (.ref w0)] [(.ref s0)])) _
    refine XS.aloadN X108.here hx rfl (hb hby d5_43) rfl rfl ?_
    show Steps p.tables e below (T108.setTop (mkF m 44 #[.val (.ref a1), .val (.ref a1), .val (.ref bv107), .val (.int (6 : Int32)), .val (.int (0 : Int32)), .val (.ref w0)] [(.ref a1), (.ref s0)])) _
    refine st113.trans ?_
    show Steps p.tables e below (T113.setTop (mkF m 47 #[.val (.ref a1), .val (.ref a1), .val (.ref bv107), .val (.int (6 : Int32)), .val (.int (0 : Int32)), .val (.ref w0)] [(.int (0 : Int32))])) _
    refine XS.ifYes X113.here hx rfl (pc0 := 47) (pc' := 53) rfl (hb hby d5_47) rfl ((if0 _ _).trans (teq (by decide : (0 : Int32) = (0 : Int32))).1) (by decide) (by decide) ?_
    show Steps p.tables e below (T113.setTop (mkF m 53 #[.val (.ref a1), .val (.ref a1), .val (.ref bv107), .val (.int (6 : Int32)), .val (.int (0 : Int32)), .val (.ref w0)] [])) _
    refine XS.iinc X113.here hx rfl (hb hby d5_53) rfl (l' := #[.val (.ref a1), .val (.ref a1), .val (.ref bv107), .val (.int (6 : Int32)), .val (.int (1 : Int32)), .val (.ref w0)]) rfl ?_
    show Steps p.tables e below (T113.setTop (mkF m 56 #[.val (.ref a1), .val (.ref a1), .val (.ref bv107), .val (.int (6 : Int32)), .val (.int (1 : Int32)), .val (.ref w0)] [])) _
    refine XS.goto X113.here hx rfl (pc0 := 56) (pc' := 26) rfl (hb hby d5_56) (by decide) (by decide) ?_
    show Steps p.tables e below (T113.setTop (mkF m 26 #[.val (.ref a1), .val (.ref a1), .val (.ref bv107), .val (.int (6 : Int32)), .val (.int (1 : Int32)), .val (.ref w0)] [])) _
    refine XS.iload X113.here hx rfl (hb hby d5_26) rfl ?_
    show Steps p.tables e below (T113.setTop (mkF m 28 #[.val (.ref a1), .val (.ref a1), .val (.ref bv107), .val (.int (6 : Int32)), .val (.int (1 : Int32)), .val (.ref w0)] [(.int (1 : Int32))])) _
    refine XS.iloadN X113.here hx rfl (hb hby d5_28) rfl ?_
    show Steps p.tables e below (T113.setTop (mkF m 29 #[.val (.ref a1), .val (.ref a1), .val (.ref bv107), .val (.int (6 : Int32)), .val (.int (1 : Int32)), .val (.ref w0)] [(.int (6 : Int32)), (.int (1 : Int32))])) _
    refine XS.icmpNo X113.here hx rfl (hb hby d5_29) rfl (tlt (by decide : (1 : Int32) < (6 : Int32))).2.1 ?_
    show Steps p.tables e below (T113.setTop (mkF m 32 #[.val (.ref a1), .val (.ref a1), .val (.ref bv107), .val (.int (6 : Int32)), .val (.int (1 : Int32)), .val (.ref w0)] [])) _
    refine XS.aloadN X113.here hx rfl (hb hby d5_32) rfl rfl ?_
    show Steps p.tables e below (T113.setTop (mkF m 33 #[.val (.ref a1), .val (.ref a1), .val (.ref bv107), .val (.int (6 : Int32)), .val (.int (1 : Int32)), .val (.ref w0)] [(.ref bv107)])) _
    refine XS.iload X113.here hx rfl (hb hby d5_33) rfl ?_
    show Steps p.tables e below (T113.setTop (mkF m 35 #[.val (.ref a1), .val (.ref a1), .val (.ref bv107), .val (.int (6 : Int32)), .val (.int (1 : Int32)), .val (.ref w0)] [(.int (1 : Int32)), (.ref bv107)])) _
    refine X113.aaload hx (j := (1 : Int32)) (v := (.ref w1)) (by rw [e113]; exact Ar_bv107_66.1) (State.isArrayOf_alike hZ101.alike Ar_bv107_66.2.1) rfl Ar_bv107_66.2.2 hinbv107_66 hatbv107_66 (g := (mkF m 35 #[.val (.ref a1), .val (.ref a1), .val (.ref bv107), .val (.int (6 : Int32)), .val (.int (1 : Int32)), .val (.ref w0)] [(.int (1 : Int32)), (.ref bv107)])) rfl rfl (hb hby d5_35) _ ?_
    show Steps p.tables e below (T113.setTop (mkF m 36 #[.val (.ref a1), .val (.ref a1), .val (.ref bv107), .val (.int (6 : Int32)), .val (.int (1 : Int32)), .val (.ref w0)] [(.ref w1)])) _
    refine XS.astore X113.here hx rfl (hb hby d5_36) rfl rfl (l' := #[.val (.ref a1), .val (.ref a1), .val (.ref bv107), .val (.int (6 : Int32)), .val (.int (1 : Int32)), .val (.ref w1)]) rfl ?_
    show Steps p.tables e below (T113.setTop (mkF m 38 #[.val (.ref a1), .val (.ref a1), .val (.ref bv107), .val (.int (6 : Int32)), .val (.int (1 : Int32)), .val (.ref w1)] [])) _
    refine XS.aload X113.here hx rfl (hb hby d5_38) rfl rfl ?_
    show Steps p.tables e below (T113.setTop (mkF m 40 #[.val (.ref a1), .val (.ref a1), .val (.ref bv107), .val (.int (6 : Int32)), .val (.int (1 : Int32)), .val (.ref w1)] [(.ref w1)])) _
    refine st114 _ ?_
    show Steps p.tables e below (T114.setTop (mkF m 43 #[.val (.ref a1), .val (.ref a1), .val (.ref bv107), .val (.int (6 : Int32)), .val (.int (1 : Int32)), .val (.ref w1)] [(.ref s1)])) _
    refine XS.aloadN X114.here hx rfl (hb hby d5_43) rfl rfl ?_
    show Steps p.tables e below (T114.setTop (mkF m 44 #[.val (.ref a1), .val (.ref a1), .val (.ref bv107), .val (.int (6 : Int32)), .val (.int (1 : Int32)), .val (.ref w1)] [(.ref a1), (.ref s1)])) _
    refine st115.trans ?_
    show Steps p.tables e below (T115.setTop (mkF m 47 #[.val (.ref a1), .val (.ref a1), .val (.ref bv107), .val (.int (6 : Int32)), .val (.int (1 : Int32)), .val (.ref w1)] [(.int (0 : Int32))])) _
    refine XS.ifYes X115.here hx rfl (pc0 := 47) (pc' := 53) rfl (hb hby d5_47) rfl ((if0 _ _).trans (teq (by decide : (0 : Int32) = (0 : Int32))).1) (by decide) (by decide) ?_
    show Steps p.tables e below (T115.setTop (mkF m 53 #[.val (.ref a1), .val (.ref a1), .val (.ref bv107), .val (.int (6 : Int32)), .val (.int (1 : Int32)), .val (.ref w1)] [])) _
    refine XS.iinc X115.here hx rfl (hb hby d5_53) rfl (l' := #[.val (.ref a1), .val (.ref a1), .val (.ref bv107), .val (.int (6 : Int32)), .val (.int (2 : Int32)), .val (.ref w1)]) rfl ?_
    show Steps p.tables e below (T115.setTop (mkF m 56 #[.val (.ref a1), .val (.ref a1), .val (.ref bv107), .val (.int (6 : Int32)), .val (.int (2 : Int32)), .val (.ref w1)] [])) _
    refine XS.goto X115.here hx rfl (pc0 := 56) (pc' := 26) rfl (hb hby d5_56) (by decide) (by decide) ?_
    show Steps p.tables e below (T115.setTop (mkF m 26 #[.val (.ref a1), .val (.ref a1), .val (.ref bv107), .val (.int (6 : Int32)), .val (.int (2 : Int32)), .val (.ref w1)] [])) _
    refine XS.iload X115.here hx rfl (hb hby d5_26) rfl ?_
    show Steps p.tables e below (T115.setTop (mkF m 28 #[.val (.ref a1), .val (.ref a1), .val (.ref bv107), .val (.int (6 : Int32)), .val (.int (2 : Int32)), .val (.ref w1)] [(.int (2 : Int32))])) _
    refine XS.iloadN X115.here hx rfl (hb hby d5_28) rfl ?_
    show Steps p.tables e below (T115.setTop (mkF m 29 #[.val (.ref a1), .val (.ref a1), .val (.ref bv107), .val (.int (6 : Int32)), .val (.int (2 : Int32)), .val (.ref w1)] [(.int (6 : Int32)), (.int (2 : Int32))])) _
    refine XS.icmpNo X115.here hx rfl (hb hby d5_29) rfl (tlt (by decide : (2 : Int32) < (6 : Int32))).2.1 ?_
    show Steps p.tables e below (T115.setTop (mkF m 32 #[.val (.ref a1), .val (.ref a1), .val (.ref bv107), .val (.int (6 : Int32)), .val (.int (2 : Int32)), .val (.ref w1)] [])) _
    refine XS.aloadN X115.here hx rfl (hb hby d5_32) rfl rfl ?_
    show Steps p.tables e below (T115.setTop (mkF m 33 #[.val (.ref a1), .val (.ref a1), .val (.ref bv107), .val (.int (6 : Int32)), .val (.int (2 : Int32)), .val (.ref w1)] [(.ref bv107)])) _
    refine XS.iload X115.here hx rfl (hb hby d5_33) rfl ?_
    show Steps p.tables e below (T115.setTop (mkF m 35 #[.val (.ref a1), .val (.ref a1), .val (.ref bv107), .val (.int (6 : Int32)), .val (.int (2 : Int32)), .val (.ref w1)] [(.int (2 : Int32)), (.ref bv107)])) _
    refine X115.aaload hx (j := (2 : Int32)) (v := (.ref w2)) (by rw [e115]; exact Ar_bv107_94.1) (State.isArrayOf_alike hZ101.alike Ar_bv107_94.2.1) rfl Ar_bv107_94.2.2 hinbv107_94 hatbv107_94 (g := (mkF m 35 #[.val (.ref a1), .val (.ref a1), .val (.ref bv107), .val (.int (6 : Int32)), .val (.int (2 : Int32)), .val (.ref w1)] [(.int (2 : Int32)), (.ref bv107)])) rfl rfl (hb hby d5_35) _ ?_
    show Steps p.tables e below (T115.setTop (mkF m 36 #[.val (.ref a1), .val (.ref a1), .val (.ref bv107), .val (.int (6 : Int32)), .val (.int (2 : Int32)), .val (.ref w1)] [(.ref w2)])) _
    refine XS.astore X115.here hx rfl (hb hby d5_36) rfl rfl (l' := #[.val (.ref a1), .val (.ref a1), .val (.ref bv107), .val (.int (6 : Int32)), .val (.int (2 : Int32)), .val (.ref w2)]) rfl ?_
    show Steps p.tables e below (T115.setTop (mkF m 38 #[.val (.ref a1), .val (.ref a1), .val (.ref bv107), .val (.int (6 : Int32)), .val (.int (2 : Int32)), .val (.ref w2)] [])) _
    refine XS.aload X115.here hx rfl (hb hby d5_38) rfl rfl ?_
    show Steps p.tables e below (T115.setTop (mkF m 40 #[.val (.ref a1), .val (.ref a1), .val (.ref bv107), .val (.int (6 : Int32)), .val (.int (2 : Int32)), .val (.ref w2)] [(.ref w2)])) _
    refine st116 _ ?_
    show Steps p.tables e below (T116.setTop (mkF m 43 #[.val (.ref a1), .val (.ref a1), .val (.ref bv107), .val (.int (6 : Int32)), .val (.int (2 : Int32)), .val (.ref w2)] [(.ref s2)])) _
    refine XS.aloadN X116.here hx rfl (hb hby d5_43) rfl rfl ?_
    show Steps p.tables e below (T116.setTop (mkF m 44 #[.val (.ref a1), .val (.ref a1), .val (.ref bv107), .val (.int (6 : Int32)), .val (.int (2 : Int32)), .val (.ref w2)] [(.ref a1), (.ref s2)])) _
    refine st117.trans ?_
    show Steps p.tables e below (T117.setTop (mkF m 47 #[.val (.ref a1), .val (.ref a1), .val (.ref bv107), .val (.int (6 : Int32)), .val (.int (2 : Int32)), .val (.ref w2)] [(.int (0 : Int32))])) _
    refine XS.ifYes X117.here hx rfl (pc0 := 47) (pc' := 53) rfl (hb hby d5_47) rfl ((if0 _ _).trans (teq (by decide : (0 : Int32) = (0 : Int32))).1) (by decide) (by decide) ?_
    show Steps p.tables e below (T117.setTop (mkF m 53 #[.val (.ref a1), .val (.ref a1), .val (.ref bv107), .val (.int (6 : Int32)), .val (.int (2 : Int32)), .val (.ref w2)] [])) _
    refine XS.iinc X117.here hx rfl (hb hby d5_53) rfl (l' := #[.val (.ref a1), .val (.ref a1), .val (.ref bv107), .val (.int (6 : Int32)), .val (.int (3 : Int32)), .val (.ref w2)]) rfl ?_
    show Steps p.tables e below (T117.setTop (mkF m 56 #[.val (.ref a1), .val (.ref a1), .val (.ref bv107), .val (.int (6 : Int32)), .val (.int (3 : Int32)), .val (.ref w2)] [])) _
    refine XS.goto X117.here hx rfl (pc0 := 56) (pc' := 26) rfl (hb hby d5_56) (by decide) (by decide) ?_
    show Steps p.tables e below (T117.setTop (mkF m 26 #[.val (.ref a1), .val (.ref a1), .val (.ref bv107), .val (.int (6 : Int32)), .val (.int (3 : Int32)), .val (.ref w2)] [])) _
    refine XS.iload X117.here hx rfl (hb hby d5_26) rfl ?_
    show Steps p.tables e below (T117.setTop (mkF m 28 #[.val (.ref a1), .val (.ref a1), .val (.ref bv107), .val (.int (6 : Int32)), .val (.int (3 : Int32)), .val (.ref w2)] [(.int (3 : Int32))])) _
    refine XS.iloadN X117.here hx rfl (hb hby d5_28) rfl ?_
    show Steps p.tables e below (T117.setTop (mkF m 29 #[.val (.ref a1), .val (.ref a1), .val (.ref bv107), .val (.int (6 : Int32)), .val (.int (3 : Int32)), .val (.ref w2)] [(.int (6 : Int32)), (.int (3 : Int32))])) _
    refine XS.icmpNo X117.here hx rfl (hb hby d5_29) rfl (tlt (by decide : (3 : Int32) < (6 : Int32))).2.1 ?_
    show Steps p.tables e below (T117.setTop (mkF m 32 #[.val (.ref a1), .val (.ref a1), .val (.ref bv107), .val (.int (6 : Int32)), .val (.int (3 : Int32)), .val (.ref w2)] [])) _
    refine XS.aloadN X117.here hx rfl (hb hby d5_32) rfl rfl ?_
    show Steps p.tables e below (T117.setTop (mkF m 33 #[.val (.ref a1), .val (.ref a1), .val (.ref bv107), .val (.int (6 : Int32)), .val (.int (3 : Int32)), .val (.ref w2)] [(.ref bv107)])) _
    refine XS.iload X117.here hx rfl (hb hby d5_33) rfl ?_
    show Steps p.tables e below (T117.setTop (mkF m 35 #[.val (.ref a1), .val (.ref a1), .val (.ref bv107), .val (.int (6 : Int32)), .val (.int (3 : Int32)), .val (.ref w2)] [(.int (3 : Int32)), (.ref bv107)])) _
    refine X117.aaload hx (j := (3 : Int32)) (v := (.ref w3)) (by rw [e117]; exact Ar_bv107_122.1) (State.isArrayOf_alike hZ101.alike Ar_bv107_122.2.1) rfl Ar_bv107_122.2.2 hinbv107_122 hatbv107_122 (g := (mkF m 35 #[.val (.ref a1), .val (.ref a1), .val (.ref bv107), .val (.int (6 : Int32)), .val (.int (3 : Int32)), .val (.ref w2)] [(.int (3 : Int32)), (.ref bv107)])) rfl rfl (hb hby d5_35) _ ?_
    show Steps p.tables e below (T117.setTop (mkF m 36 #[.val (.ref a1), .val (.ref a1), .val (.ref bv107), .val (.int (6 : Int32)), .val (.int (3 : Int32)), .val (.ref w2)] [(.ref w3)])) _
    refine XS.astore X117.here hx rfl (hb hby d5_36) rfl rfl (l' := #[.val (.ref a1), .val (.ref a1), .val (.ref bv107), .val (.int (6 : Int32)), .val (.int (3 : Int32)), .val (.ref w3)]) rfl ?_
    show Steps p.tables e below (T117.setTop (mkF m 38 #[.val (.ref a1), .val (.ref a1), .val (.ref bv107), .val (.int (6 : Int32)), .val (.int (3 : Int32)), .val (.ref w3)] [])) _
    refine XS.aload X117.here hx rfl (hb hby d5_38) rfl rfl ?_
    show Steps p.tables e below (T117.setTop (mkF m 40 #[.val (.ref a1), .val (.ref a1), .val (.ref bv107), .val (.int (6 : Int32)), .val (.int (3 : Int32)), .val (.ref w3)] [(.ref w3)])) _
    refine st118 _ ?_
    show Steps p.tables e below (T118.setTop (mkF m 43 #[.val (.ref a1), .val (.ref a1), .val (.ref bv107), .val (.int (6 : Int32)), .val (.int (3 : Int32)), .val (.ref w3)] [(.ref s3)])) _
    refine XS.aloadN X118.here hx rfl (hb hby d5_43) rfl rfl ?_
    show Steps p.tables e below (T118.setTop (mkF m 44 #[.val (.ref a1), .val (.ref a1), .val (.ref bv107), .val (.int (6 : Int32)), .val (.int (3 : Int32)), .val (.ref w3)] [(.ref a1), (.ref s3)])) _
    refine st119.trans ?_
    show Steps p.tables e below (T119.setTop (mkF m 47 #[.val (.ref a1), .val (.ref a1), .val (.ref bv107), .val (.int (6 : Int32)), .val (.int (3 : Int32)), .val (.ref w3)] [(.int (0 : Int32))])) _
    refine XS.ifYes X119.here hx rfl (pc0 := 47) (pc' := 53) rfl (hb hby d5_47) rfl ((if0 _ _).trans (teq (by decide : (0 : Int32) = (0 : Int32))).1) (by decide) (by decide) ?_
    show Steps p.tables e below (T119.setTop (mkF m 53 #[.val (.ref a1), .val (.ref a1), .val (.ref bv107), .val (.int (6 : Int32)), .val (.int (3 : Int32)), .val (.ref w3)] [])) _
    refine XS.iinc X119.here hx rfl (hb hby d5_53) rfl (l' := #[.val (.ref a1), .val (.ref a1), .val (.ref bv107), .val (.int (6 : Int32)), .val (.int (4 : Int32)), .val (.ref w3)]) rfl ?_
    show Steps p.tables e below (T119.setTop (mkF m 56 #[.val (.ref a1), .val (.ref a1), .val (.ref bv107), .val (.int (6 : Int32)), .val (.int (4 : Int32)), .val (.ref w3)] [])) _
    refine XS.goto X119.here hx rfl (pc0 := 56) (pc' := 26) rfl (hb hby d5_56) (by decide) (by decide) ?_
    show Steps p.tables e below (T119.setTop (mkF m 26 #[.val (.ref a1), .val (.ref a1), .val (.ref bv107), .val (.int (6 : Int32)), .val (.int (4 : Int32)), .val (.ref w3)] [])) _
    refine XS.iload X119.here hx rfl (hb hby d5_26) rfl ?_
    show Steps p.tables e below (T119.setTop (mkF m 28 #[.val (.ref a1), .val (.ref a1), .val (.ref bv107), .val (.int (6 : Int32)), .val (.int (4 : Int32)), .val (.ref w3)] [(.int (4 : Int32))])) _
    refine XS.iloadN X119.here hx rfl (hb hby d5_28) rfl ?_
    show Steps p.tables e below (T119.setTop (mkF m 29 #[.val (.ref a1), .val (.ref a1), .val (.ref bv107), .val (.int (6 : Int32)), .val (.int (4 : Int32)), .val (.ref w3)] [(.int (6 : Int32)), (.int (4 : Int32))])) _
    refine XS.icmpNo X119.here hx rfl (hb hby d5_29) rfl (tlt (by decide : (4 : Int32) < (6 : Int32))).2.1 ?_
    show Steps p.tables e below (T119.setTop (mkF m 32 #[.val (.ref a1), .val (.ref a1), .val (.ref bv107), .val (.int (6 : Int32)), .val (.int (4 : Int32)), .val (.ref w3)] [])) _
    refine XS.aloadN X119.here hx rfl (hb hby d5_32) rfl rfl ?_
    show Steps p.tables e below (T119.setTop (mkF m 33 #[.val (.ref a1), .val (.ref a1), .val (.ref bv107), .val (.int (6 : Int32)), .val (.int (4 : Int32)), .val (.ref w3)] [(.ref bv107)])) _
    refine XS.iload X119.here hx rfl (hb hby d5_33) rfl ?_
    show Steps p.tables e below (T119.setTop (mkF m 35 #[.val (.ref a1), .val (.ref a1), .val (.ref bv107), .val (.int (6 : Int32)), .val (.int (4 : Int32)), .val (.ref w3)] [(.int (4 : Int32)), (.ref bv107)])) _
    refine X119.aaload hx (j := (4 : Int32)) (v := (.ref w4)) (by rw [e119]; exact Ar_bv107_150.1) (State.isArrayOf_alike hZ101.alike Ar_bv107_150.2.1) rfl Ar_bv107_150.2.2 hinbv107_150 hatbv107_150 (g := (mkF m 35 #[.val (.ref a1), .val (.ref a1), .val (.ref bv107), .val (.int (6 : Int32)), .val (.int (4 : Int32)), .val (.ref w3)] [(.int (4 : Int32)), (.ref bv107)])) rfl rfl (hb hby d5_35) _ ?_
    show Steps p.tables e below (T119.setTop (mkF m 36 #[.val (.ref a1), .val (.ref a1), .val (.ref bv107), .val (.int (6 : Int32)), .val (.int (4 : Int32)), .val (.ref w3)] [(.ref w4)])) _
    refine XS.astore X119.here hx rfl (hb hby d5_36) rfl rfl (l' := #[.val (.ref a1), .val (.ref a1), .val (.ref bv107), .val (.int (6 : Int32)), .val (.int (4 : Int32)), .val (.ref w4)]) rfl ?_
    show Steps p.tables e below (T119.setTop (mkF m 38 #[.val (.ref a1), .val (.ref a1), .val (.ref bv107), .val (.int (6 : Int32)), .val (.int (4 : Int32)), .val (.ref w4)] [])) _
    refine XS.aload X119.here hx rfl (hb hby d5_38) rfl rfl ?_
    show Steps p.tables e below (T119.setTop (mkF m 40 #[.val (.ref a1), .val (.ref a1), .val (.ref bv107), .val (.int (6 : Int32)), .val (.int (4 : Int32)), .val (.ref w4)] [(.ref w4)])) _
    refine st120 _ ?_
    show Steps p.tables e below (T120.setTop (mkF m 43 #[.val (.ref a1), .val (.ref a1), .val (.ref bv107), .val (.int (6 : Int32)), .val (.int (4 : Int32)), .val (.ref w4)] [(.ref s4)])) _
    refine XS.aloadN X120.here hx rfl (hb hby d5_43) rfl rfl ?_
    show Steps p.tables e below (T120.setTop (mkF m 44 #[.val (.ref a1), .val (.ref a1), .val (.ref bv107), .val (.int (6 : Int32)), .val (.int (4 : Int32)), .val (.ref w4)] [(.ref a1), (.ref s4)])) _
    refine st121.trans ?_
    show Steps p.tables e below (T121.setTop (mkF m 47 #[.val (.ref a1), .val (.ref a1), .val (.ref bv107), .val (.int (6 : Int32)), .val (.int (4 : Int32)), .val (.ref w4)] [(.int (1 : Int32))])) _
    refine XS.ifNo X121.here hx rfl (hb hby d5_47) rfl ((if0 _ _).trans (feq (by decide : ¬ ((1 : Int32) = (0 : Int32)))).1) ?_
    show Steps p.tables e below (T121.setTop (mkF m 50 #[.val (.ref a1), .val (.ref a1), .val (.ref bv107), .val (.int (6 : Int32)), .val (.int (4 : Int32)), .val (.ref w4)] [])) _
    refine XS.aload X121.here hx rfl (hb hby d5_50) rfl rfl ?_
    show Steps p.tables e below (T121.setTop (mkF m 52 #[.val (.ref a1), .val (.ref a1), .val (.ref bv107), .val (.int (6 : Int32)), .val (.int (4 : Int32)), .val (.ref w4)] [(.ref w4)])) _
    jvm_step X121.here [X121.here.top, hx, (hb hby d5_52), X121.method', Bd.returns, Value.isRef, FieldType.isReference]
    first | (intro acts; rw [hr _ acts rfl rfl rfl]) | rw [hr _ _ rfl rfl rfl]
    exact Steps.refl _
  · show Q5 (.ref w4) h0 n0 _ T121.heap _
    rw [e121]
    exact ⟨rfl, N121, KK107⟩
set_option maxRecDepth 65536 in
set_option maxHeartbeats 40000000 in
theorem rm5_5 (l : Launch) (Z : State) (a0 : Array Value) (hw : ∀ d ∈ tables_1, d.before a0 Z = true) (ws : List Jvm.Cond) (G1 : Int32) (kV : ClassId) (wV w0 w1 w2 w3 w4 w5 : Addr) (s0 s1 s2 s3 s4 s5 : Addr) (a1 : Addr) (cs : List Int32) (h0 : Heap) (n0 : Nat) (O0 : Old Z n0 h0) (S_CS : Sta Z Z.heap "java/lang/String" "COMPACT_STRINGS" "Z" (.int G1)) (hG1 : ¬ (G1 = (0 : Int32))) (S_V : Sta Z Z.heap "com/example/plugroot/plugroot/sql/Comparison" "$VALUES" "[Lcom/example/plugroot/plugroot/sql/Comparison;" (.ref wV)) (A_V : Arv Z Z.heap wV kV (.object "com/example/plugroot/plugroot/sql/Comparison") (6 : Int32) [(.ref w0), (.ref w1), (.ref w2), (.ref w3), (.ref w4), (.ref w5)] .null) (E_V : Exa Z Z.heap wV "[Lcom/example/plugroot/plugroot/sql/Comparison;") (M0 : Fld Z Z.heap w0 "com/example/plugroot/plugroot/sql/Comparison" "symbol" "Ljava/lang/String;" (.ref s0)) (M1 : Fld Z Z.heap w1 "com/example/plugroot/plugroot/sql/Comparison" "symbol" "Ljava/lang/String;" (.ref s1)) (M2 : Fld Z Z.heap w2 "com/example/plugroot/plugroot/sql/Comparison" "symbol" "Ljava/lang/String;" (.ref s2)) (M3 : Fld Z Z.heap w3 "com/example/plugroot/plugroot/sql/Comparison" "symbol" "Ljava/lang/String;" (.ref s3)) (M4 : Fld Z Z.heap w4 "com/example/plugroot/plugroot/sql/Comparison" "symbol" "Ljava/lang/String;" (.ref s4)) (M5 : Fld Z Z.heap w5 "com/example/plugroot/plugroot/sql/Comparison" "symbol" "Ljava/lang/String;" (.ref s5)) (T0 : Str Z Z.heap s0 ([(61 : Int32)] : List Int32)) (T1 : Str Z Z.heap s1 ([(60 : Int32), (62 : Int32)] : List Int32)) (T2 : Str Z Z.heap s2 ([(60 : Int32)] : List Int32)) (T3 : Str Z Z.heap s3 ([(62 : Int32)] : List Int32)) (T4 : Str Z Z.heap s4 ([(60 : Int32), (61 : Int32)] : List Int32)) (T5 : Str Z Z.heap s5 ([(62 : Int32), (61 : Int32)] : List Int32)) (T : Str Z h0 a1 cs) (hbg : ¬ cs = [33, 61]) (g0_ : ¬ cs = [61]) (g1_ : ¬ cs = [60, 62]) (g2_ : ¬ cs = [60]) (g3_ : ¬ cs = [62]) (g4_ : ¬ cs = [60, 61]) (g5_ : cs = [62, 61]) :
    MetFree l (⟨"com/example/plugroot/plugroot/sql/Comparison", "of", "(Ljava/lang/String;)Lcom/example/plugroot/plugroot/sql/Comparison;"⟩ : MethodName) (head1 (Jvm.Cond.code (⟨"com/example/plugroot/plugroot/sql/Comparison", "of", "(Ljava/lang/String;)Lcom/example/plugroot/plugroot/sql/Comparison;"⟩ : MethodName) prog_73_method_4_code 6 (some (.object "com/example/plugroot/plugroot/sql/Comparison")) :: ws) ({ frames := 2, cells := 5, slots := 30, locals := 28 } : Room)) (fun a_ U => a_ = #[(.ref a1)] ∧ Z.Warmed39 U.vm ∧ U.heap = h0 ∧ CHv Z consts_1 U.vm h0) (fun _ _ _ _ _ => True) (fun _ U o U' => ∃ v L, o = .returned v ∧ Q5 (.ref w5) h0 n0 v U'.heap L ∧ CHr Z consts_1 U.vm U.heap U'.vm U'.heap ∧ ReturnedEndW U o U' L ({ frames := 2, cells := 5, slots := 30, locals := 28 } : Room).cells ({ frames := 2, cells := 5, slots := 30, locals := 28 } : Room).slots) := by
  refine MetFree.of_bodySF (plainFor_of_name pn_1) hisR ?_
  intro p e s m args below meth c s₁ Bd hml0 hP hK
  obtain ⟨rfl, hZ, hh, hC⟩ := hP
  have hx := Bd.exec
  have hby := Bd.bytes
  have hml : c.maxLocals = 6 := hml0
  have hown : s.vm.findClass "com/example/plugroot/plugroot/sql/Comparison" = some m.cls := findClass_of_methodNamed Bd.named
  have hnm := (name_of_methodNamed Bd.named Bd.method).1
  have X0 : Stand p l e ({ frames := 2, cells := 5, slots := 30, locals := 28 } : Room) (s.setVm s.vm) m #[(.ref a1)] below meth c s₁ [] 0 0 := Stand.of_body Bd
  have e0 : s₁.heap = h0 := by rw [← hh, Bd.state]; rfl
  have N0 := Fr.nil n0
  have pre0 : ∀ tg, Steps p.tables e below (s₁.setTop (mkF m 0 #[.val (.ref a1), .unset, .unset, .unset, .unset, .unset] [])) tg → Steps p.tables e below (s₁.setTop (entryFrame m #[(.ref a1)] 6)) tg := fun tg kq => castTop (ef_R_6 m a1) kq
  have hS0 : s.Since s.vm h0.size := (State.WarmedH.refl s).since _
  have hk0 : h0.size ≤ h0.size := Nat.le_refl _
  have CR0 : CHr Z consts_1 s.vm h0 s.vm h0 := CHr.refl hC
  obtain ⟨tm0, kbm0, Nm0, vsm0, sEm0, sVm0, sCm0, sKm0, scdm0, shpm0, shlm0⟩ := id T0
  obtain ⟨tm1, kbm1, Nm1, vsm1, sEm1, sVm1, sCm1, sKm1, scdm1, shpm1, shlm1⟩ := id T1
  obtain ⟨tm2, kbm2, Nm2, vsm2, sEm2, sVm2, sCm2, sKm2, scdm2, shpm2, shlm2⟩ := id T2
  obtain ⟨tm3, kbm3, Nm3, vsm3, sEm3, sVm3, sCm3, sKm3, scdm3, shpm3, shlm3⟩ := id T3
  obtain ⟨tm4, kbm4, Nm4, vsm4, sEm4, sVm4, sCm4, sKm4, scdm4, shpm4, shlm4⟩ := id T4
  obtain ⟨tm5, kbm5, Nm5, vsm5, sEm5, sVm5, sCm5, sKm5, scdm5, shpm5, shlm5⟩ := id T5
  obtain ⟨ta, kba, Na, vsa, sEa, sVa, sCa, sKa, scda, shpa, shla⟩ := id T
  obtain ⟨a101, T101, h101, k101, b101, kb101, X101, e101, E101, hS101, hk101, hZ101, hown101, lE101, lC101, lV101, lK101, la101, lb101, CS101, lL101, lne101, st101⟩ := ldcCH (s := s) (EL := consts_1) X0 hx hZ hown (wi hw 30 rfl) (fun d hd => hw d (own_strw d hd)) e0 hS0 hk0 (own_EW hw) (by decide) CR0.1 (vs := [(.int (33 : Int32)), (.int (61 : Int32))]) (z := (2 : Int32)) ⟨by decide, by decide⟩ (by decide) (by decide) (g := (mkF m 1 #[.val (.ref a1), .unset, .unset, .unset, .unset, .unset] [(.ref a1)])) rfl (hb hby d5_1) (n := 8) (by decide) (by decide) (by decide) (by decide)
  have O101 := O0.ext E101
  have CR101 := CR0.trans CS101
  have KK101 : Keep h0 h101 [] := (Keep.refl h0 []).ext E101
  have lcd101 : StrChars.Road.CodA ([(33 : Int32), (61 : Int32)] : List Int32) 0 (2 : Int32) [(.int (33 : Int32)), (.int (61 : Int32))] := Or.inl ⟨rfl, rfl, rfl, by decide⟩
  have lhp101 : ∀ c ∈ ([(33 : Int32), (61 : Int32)] : List Int32), ¬ c < 0 ∧ ¬ (255 : Int32) < c := by decide
  have fE_a1_1_102 := (sEa.ext E101)
  have fString_value_1_103 := (sVa.ext E101)
  have fString_coder_1_104 := (sCa.ext E101)
  have fV_ta_1_105 := (sKa.ext E101)
  obtain ⟨cq106, kq106, q106a, q106b, q106c⟩ := isOf hZ101 e101 fE_a1_1_102
  obtain ⟨_, _, ⟨T106, L106, k106, n106⟩, -, X106, ⟨Lc106, hQ106, l106, y106, z106⟩, st106⟩ := X101.virtualBack hx (y := (⟨"java/lang/String", "equals", "(Ljava/lang/Object;)Z"⟩ : MethodName)) (z := (⟨"java/lang/String", "equals", "(Ljava/lang/Object;)Z"⟩ : MethodName)) hown101 (mvT hZ101 (wi hw 31 rfl)) (mvT hZ101 (wi hw 32 rfl)) (notFace_of_selects (args := #[]) (mvT hZ101 (wi hw 34 rfl))) (mvT hZ101 (wi hw 34 rfl)) (mvT hZ101 (wi hw 33 rfl)) (by decide) (StrChars.Road.eqW (W := 0) hZ101 (fun d hd => hw d (own_w_eqW d hd)) (kI := 4) (wi hw 6 rfl) fE_a1_1_102 fString_value_1_103 fString_coder_1_104 fV_ta_1_105 scda (own_up _ shpa) shla lE101 lV101 lC101 lK101 lcd101 (own_up _ lhp101) (by decide) (S_CS.ext O101.2) hG1 (by decide) (by decide)) q106a q106c (g := (mkF m 3 #[.val (.ref a1), .unset, .unset, .unset, .unset, .unset] [(.ref a101), (.ref a1)])) rfl (by rw [hml]; rfl) (Steps.refl _) (argsL := [(.ref a101)]) (rest := []) (lenOf pd_0 rfl) rfl (by show 2 * 0 + _ ≤ _; exact Nat.le_of_eq rfl) (hb hby d5_3) (fun _ _ => ⟨rfl, e101, (by decide : 2 + 0 ≤ _), (by decide : 12 + 0 ≤ _)⟩)
  dsimp only [Pt.U, Pt.locs, Pt.cells, Pt.slots] at X106 l106 y106 z106 st106 hQ106
  subst l106 y106 z106
  obtain ⟨hv106, rfl, hh106⟩ := hQ106
  obtain rfl := (hv106.resolve_left (fun q => (hbg : ¬ cs = ([(33 : Int32), (61 : Int32)] : List Int32)) q.2)).1
  have N106q : Fr n0 ([] : List Loc) := Fr.nil n0
  have e106 : T106.heap = h101 := hh106
  have N106 := Fr.app N0 N106q
  obtain ⟨_, _, ⟨T107, L107, k107, n107⟩, -, X107, ⟨Lc107, hQ107, l107, y107, z107⟩, st107⟩ := Jvm.LawKit.callS X106 hx (y := (⟨"com/example/plugroot/plugroot/sql/Comparison", "values", "()[Lcom/example/plugroot/plugroot/sql/Comparison;"⟩ : MethodName)) hown101 (mvT hZ101 (wi hw 42 rfl)) (mvT hZ101 (wi hw 43 rfl)) (mvT hZ101 (wi hw 28 rfl)) (mvT hZ101 (wi hw 44 rfl)) (by decide) (backOf (W := 0) (rm8 l Z a0 hw [] kV wV w0 w1 w2 w3 w4 w5 h101 n0 O101 S_V A_V E_V) hZ101 (wi hw 44 rfl) (wi hw 28 rfl) (by decide) (by decide)) (g := (mkF m 16 #[.val (.ref a1), .val (.ref a1), .unset, .unset, .unset, .unset] [])) rfl (by rw [hml]; rfl) (argsL := []) (rest := []) (lenOf pd_1 rfl) rfl (by show 2 * 0 + _ ≤ _; exact Nat.le_of_eq rfl) (hb hby d5_16) (fun _ _ => ⟨rfl, e106, (by decide : 2 + 1 ≤ _), (by decide : 12 + 6 ≤ _)⟩)
  dsimp only [Pt.U, Pt.locs, Pt.cells, Pt.slots] at X107 l107 y107 z107 st107 hQ107
  subst l107 y107 z107
  obtain ⟨bv107, rfl, N107q, K107, szv107, Av107⟩ := hQ107
  obtain ⟨h107, e107⟩ : ∃ z, T107.heap = z := ⟨_, rfl⟩
  rw [e107] at K107 Av107
  have g_bv107 : n0 ≤ bv107 := Nat.le_trans (O101.1 ▸ O101.2.1) szv107
  have sz_bv107 : h0.size ≤ bv107 := Nat.le_trans KK101.1 szv107
  have O107 := O101.keep K107 all0
  have CS107 := CHr.keep K107 sf0 CR101.1
  have CR107 := CR101.trans CS107
  have KK107 : Keep h0 h107 [] := KK101.trans K107 all0
  have N107 := Fr.app N106 N107q
  obtain ⟨cl_bv107_19, Ar_bv107_19, -, S_bv107_19, N_bv107_19, -, -⟩ := id (Av107)
  obtain ⟨cl_bv107_38, Ar_bv107_38, q_bv107_38, S_bv107_38, N_bv107_38, H_bv107_38, G_bv107_38⟩ := id (Av107)
  have hinbv107_38 : ¬ ((0 : Int32) < 0 ∨ cl_bv107_38.slots.size ≤ ((0 : Int32)).toNatClampNeg) := inb_of S_bv107_38 ⟨by decide, by decide⟩
  have hatbv107_38 : cl_bv107_38.slots[((0 : Int32)).toNatClampNeg]? = some (.ref w0) := H_bv107_38.at hinbv107_38 rfl
  obtain ⟨T108, X108, e108, st108⟩ := getF X107 hx hZ101 hown101 (host := "") (Or.inl (wi hw 63 rfl)) Via.refl e107 (M0.ext O107.2) (g := (mkF m 40 #[.val (.ref a1), .val (.ref a1), .val (.ref bv107), .val (.int (6 : Int32)), .val (.int (0 : Int32)), .val (.ref w0)] [(.ref w0)])) rfl rfl (hb hby d5_40)
  have fE_a1_2_109 := (fE_a1_1_102.keep K107)
  have fString_value_2_110 := (fString_value_1_103.keep K107 nin0)
  have fString_coder_2_111 := (fString_coder_1_104.keep K107 nin0)
  have fV_ta_2_112 := (fV_ta_1_105.keep K107 nin0)
  obtain ⟨cq113, kq113, q113a, q113b, q113c⟩ := isOf hZ101 e108 (sEm0.ext O107.2)
  obtain ⟨_, _, ⟨T113, L113, k113, n113⟩, -, X113, ⟨Lc113, hQ113, l113, y113, z113⟩, st113⟩ := X108.virtualBack hx (y := (⟨"java/lang/String", "equals", "(Ljava/lang/Object;)Z"⟩ : MethodName)) (z := (⟨"java/lang/String", "equals", "(Ljava/lang/Object;)Z"⟩ : MethodName)) hown101 (mvT hZ101 (wi hw 31 rfl)) (mvT hZ101 (wi hw 32 rfl)) (notFace_of_selects (args := #[]) (mvT hZ101 (wi hw 34 rfl))) (mvT hZ101 (wi hw 34 rfl)) (mvT hZ101 (wi hw 33 rfl)) (by decide) (StrChars.Road.eqW (W := 0) hZ101 (fun d hd => hw d (own_w_eqW d hd)) (kI := 4) (wi hw 6 rfl) (sEm0.ext O107.2) (sVm0.ext O107.2) (sCm0.ext O107.2) (sKm0.ext O107.2) scdm0 (own_up _ shpm0) shlm0 fE_a1_2_109 fString_value_2_110 fString_coder_2_111 fV_ta_2_112 scda (own_up _ shpa) shla (S_CS.ext O107.2) hG1 (by decide) (by decide)) q113a q113c (g := (mkF m 44 #[.val (.ref a1), .val (.ref a1), .val (.ref bv107), .val (.int (6 : Int32)), .val (.int (0 : Int32)), .val (.ref w0)] [(.ref a1), (.ref s0)])) rfl (by rw [hml]; rfl) (Steps.refl _) (argsL := [(.ref a1)]) (rest := []) (lenOf pd_0 rfl) rfl (by show 2 * 0 + _ ≤ _; exact Nat.le_of_eq rfl) (hb hby d5_44) (fun _ _ => ⟨rfl, e108, (by decide : 3 + 0 ≤ _), (by decide : 18 + 0 ≤ _)⟩)
  dsimp only [Pt.U, Pt.locs, Pt.cells, Pt.slots] at X113 l113 y113 z113 st113 hQ113
  subst l113 y113 z113
  obtain ⟨hv113, rfl, hh113⟩ := hQ113
  obtain rfl := (hv113.resolve_left (fun q => ((fun z => g0_ z.symm) : ¬ ([(61 : Int32)] : List Int32) = cs) q.2)).1
  have N113q : Fr n0 ([] : List Loc) := Fr.nil n0
  have e113 : T113.heap = h107 := hh113
  have N113 := Fr.app N107 N113q
  obtain ⟨cl_bv107_66, Ar_bv107_66, q_bv107_66, S_bv107_66, N_bv107_66, H_bv107_66, G_bv107_66⟩ := id (Av107)
  have hinbv107_66 : ¬ ((1 : Int32) < 0 ∨ cl_bv107_66.slots.size ≤ ((1 : Int32)).toNatClampNeg) := inb_of S_bv107_66 ⟨by decide, by decide⟩
  have hatbv107_66 : cl_bv107_66.slots[((1 : Int32)).toNatClampNeg]? = some (.ref w1) := H_bv107_66.at hinbv107_66 rfl
  obtain ⟨T114, X114, e114, st114⟩ := getF X113 hx hZ101 hown101 (host := "") (Or.inl (wi hw 63 rfl)) Via.refl e113 (M1.ext O107.2) (g := (mkF m 40 #[.val (.ref a1), .val (.ref a1), .val (.ref bv107), .val (.int (6 : Int32)), .val (.int (1 : Int32)), .val (.ref w1)] [(.ref w1)])) rfl rfl (hb hby d5_40)
  obtain ⟨cq115, kq115, q115a, q115b, q115c⟩ := isOf hZ101 e114 (sEm1.ext O107.2)
  obtain ⟨_, _, ⟨T115, L115, k115, n115⟩, -, X115, ⟨Lc115, hQ115, l115, y115, z115⟩, st115⟩ := X114.virtualBack hx (y := (⟨"java/lang/String", "equals", "(Ljava/lang/Object;)Z"⟩ : MethodName)) (z := (⟨"java/lang/String", "equals", "(Ljava/lang/Object;)Z"⟩ : MethodName)) hown101 (mvT hZ101 (wi hw 31 rfl)) (mvT hZ101 (wi hw 32 rfl)) (notFace_of_selects (args := #[]) (mvT hZ101 (wi hw 34 rfl))) (mvT hZ101 (wi hw 34 rfl)) (mvT hZ101 (wi hw 33 rfl)) (by decide) (StrChars.Road.eqW (W := 0) hZ101 (fun d hd => hw d (own_w_eqW d hd)) (kI := 4) (wi hw 6 rfl) (sEm1.ext O107.2) (sVm1.ext O107.2) (sCm1.ext O107.2) (sKm1.ext O107.2) scdm1 (own_up _ shpm1) shlm1 fE_a1_2_109 fString_value_2_110 fString_coder_2_111 fV_ta_2_112 scda (own_up _ shpa) shla (S_CS.ext O107.2) hG1 (by decide) (by decide)) q115a q115c (g := (mkF m 44 #[.val (.ref a1), .val (.ref a1), .val (.ref bv107), .val (.int (6 : Int32)), .val (.int (1 : Int32)), .val (.ref w1)] [(.ref a1), (.ref s1)])) rfl (by rw [hml]; rfl) (Steps.refl _) (argsL := [(.ref a1)]) (rest := []) (lenOf pd_0 rfl) rfl (by show 2 * 0 + _ ≤ _; exact Nat.le_of_eq rfl) (hb hby d5_44) (fun _ _ => ⟨rfl, e114, (by decide : 3 + 0 ≤ _), (by decide : 18 + 0 ≤ _)⟩)
  dsimp only [Pt.U, Pt.locs, Pt.cells, Pt.slots] at X115 l115 y115 z115 st115 hQ115
  subst l115 y115 z115
  obtain ⟨hv115, rfl, hh115⟩ := hQ115
  obtain rfl := (hv115.resolve_left (fun q => ((fun z => g1_ z.symm) : ¬ ([(60 : Int32), (62 : Int32)] : List Int32) = cs) q.2)).1
  have N115q : Fr n0 ([] : List Loc) := Fr.nil n0
  have e115 : T115.heap = h107 := hh115
  have N115 := Fr.app N113 N115q
  obtain ⟨cl_bv107_94, Ar_bv107_94, q_bv107_94, S_bv107_94, N_bv107_94, H_bv107_94, G_bv107_94⟩ := id (Av107)
  have hinbv107_94 : ¬ ((2 : Int32) < 0 ∨ cl_bv107_94.slots.size ≤ ((2 : Int32)).toNatClampNeg) := inb_of S_bv107_94 ⟨by decide, by decide⟩
  have hatbv107_94 : cl_bv107_94.slots[((2 : Int32)).toNatClampNeg]? = some (.ref w2) := H_bv107_94.at hinbv107_94 rfl
  obtain ⟨T116, X116, e116, st116⟩ := getF X115 hx hZ101 hown101 (host := "") (Or.inl (wi hw 63 rfl)) Via.refl e115 (M2.ext O107.2) (g := (mkF m 40 #[.val (.ref a1), .val (.ref a1), .val (.ref bv107), .val (.int (6 : Int32)), .val (.int (2 : Int32)), .val (.ref w2)] [(.ref w2)])) rfl rfl (hb hby d5_40)
  obtain ⟨cq117, kq117, q117a, q117b, q117c⟩ := isOf hZ101 e116 (sEm2.ext O107.2)
  obtain ⟨_, _, ⟨T117, L117, k117, n117⟩, -, X117, ⟨Lc117, hQ117, l117, y117, z117⟩, st117⟩ := X116.virtualBack hx (y := (⟨"java/lang/String", "equals", "(Ljava/lang/Object;)Z"⟩ : MethodName)) (z := (⟨"java/lang/String", "equals", "(Ljava/lang/Object;)Z"⟩ : MethodName)) hown101 (mvT hZ101 (wi hw 31 rfl)) (mvT hZ101 (wi hw 32 rfl)) (notFace_of_selects (args := #[]) (mvT hZ101 (wi hw 34 rfl))) (mvT hZ101 (wi hw 34 rfl)) (mvT hZ101 (wi hw 33 rfl)) (by decide) (StrChars.Road.eqW (W := 0) hZ101 (fun d hd => hw d (own_w_eqW d hd)) (kI := 4) (wi hw 6 rfl) (sEm2.ext O107.2) (sVm2.ext O107.2) (sCm2.ext O107.2) (sKm2.ext O107.2) scdm2 (own_up _ shpm2) shlm2 fE_a1_2_109 fString_value_2_110 fString_coder_2_111 fV_ta_2_112 scda (own_up _ shpa) shla (S_CS.ext O107.2) hG1 (by decide) (by decide)) q117a q117c (g := (mkF m 44 #[.val (.ref a1), .val (.ref a1), .val (.ref bv107), .val (.int (6 : Int32)), .val (.int (2 : Int32)), .val (.ref w2)] [(.ref a1), (.ref s2)])) rfl (by rw [hml]; rfl) (Steps.refl _) (argsL := [(.ref a1)]) (rest := []) (lenOf pd_0 rfl) rfl (by show 2 * 0 + _ ≤ _; exact Nat.le_of_eq rfl) (hb hby d5_44) (fun _ _ => ⟨rfl, e116, (by decide : 3 + 0 ≤ _), (by decide : 18 + 0 ≤ _)⟩)
  dsimp only [Pt.U, Pt.locs, Pt.cells, Pt.slots] at X117 l117 y117 z117 st117 hQ117
  subst l117 y117 z117
  obtain ⟨hv117, rfl, hh117⟩ := hQ117
  obtain rfl := (hv117.resolve_left (fun q => ((fun z => g2_ z.symm) : ¬ ([(60 : Int32)] : List Int32) = cs) q.2)).1
  have N117q : Fr n0 ([] : List Loc) := Fr.nil n0
  have e117 : T117.heap = h107 := hh117
  have N117 := Fr.app N115 N117q
  obtain ⟨cl_bv107_122, Ar_bv107_122, q_bv107_122, S_bv107_122, N_bv107_122, H_bv107_122, G_bv107_122⟩ := id (Av107)
  have hinbv107_122 : ¬ ((3 : Int32) < 0 ∨ cl_bv107_122.slots.size ≤ ((3 : Int32)).toNatClampNeg) := inb_of S_bv107_122 ⟨by decide, by decide⟩
  have hatbv107_122 : cl_bv107_122.slots[((3 : Int32)).toNatClampNeg]? = some (.ref w3) := H_bv107_122.at hinbv107_122 rfl
  obtain ⟨T118, X118, e118, st118⟩ := getF X117 hx hZ101 hown101 (host := "") (Or.inl (wi hw 63 rfl)) Via.refl e117 (M3.ext O107.2) (g := (mkF m 40 #[.val (.ref a1), .val (.ref a1), .val (.ref bv107), .val (.int (6 : Int32)), .val (.int (3 : Int32)), .val (.ref w3)] [(.ref w3)])) rfl rfl (hb hby d5_40)
  obtain ⟨cq119, kq119, q119a, q119b, q119c⟩ := isOf hZ101 e118 (sEm3.ext O107.2)
  obtain ⟨_, _, ⟨T119, L119, k119, n119⟩, -, X119, ⟨Lc119, hQ119, l119, y119, z119⟩, st119⟩ := X118.virtualBack hx (y := (⟨"java/lang/String", "equals", "(Ljava/lang/Object;)Z"⟩ : MethodName)) (z := (⟨"java/lang/String", "equals", "(Ljava/lang/Object;)Z"⟩ : MethodName)) hown101 (mvT hZ101 (wi hw 31 rfl)) (mvT hZ101 (wi hw 32 rfl)) (notFace_of_selects (args := #[]) (mvT hZ101 (wi hw 34 rfl))) (mvT hZ101 (wi hw 34 rfl)) (mvT hZ101 (wi hw 33 rfl)) (by decide) (StrChars.Road.eqW (W := 0) hZ101 (fun d hd => hw d (own_w_eqW d hd)) (kI := 4) (wi hw 6 rfl) (sEm3.ext O107.2) (sVm3.ext O107.2) (sCm3.ext O107.2) (sKm3.ext O107.2) scdm3 (own_up _ shpm3) shlm3 fE_a1_2_109 fString_value_2_110 fString_coder_2_111 fV_ta_2_112 scda (own_up _ shpa) shla (S_CS.ext O107.2) hG1 (by decide) (by decide)) q119a q119c (g := (mkF m 44 #[.val (.ref a1), .val (.ref a1), .val (.ref bv107), .val (.int (6 : Int32)), .val (.int (3 : Int32)), .val (.ref w3)] [(.ref a1), (.ref s3)])) rfl (by rw [hml]; rfl) (Steps.refl _) (argsL := [(.ref a1)]) (rest := []) (lenOf pd_0 rfl) rfl (by show 2 * 0 + _ ≤ _; exact Nat.le_of_eq rfl) (hb hby d5_44) (fun _ _ => ⟨rfl, e118, (by decide : 3 + 0 ≤ _), (by decide : 18 + 0 ≤ _)⟩)
  dsimp only [Pt.U, Pt.locs, Pt.cells, Pt.slots] at X119 l119 y119 z119 st119 hQ119
  subst l119 y119 z119
  obtain ⟨hv119, rfl, hh119⟩ := hQ119
  obtain rfl := (hv119.resolve_left (fun q => ((fun z => g3_ z.symm) : ¬ ([(62 : Int32)] : List Int32) = cs) q.2)).1
  have N119q : Fr n0 ([] : List Loc) := Fr.nil n0
  have e119 : T119.heap = h107 := hh119
  have N119 := Fr.app N117 N119q
  obtain ⟨cl_bv107_150, Ar_bv107_150, q_bv107_150, S_bv107_150, N_bv107_150, H_bv107_150, G_bv107_150⟩ := id (Av107)
  have hinbv107_150 : ¬ ((4 : Int32) < 0 ∨ cl_bv107_150.slots.size ≤ ((4 : Int32)).toNatClampNeg) := inb_of S_bv107_150 ⟨by decide, by decide⟩
  have hatbv107_150 : cl_bv107_150.slots[((4 : Int32)).toNatClampNeg]? = some (.ref w4) := H_bv107_150.at hinbv107_150 rfl
  obtain ⟨T120, X120, e120, st120⟩ := getF X119 hx hZ101 hown101 (host := "") (Or.inl (wi hw 63 rfl)) Via.refl e119 (M4.ext O107.2) (g := (mkF m 40 #[.val (.ref a1), .val (.ref a1), .val (.ref bv107), .val (.int (6 : Int32)), .val (.int (4 : Int32)), .val (.ref w4)] [(.ref w4)])) rfl rfl (hb hby d5_40)
  obtain ⟨cq121, kq121, q121a, q121b, q121c⟩ := isOf hZ101 e120 (sEm4.ext O107.2)
  obtain ⟨_, _, ⟨T121, L121, k121, n121⟩, -, X121, ⟨Lc121, hQ121, l121, y121, z121⟩, st121⟩ := X120.virtualBack hx (y := (⟨"java/lang/String", "equals", "(Ljava/lang/Object;)Z"⟩ : MethodName)) (z := (⟨"java/lang/String", "equals", "(Ljava/lang/Object;)Z"⟩ : MethodName)) hown101 (mvT hZ101 (wi hw 31 rfl)) (mvT hZ101 (wi hw 32 rfl)) (notFace_of_selects (args := #[]) (mvT hZ101 (wi hw 34 rfl))) (mvT hZ101 (wi hw 34 rfl)) (mvT hZ101 (wi hw 33 rfl)) (by decide) (StrChars.Road.eqW (W := 0) hZ101 (fun d hd => hw d (own_w_eqW d hd)) (kI := 4) (wi hw 6 rfl) (sEm4.ext O107.2) (sVm4.ext O107.2) (sCm4.ext O107.2) (sKm4.ext O107.2) scdm4 (own_up _ shpm4) shlm4 fE_a1_2_109 fString_value_2_110 fString_coder_2_111 fV_ta_2_112 scda (own_up _ shpa) shla (S_CS.ext O107.2) hG1 (by decide) (by decide)) q121a q121c (g := (mkF m 44 #[.val (.ref a1), .val (.ref a1), .val (.ref bv107), .val (.int (6 : Int32)), .val (.int (4 : Int32)), .val (.ref w4)] [(.ref a1), (.ref s4)])) rfl (by rw [hml]; rfl) (Steps.refl _) (argsL := [(.ref a1)]) (rest := []) (lenOf pd_0 rfl) rfl (by show 2 * 0 + _ ≤ _; exact Nat.le_of_eq rfl) (hb hby d5_44) (fun _ _ => ⟨rfl, e120, (by decide : 3 + 0 ≤ _), (by decide : 18 + 0 ≤ _)⟩)
  dsimp only [Pt.U, Pt.locs, Pt.cells, Pt.slots] at X121 l121 y121 z121 st121 hQ121
  subst l121 y121 z121
  obtain ⟨hv121, rfl, hh121⟩ := hQ121
  obtain rfl := (hv121.resolve_left (fun q => ((fun z => g4_ z.symm) : ¬ ([(60 : Int32), (61 : Int32)] : List Int32) = cs) q.2)).1
  have N121q : Fr n0 ([] : List Loc) := Fr.nil n0
  have e121 : T121.heap = h107 := hh121
  have N121 := Fr.app N119 N121q
  obtain ⟨cl_bv107_178, Ar_bv107_178, q_bv107_178, S_bv107_178, N_bv107_178, H_bv107_178, G_bv107_178⟩ := id (Av107)
  have hinbv107_178 : ¬ ((5 : Int32) < 0 ∨ cl_bv107_178.slots.size ≤ ((5 : Int32)).toNatClampNeg) := inb_of S_bv107_178 ⟨by decide, by decide⟩
  have hatbv107_178 : cl_bv107_178.slots[((5 : Int32)).toNatClampNeg]? = some (.ref w5) := H_bv107_178.at hinbv107_178 rfl
  obtain ⟨T122, X122, e122, st122⟩ := getF X121 hx hZ101 hown101 (host := "") (Or.inl (wi hw 63 rfl)) Via.refl e121 (M5.ext O107.2) (g := (mkF m 40 #[.val (.ref a1), .val (.ref a1), .val (.ref bv107), .val (.int (6 : Int32)), .val (.int (5 : Int32)), .val (.ref w5)] [(.ref w5)])) rfl rfl (hb hby d5_40)
  obtain ⟨cq123, kq123, q123a, q123b, q123c⟩ := isOf hZ101 e122 (sEm5.ext O107.2)
  obtain ⟨_, _, ⟨T123, L123, k123, n123⟩, -, X123, ⟨Lc123, hQ123, l123, y123, z123⟩, st123⟩ := X122.virtualBack hx (y := (⟨"java/lang/String", "equals", "(Ljava/lang/Object;)Z"⟩ : MethodName)) (z := (⟨"java/lang/String", "equals", "(Ljava/lang/Object;)Z"⟩ : MethodName)) hown101 (mvT hZ101 (wi hw 31 rfl)) (mvT hZ101 (wi hw 32 rfl)) (notFace_of_selects (args := #[]) (mvT hZ101 (wi hw 34 rfl))) (mvT hZ101 (wi hw 34 rfl)) (mvT hZ101 (wi hw 33 rfl)) (by decide) (StrChars.Road.eqW (W := 0) hZ101 (fun d hd => hw d (own_w_eqW d hd)) (kI := 4) (wi hw 6 rfl) (sEm5.ext O107.2) (sVm5.ext O107.2) (sCm5.ext O107.2) (sKm5.ext O107.2) scdm5 (own_up _ shpm5) shlm5 fE_a1_2_109 fString_value_2_110 fString_coder_2_111 fV_ta_2_112 scda (own_up _ shpa) shla (S_CS.ext O107.2) hG1 (by decide) (by decide)) q123a q123c (g := (mkF m 44 #[.val (.ref a1), .val (.ref a1), .val (.ref bv107), .val (.int (6 : Int32)), .val (.int (5 : Int32)), .val (.ref w5)] [(.ref a1), (.ref s5)])) rfl (by rw [hml]; rfl) (Steps.refl _) (argsL := [(.ref a1)]) (rest := []) (lenOf pd_0 rfl) rfl (by show 2 * 0 + _ ≤ _; exact Nat.le_of_eq rfl) (hb hby d5_44) (fun _ _ => ⟨rfl, e122, (by decide : 3 + 0 ≤ _), (by decide : 18 + 0 ≤ _)⟩)
  dsimp only [Pt.U, Pt.locs, Pt.cells, Pt.slots] at X123 l123 y123 z123 st123 hQ123
  subst l123 y123 z123
  obtain ⟨hv123, rfl, hh123⟩ := hQ123
  obtain rfl := (hv123.resolve_right (fun q => q.2 (g5_.symm : ([(62 : Int32), (61 : Int32)] : List Int32) = cs))).1
  have N123q : Fr n0 ([] : List Loc) := Fr.nil n0
  have e123 : T123.heap = h107 := hh123
  have N123 := Fr.app N121 N123q
  obtain ⟨fs, hr, hrun, hended, hREW⟩ := X123.leaveW hS101 (by rw [e123]; exact (Nat.le_trans hk101 K107.1)) (v := some (.ref w5)) (fun h => by rw [Bd.returns] at h; cases h)
  refine ⟨_, _, pre0 _ ?_, hrun, hended, _, _, rfl, ?_, (by rw [hh]; show CHr Z consts_1 s.vm h0 T123.vm T123.heap; rw [e123]; exact CR107.trans (CHv.at X123 hZ101 (own_EW hw) CR107.1)), hREW.1, hREW.2.1, hREW.2.2.1, hREW.2.2.2.mono (by decide) (by decide)⟩
  · show Steps p.tables e below (s₁.setTop (mkF m 0 #[.val (.ref a1), .unset, .unset, .unset, .unset, .unset] [])) _
    refine XS.aloadN X0.here hx rfl (hb hby d5_0) rfl rfl ?_
    show Steps p.tables e below (s₁.setTop (mkF m 1 #[.val (.ref a1), .unset, .unset, .unset, .unset, .unset] [(.ref a1)])) _
    refine st101 _ ?_
    show Steps p.tables e below (T101.setTop (mkF m 3 #[.val (.ref a1), .unset, .unset, .unset, .unset, .unset] [(.ref a101), (.ref a1)])) _
    refine st106.trans ?_
    show Steps p.tables e below (T106.setTop (mkF m 6 #[.val (.ref a1), .unset, .unset, .unset, .unset, .unset] [(.int (0 : Int32))])) _
    refine XS.ifYes X106.here hx rfl (pc0 := 6) (pc' := 14) rfl (hb hby d5_6) rfl ((if0 _ _).trans (teq (by decide : (0 : Int32) = (0 : Int32))).1) (by decide) (by decide) ?_
    show Steps p.tables e below (T106.setTop (mkF m 14 #[.val (.ref a1), .unset, .unset, .unset, .unset, .unset] [])) _
    refine XS.aloadN X106.here hx rfl (hb hby d5_14) rfl rfl ?_
    show Steps p.tables e below (T106.setTop (mkF m 15 #[.val (.ref a1), .unset, .unset, .unset, .unset, .unset] [(.ref a1)])) _
    refine XS.astoreN X106.here hx rfl (hb hby d5_15) rfl rfl (l' := #[.val (.ref a1), .val (.ref a1), .unset, .unset, .unset, .unset]) rfl ?_
    show Steps p.tables e below (T106.setTop (mkF m 16 #[.val (.ref a1), .val (.ref a1), .unset, .unset, .unset, .unset] [])) _
    refine st107 _ ?_
    show Steps p.tables e below (T107.setTop (mkF m 19 #[.val (.ref a1), .val (.ref a1), .unset, .unset, .unset, .unset] [(.ref bv107)])) _
    refine XS.astoreN X107.here hx rfl (hb hby d5_19) rfl rfl (l' := #[.val (.ref a1), .val (.ref a1), .val (.ref bv107), .unset, .unset, .unset]) rfl ?_
    show Steps p.tables e below (T107.setTop (mkF m 20 #[.val (.ref a1), .val (.ref a1), .val (.ref bv107), .unset, .unset, .unset] [])) _
    refine XS.aloadN X107.here hx rfl (hb hby d5_20) rfl rfl ?_
    show Steps p.tables e below (T107.setTop (mkF m 21 #[.val (.ref a1), .val (.ref a1), .val (.ref bv107), .unset, .unset, .unset] [(.ref bv107)])) _
    refine X107.arraylength hx (by rw [e107]; exact Ar_bv107_19.1) (State.isArrayOf_alike hZ101.alike Ar_bv107_19.2.1) (g := (mkF m 21 #[.val (.ref a1), .val (.ref a1), .val (.ref bv107), .unset, .unset, .unset] [(.ref bv107)])) rfl rfl (hb hby d5_21) _ ?_
    rw [len_of S_bv107_19 N_bv107_19]
    show Steps p.tables e below (T107.setTop (mkF m 22 #[.val (.ref a1), .val (.ref a1), .val (.ref bv107), .unset, .unset, .unset] [(.int (6 : Int32))])) _
    refine XS.istoreN X107.here hx rfl (hb hby d5_22) rfl (l' := #[.val (.ref a1), .val (.ref a1), .val (.ref bv107), .val (.int (6 : Int32)), .unset, .unset]) rfl ?_
    show Steps p.tables e below (T107.setTop (mkF m 23 #[.val (.ref a1), .val (.ref a1), .val (.ref bv107), .val (.int (6 : Int32)), .unset, .unset] [])) _
    refine XS.iconst X107.here hx rfl (hb hby d5_23) ?_
    show Steps p.tables e below (T107.setTop (mkF m 24 #[.val (.ref a1), .val (.ref a1), .val (.ref bv107), .val (.int (6 : Int32)), .unset, .unset] [(.int (0 : Int32))])) _
    refine XS.istore X107.here hx rfl (hb hby d5_24) rfl (l' := #[.val (.ref a1), .val (.ref a1), .val (.ref bv107), .val (.int (6 : Int32)), .val (.int (0 : Int32)), .unset]) rfl ?_
    show Steps p.tables e below (T107.setTop (mkF m 26 #[.val (.ref a1), .val (.ref a1), .val (.ref bv107), .val (.int (6 : Int32)), .val (.int (0 : Int32)), .unset] [])) _
    refine XS.iload X107.here hx rfl (hb hby d5_26) rfl ?_
    show Steps p.tables e below (T107.setTop (mkF m 28 #[.val (.ref a1), .val (.ref a1), .val (.ref bv107), .val (.int (6 : Int32)), .val (.int (0 : Int32)), .unset] [(.int (0 : Int32))])) _
    refine XS.iloadN X107.here hx rfl (hb hby d5_28) rfl ?_
    show Steps p.tables e below (T107.setTop (mkF m 29 #[.val (.ref a1), .val (.ref a1), .val (.ref bv107), .val (.int (6 : Int32)), .val (.int (0 : Int32)), .unset] [(.int (6 : Int32)), (.int (0 : Int32))])) _
    refine XS.icmpNo X107.here hx rfl (hb hby d5_29) rfl (tlt (by decide : (0 : Int32) < (6 : Int32))).2.1 ?_
    show Steps p.tables e below (T107.setTop (mkF m 32 #[.val (.ref a1), .val (.ref a1), .val (.ref bv107), .val (.int (6 : Int32)), .val (.int (0 : Int32)), .unset] [])) _
    refine XS.aloadN X107.here hx rfl (hb hby d5_32) rfl rfl ?_
    show Steps p.tables e below (T107.setTop (mkF m 33 #[.val (.ref a1), .val (.ref a1), .val (.ref bv107), .val (.int (6 : Int32)), .val (.int (0 : Int32)), .unset] [(.ref bv107)])) _
    refine XS.iload X107.here hx rfl (hb hby d5_33) rfl ?_
    show Steps p.tables e below (T107.setTop (mkF m 35 #[.val (.ref a1), .val (.ref a1), .val (.ref bv107), .val (.int (6 : Int32)), .val (.int (0 : Int32)), .unset] [(.int (0 : Int32)), (.ref bv107)])) _
    refine X107.aaload hx (j := (0 : Int32)) (v := (.ref w0)) (by rw [e107]; exact Ar_bv107_38.1) (State.isArrayOf_alike hZ101.alike Ar_bv107_38.2.1) rfl Ar_bv107_38.2.2 hinbv107_38 hatbv107_38 (g := (mkF m 35 #[.val (.ref a1), .val (.ref a1), .val (.ref bv107), .val (.int (6 : Int32)), .val (.int (0 : Int32)), .unset] [(.int (0 : Int32)), (.ref bv107)])) rfl rfl (hb hby d5_35) _ ?_
    show Steps p.tables e below (T107.setTop (mkF m 36 #[.val (.ref a1), .val (.ref a1), .val (.ref bv107), .val (.int (6 : Int32)), .val (.int (0 : Int32)), .unset] [(.ref w0)])) _
    refine XS.astore X107.here hx rfl (hb hby d5_36) rfl rfl (l' := #[.val (.ref a1), .val (.ref a1), .val (.ref bv107), .val (.int (6 : Int32)), .val (.int (0 : Int32)), .val (.ref w0)]) rfl ?_
    show Steps p.tables e below (T107.setTop (mkF m 38 #[.val (.ref a1), .val (.ref a1), .val (.ref bv107), .val (.int (6 : Int32)), .val (.int (0 : Int32)), .val (.ref w0)] [])) _
    refine XS.aload X107.here hx rfl (hb hby d5_38) rfl rfl ?_
    show Steps p.tables e below (T107.setTop (mkF m 40 #[.val (.ref a1), .val (.ref a1), .val (.ref bv107), .val (.int (6 : Int32)), .val (.int (0 : Int32)), .val (.ref w0)] [(.ref w0)])) _
    refine st108 _ ?_
    show Steps p.tables e below (T108.setTop (mkF m 43 #[.val (.ref a1), .val (.ref a1), .val (.ref bv107), .val (.int (6 : Int32)), .val (.int (0 : Int32)), .val (.ref w0)] [(.ref s0)])) _
    refine XS.aloadN X108.here hx rfl (hb hby d5_43) rfl rfl ?_
    show Steps p.tables e below (T108.setTop (mkF m 44 #[.val (.ref a1), .val (.ref a1), .val (.ref bv107), .val (.int (6 : Int32)), .val (.int (0 : Int32)), .val (.ref w0)] [(.ref a1), (.ref s0)])) _
    refine st113.trans ?_
    show Steps p.tables e below (T113.setTop (mkF m 47 #[.val (.ref a1), .val (.ref a1), .val (.ref bv107), .val (.int (6 : Int32)), .val (.int (0 : Int32)), .val (.ref w0)] [(.int (0 : Int32))])) _
    refine XS.ifYes X113.here hx rfl (pc0 := 47) (pc' := 53) rfl (hb hby d5_47) rfl ((if0 _ _).trans (teq (by decide : (0 : Int32) = (0 : Int32))).1) (by decide) (by decide) ?_
    show Steps p.tables e below (T113.setTop (mkF m 53 #[.val (.ref a1), .val (.ref a1), .val (.ref bv107), .val (.int (6 : Int32)), .val (.int (0 : Int32)), .val (.ref w0)] [])) _
    refine XS.iinc X113.here hx rfl (hb hby d5_53) rfl (l' := #[.val (.ref a1), .val (.ref a1), .val (.ref bv107), .val (.int (6 : Int32)), .val (.int (1 : Int32)), .val (.ref w0)]) rfl ?_
    show Steps p.tables e below (T113.setTop (mkF m 56 #[.val (.ref a1), .val (.ref a1), .val (.ref bv107), .val (.int (6 : Int32)), .val (.int (1 : Int32)), .val (.ref w0)] [])) _
    refine XS.goto X113.here hx rfl (pc0 := 56) (pc' := 26) rfl (hb hby d5_56) (by decide) (by decide) ?_
    show Steps p.tables e below (T113.setTop (mkF m 26 #[.val (.ref a1), .val (.ref a1), .val (.ref bv107), .val (.int (6 : Int32)), .val (.int (1 : Int32)), .val (.ref w0)] [])) _
    refine XS.iload X113.here hx rfl (hb hby d5_26) rfl ?_
    show Steps p.tables e below (T113.setTop (mkF m 28 #[.val (.ref a1), .val (.ref a1), .val (.ref bv107), .val (.int (6 : Int32)), .val (.int (1 : Int32)), .val (.ref w0)] [(.int (1 : Int32))])) _
    refine XS.iloadN X113.here hx rfl (hb hby d5_28) rfl ?_
    show Steps p.tables e below (T113.setTop (mkF m 29 #[.val (.ref a1), .val (.ref a1), .val (.ref bv107), .val (.int (6 : Int32)), .val (.int (1 : Int32)), .val (.ref w0)] [(.int (6 : Int32)), (.int (1 : Int32))])) _
    refine XS.icmpNo X113.here hx rfl (hb hby d5_29) rfl (tlt (by decide : (1 : Int32) < (6 : Int32))).2.1 ?_
    show Steps p.tables e below (T113.setTop (mkF m 32 #[.val (.ref a1), .val (.ref a1), .val (.ref bv107), .val (.int (6 : Int32)), .val (.int (1 : Int32)), .val (.ref w0)] [])) _
    refine XS.aloadN X113.here hx rfl (hb hby d5_32) rfl rfl ?_
    show Steps p.tables e below (T113.setTop (mkF m 33 #[.val (.ref a1), .val (.ref a1), .val (.ref bv107), .val (.int (6 : Int32)), .val (.int (1 : Int32)), .val (.ref w0)] [(.ref bv107)])) _
    refine XS.iload X113.here hx rfl (hb hby d5_33) rfl ?_
    show Steps p.tables e below (T113.setTop (mkF m 35 #[.val (.ref a1), .val (.ref a1), .val (.ref bv107), .val (.int (6 : Int32)), .val (.int (1 : Int32)), .val (.ref w0)] [(.int (1 : Int32)), (.ref bv107)])) _
    refine X113.aaload hx (j := (1 : Int32)) (v := (.ref w1)) (by rw [e113]; exact Ar_bv107_66.1) (State.isArrayOf_alike hZ101.alike Ar_bv107_66.2.1) rfl Ar_bv107_66.2.2 hinbv107_66 hatbv107_66 (g := (mkF m 35 #[.val (.ref a1), .val (.ref a1), .val (.ref bv107), .val (.int (6 : Int32)), .val (.int (1 : Int32)), .val (.ref w0)] [(.int (1 : Int32)), (.ref bv107)])) rfl rfl (hb hby d5_35) _ ?_
    show Steps p.tables e below (T113.setTop (mkF m 36 #[.val (.ref a1), .val (.ref a1), .val (.ref bv107), .val (.int (6 : Int32)), .val (.int (1 : Int32)), .val (.ref w0)] [(.ref w1)])) _
    refine XS.astore X113.here hx rfl (hb hby d5_36) rfl rfl (l' := #[.val (.ref a1), .val (.ref a1), .val (.ref bv107), .val (.int (6 : Int32)), .val (.int (1 : Int32)), .val (.ref w1)]) rfl ?_
    show Steps p.tables e below (T113.setTop (mkF m 38 #[.val (.ref a1), .val (.ref a1), .val (.ref bv107), .val (.int (6 : Int32)), .val (.int (1 : Int32)), .val (.ref w1)] [])) _
    refine XS.aload X113.here hx rfl (hb hby d5_38) rfl rfl ?_
    show Steps p.tables e below (T113.setTop (mkF m 40 #[.val (.ref a1), .val (.ref a1), .val (.ref bv107), .val (.int (6 : Int32)), .val (.int (1 : Int32)), .val (.ref w1)] [(.ref w1)])) _
    refine st114 _ ?_
    show Steps p.tables e below (T114.setTop (mkF m 43 #[.val (.ref a1), .val (.ref a1), .val (.ref bv107), .val (.int (6 : Int32)), .val (.int (1 : Int32)), .val (.ref w1)] [(.ref s1)])) _
    refine XS.aloadN X114.here hx rfl (hb hby d5_43) rfl rfl ?_
    show Steps p.tables e below (T114.setTop (mkF m 44 #[.val (.ref a1), .val (.ref a1), .val (.ref bv107), .val (.int (6 : Int32)), .val (.int (1 : Int32)), .val (.ref w1)] [(.ref a1), (.ref s1)])) _
    refine st115.trans ?_
    show Steps p.tables e below (T115.setTop (mkF m 47 #[.val (.ref a1), .val (.ref a1), .val (.ref bv107), .val (.int (6 : Int32)), .val (.int (1 : Int32)), .val (.ref w1)] [(.int (0 : Int32))])) _
    refine XS.ifYes X115.here hx rfl (pc0 := 47) (pc' := 53) rfl (hb hby d5_47) rfl ((if0 _ _).trans (teq (by decide : (0 : Int32) = (0 : Int32))).1) (by decide) (by decide) ?_
    show Steps p.tables e below (T115.setTop (mkF m 53 #[.val (.ref a1), .val (.ref a1), .val (.ref bv107), .val (.int (6 : Int32)), .val (.int (1 : Int32)), .val (.ref w1)] [])) _
    refine XS.iinc X115.here hx rfl (hb hby d5_53) rfl (l' := #[.val (.ref a1), .val (.ref a1), .val (.ref bv107), .val (.int (6 : Int32)), .val (.int (2 : Int32)), .val (.ref w1)]) rfl ?_
    show Steps p.tables e below (T115.setTop (mkF m 56 #[.val (.ref a1), .val (.ref a1), .val (.ref bv107), .val (.int (6 : Int32)), .val (.int (2 : Int32)), .val (.ref w1)] [])) _
    refine XS.goto X115.here hx rfl (pc0 := 56) (pc' := 26) rfl (hb hby d5_56) (by decide) (by decide) ?_
    show Steps p.tables e below (T115.setTop (mkF m 26 #[.val (.ref a1), .val (.ref a1), .val (.ref bv107), .val (.int (6 : Int32)), .val (.int (2 : Int32)), .val (.ref w1)] [])) _
    refine XS.iload X115.here hx rfl (hb hby d5_26) rfl ?_
    show Steps p.tables e below (T115.setTop (mkF m 28 #[.val (.ref a1), .val (.ref a1), .val (.ref bv107), .val (.int (6 : Int32)), .val (.int (2 : Int32)), .val (.ref w1)] [(.int (2 : Int32))])) _
    refine XS.iloadN X115.here hx rfl (hb hby d5_28) rfl ?_
    show Steps p.tables e below (T115.setTop (mkF m 29 #[.val (.ref a1), .val (.ref a1), .val (.ref bv107), .val (.int (6 : Int32)), .val (.int (2 : Int32)), .val (.ref w1)] [(.int (6 : Int32)), (.int (2 : Int32))])) _
    refine XS.icmpNo X115.here hx rfl (hb hby d5_29) rfl (tlt (by decide : (2 : Int32) < (6 : Int32))).2.1 ?_
    show Steps p.tables e below (T115.setTop (mkF m 32 #[.val (.ref a1), .val (.ref a1), .val (.ref bv107), .val (.int (6 : Int32)), .val (.int (2 : Int32)), .val (.ref w1)] [])) _
    refine XS.aloadN X115.here hx rfl (hb hby d5_32) rfl rfl ?_
    show Steps p.tables e below (T115.setTop (mkF m 33 #[.val (.ref a1), .val (.ref a1), .val (.ref bv107), .val (.int (6 : Int32)), .val (.int (2 : Int32)), .val (.ref w1)] [(.ref bv107)])) _
    refine XS.iload X115.here hx rfl (hb hby d5_33) rfl ?_
    show Steps p.tables e below (T115.setTop (mkF m 35 #[.val (.ref a1), .val (.ref a1), .val (.ref bv107), .val (.int (6 : Int32)), .val (.int (2 : Int32)), .val (.ref w1)] [(.int (2 : Int32)), (.ref bv107)])) _
    refine X115.aaload hx (j := (2 : Int32)) (v := (.ref w2)) (by rw [e115]; exact Ar_bv107_94.1) (State.isArrayOf_alike hZ101.alike Ar_bv107_94.2.1) rfl Ar_bv107_94.2.2 hinbv107_94 hatbv107_94 (g := (mkF m 35 #[.val (.ref a1), .val (.ref a1), .val (.ref bv107), .val (.int (6 : Int32)), .val (.int (2 : Int32)), .val (.ref w1)] [(.int (2 : Int32)), (.ref bv107)])) rfl rfl (hb hby d5_35) _ ?_
    show Steps p.tables e below (T115.setTop (mkF m 36 #[.val (.ref a1), .val (.ref a1), .val (.ref bv107), .val (.int (6 : Int32)), .val (.int (2 : Int32)), .val (.ref w1)] [(.ref w2)])) _
    refine XS.astore X115.here hx rfl (hb hby d5_36) rfl rfl (l' := #[.val (.ref a1), .val (.ref a1), .val (.ref bv107), .val (.int (6 : Int32)), .val (.int (2 : Int32)), .val (.ref w2)]) rfl ?_
    show Steps p.tables e below (T115.setTop (mkF m 38 #[.val (.ref a1), .val (.ref a1), .val (.ref bv107), .val (.int (6 : Int32)), .val (.int (2 : Int32)), .val (.ref w2)] [])) _
    refine XS.aload X115.here hx rfl (hb hby d5_38) rfl rfl ?_
    show Steps p.tables e below (T115.setTop (mkF m 40 #[.val (.ref a1), .val (.ref a1), .val (.ref bv107), .val (.int (6 : Int32)), .val (.int (2 : Int32)), .val (.ref w2)] [(.ref w2)])) _
    refine st116 _ ?_
    show Steps p.tables e below (T116.setTop (mkF m 43 #[.val (.ref a1), .val (.ref a1), .val (.ref bv107), .val (.int (6 : Int32)), .val (.int (2 : Int32)), .val (.ref w2)] [(.ref s2)])) _
    refine XS.aloadN X116.here hx rfl (hb hby d5_43) rfl rfl ?_
    show Steps p.tables e below (T116.setTop (mkF m 44 #[.val (.ref a1), .val (.ref a1), .val (.ref bv107), .val (.int (6 : Int32)), .val (.int (2 : Int32)), .val (.ref w2)] [(.ref a1), (.ref s2)])) _
    refine st117.trans ?_
    show Steps p.tables e below (T117.setTop (mkF m 47 #[.val (.ref a1), .val (.ref a1), .val (.ref bv107), .val (.int (6 : Int32)), .val (.int (2 : Int32)), .val (.ref w2)] [(.int (0 : Int32))])) _
    refine XS.ifYes X117.here hx rfl (pc0 := 47) (pc' := 53) rfl (hb hby d5_47) rfl ((if0 _ _).trans (teq (by decide : (0 : Int32) = (0 : Int32))).1) (by decide) (by decide) ?_
    show Steps p.tables e below (T117.setTop (mkF m 53 #[.val (.ref a1), .val (.ref a1), .val (.ref bv107), .val (.int (6 : Int32)), .val (.int (2 : Int32)), .val (.ref w2)] [])) _
    refine XS.iinc X117.here hx rfl (hb hby d5_53) rfl (l' := #[.val (.ref a1), .val (.ref a1), .val (.ref bv107), .val (.int (6 : Int32)), .val (.int (3 : Int32)), .val (.ref w2)]) rfl ?_
    show Steps p.tables e below (T117.setTop (mkF m 56 #[.val (.ref a1), .val (.ref a1), .val (.ref bv107), .val (.int (6 : Int32)), .val (.int (3 : Int32)), .val (.ref w2)] [])) _
    refine XS.goto X117.here hx rfl (pc0 := 56) (pc' := 26) rfl (hb hby d5_56) (by decide) (by decide) ?_
    show Steps p.tables e below (T117.setTop (mkF m 26 #[.val (.ref a1), .val (.ref a1), .val (.ref bv107), .val (.int (6 : Int32)), .val (.int (3 : Int32)), .val (.ref w2)] [])) _
    refine XS.iload X117.here hx rfl (hb hby d5_26) rfl ?_
    show Steps p.tables e below (T117.setTop (mkF m 28 #[.val (.ref a1), .val (.ref a1), .val (.ref bv107), .val (.int (6 : Int32)), .val (.int (3 : Int32)), .val (.ref w2)] [(.int (3 : Int32))])) _
    refine XS.iloadN X117.here hx rfl (hb hby d5_28) rfl ?_
    show Steps p.tables e below (T117.setTop (mkF m 29 #[.val (.ref a1), .val (.ref a1), .val (.ref bv107), .val (.int (6 : Int32)), .val (.int (3 : Int32)), .val (.ref w2)] [(.int (6 : Int32)), (.int (3 : Int32))])) _
    refine XS.icmpNo X117.here hx rfl (hb hby d5_29) rfl (tlt (by decide : (3 : Int32) < (6 : Int32))).2.1 ?_
    show Steps p.tables e below (T117.setTop (mkF m 32 #[.val (.ref a1), .val (.ref a1), .val (.ref bv107), .val (.int (6 : Int32)), .val (.int (3 : Int32)), .val (.ref w2)] [])) _
    refine XS.aloadN X117.here hx rfl (hb hby d5_32) rfl rfl ?_
    show Steps p.tables e below (T117.setTop (mkF m 33 #[.val (.ref a1), .val (.ref a1), .val (.ref bv107), .val (.int (6 : Int32)), .val (.int (3 : Int32)), .val (.ref w2)] [(.ref bv107)])) _
    refine XS.iload X117.here hx rfl (hb hby d5_33) rfl ?_
    show Steps p.tables e below (T117.setTop (mkF m 35 #[.val (.ref a1), .val (.ref a1), .val (.ref bv107), .val (.int (6 : Int32)), .val (.int (3 : Int32)), .val (.ref w2)] [(.int (3 : Int32)), (.ref bv107)])) _
    refine X117.aaload hx (j := (3 : Int32)) (v := (.ref w3)) (by rw [e117]; exact Ar_bv107_122.1) (State.isArrayOf_alike hZ101.alike Ar_bv107_122.2.1) rfl Ar_bv107_122.2.2 hinbv107_122 hatbv107_122 (g := (mkF m 35 #[.val (.ref a1), .val (.ref a1), .val (.ref bv107), .val (.int (6 : Int32)), .val (.int (3 : Int32)), .val (.ref w2)] [(.int (3 : Int32)), (.ref bv107)])) rfl rfl (hb hby d5_35) _ ?_
    show Steps p.tables e below (T117.setTop (mkF m 36 #[.val (.ref a1), .val (.ref a1), .val (.ref bv107), .val (.int (6 : Int32)), .val (.int (3 : Int32)), .val (.ref w2)] [(.ref w3)])) _
    refine XS.astore X117.here hx rfl (hb hby d5_36) rfl rfl (l' := #[.val (.ref a1), .val (.ref a1), .val (.ref bv107), .val (.int (6 : Int32)), .val (.int (3 : Int32)), .val (.ref w3)]) rfl ?_
    show Steps p.tables e below (T117.setTop (mkF m 38 #[.val (.ref a1), .val (.ref a1), .val (.ref bv107), .val (.int (6 : Int32)), .val (.int (3 : Int32)), .val (.ref w3)] [])) _
    refine XS.aload X117.here hx rfl (hb hby d5_38) rfl rfl ?_
    show Steps p.tables e below (T117.setTop (mkF m 40 #[.val (.ref a1), .val (.ref a1), .val (.ref bv107), .val (.int (6 : Int32)), .val (.int (3 : Int32)), .val (.ref w3)] [(.ref w3)])) _
    refine st118 _ ?_
    show Steps p.tables e below (T118.setTop (mkF m 43 #[.val (.ref a1), .val (.ref a1), .val (.ref bv107), .val (.int (6 : Int32)), .val (.int (3 : Int32)), .val (.ref w3)] [(.ref s3)])) _
    refine XS.aloadN X118.here hx rfl (hb hby d5_43) rfl rfl ?_
    show Steps p.tables e below (T118.setTop (mkF m 44 #[.val (.ref a1), .val (.ref a1), .val (.ref bv107), .val (.int (6 : Int32)), .val (.int (3 : Int32)), .val (.ref w3)] [(.ref a1), (.ref s3)])) _
    refine st119.trans ?_
    show Steps p.tables e below (T119.setTop (mkF m 47 #[.val (.ref a1), .val (.ref a1), .val (.ref bv107), .val (.int (6 : Int32)), .val (.int (3 : Int32)), .val (.ref w3)] [(.int (0 : Int32))])) _
    refine XS.ifYes X119.here hx rfl (pc0 := 47) (pc' := 53) rfl (hb hby d5_47) rfl ((if0 _ _).trans (teq (by decide : (0 : Int32) = (0 : Int32))).1) (by decide) (by decide) ?_
    show Steps p.tables e below (T119.setTop (mkF m 53 #[.val (.ref a1), .val (.ref a1), .val (.ref bv107), .val (.int (6 : Int32)), .val (.int (3 : Int32)), .val (.ref w3)] [])) _
    refine XS.iinc X119.here hx rfl (hb hby d5_53) rfl (l' := #[.val (.ref a1), .val (.ref a1), .val (.ref bv107), .val (.int (6 : Int32)), .val (.int (4 : Int32)), .val (.ref w3)]) rfl ?_
    show Steps p.tables e below (T119.setTop (mkF m 56 #[.val (.ref a1), .val (.ref a1), .val (.ref bv107), .val (.int (6 : Int32)), .val (.int (4 : Int32)), .val (.ref w3)] [])) _
    refine XS.goto X119.here hx rfl (pc0 := 56) (pc' := 26) rfl (hb hby d5_56) (by decide) (by decide) ?_
    show Steps p.tables e below (T119.setTop (mkF m 26 #[.val (.ref a1), .val (.ref a1), .val (.ref bv107), .val (.int (6 : Int32)), .val (.int (4 : Int32)), .val (.ref w3)] [])) _
    refine XS.iload X119.here hx rfl (hb hby d5_26) rfl ?_
    show Steps p.tables e below (T119.setTop (mkF m 28 #[.val (.ref a1), .val (.ref a1), .val (.ref bv107), .val (.int (6 : Int32)), .val (.int (4 : Int32)), .val (.ref w3)] [(.int (4 : Int32))])) _
    refine XS.iloadN X119.here hx rfl (hb hby d5_28) rfl ?_
    show Steps p.tables e below (T119.setTop (mkF m 29 #[.val (.ref a1), .val (.ref a1), .val (.ref bv107), .val (.int (6 : Int32)), .val (.int (4 : Int32)), .val (.ref w3)] [(.int (6 : Int32)), (.int (4 : Int32))])) _
    refine XS.icmpNo X119.here hx rfl (hb hby d5_29) rfl (tlt (by decide : (4 : Int32) < (6 : Int32))).2.1 ?_
    show Steps p.tables e below (T119.setTop (mkF m 32 #[.val (.ref a1), .val (.ref a1), .val (.ref bv107), .val (.int (6 : Int32)), .val (.int (4 : Int32)), .val (.ref w3)] [])) _
    refine XS.aloadN X119.here hx rfl (hb hby d5_32) rfl rfl ?_
    show Steps p.tables e below (T119.setTop (mkF m 33 #[.val (.ref a1), .val (.ref a1), .val (.ref bv107), .val (.int (6 : Int32)), .val (.int (4 : Int32)), .val (.ref w3)] [(.ref bv107)])) _
    refine XS.iload X119.here hx rfl (hb hby d5_33) rfl ?_
    show Steps p.tables e below (T119.setTop (mkF m 35 #[.val (.ref a1), .val (.ref a1), .val (.ref bv107), .val (.int (6 : Int32)), .val (.int (4 : Int32)), .val (.ref w3)] [(.int (4 : Int32)), (.ref bv107)])) _
    refine X119.aaload hx (j := (4 : Int32)) (v := (.ref w4)) (by rw [e119]; exact Ar_bv107_150.1) (State.isArrayOf_alike hZ101.alike Ar_bv107_150.2.1) rfl Ar_bv107_150.2.2 hinbv107_150 hatbv107_150 (g := (mkF m 35 #[.val (.ref a1), .val (.ref a1), .val (.ref bv107), .val (.int (6 : Int32)), .val (.int (4 : Int32)), .val (.ref w3)] [(.int (4 : Int32)), (.ref bv107)])) rfl rfl (hb hby d5_35) _ ?_
    show Steps p.tables e below (T119.setTop (mkF m 36 #[.val (.ref a1), .val (.ref a1), .val (.ref bv107), .val (.int (6 : Int32)), .val (.int (4 : Int32)), .val (.ref w3)] [(.ref w4)])) _
    refine XS.astore X119.here hx rfl (hb hby d5_36) rfl rfl (l' := #[.val (.ref a1), .val (.ref a1), .val (.ref bv107), .val (.int (6 : Int32)), .val (.int (4 : Int32)), .val (.ref w4)]) rfl ?_
    show Steps p.tables e below (T119.setTop (mkF m 38 #[.val (.ref a1), .val (.ref a1), .val (.ref bv107), .val (.int (6 : Int32)), .val (.int (4 : Int32)), .val (.ref w4)] [])) _
    refine XS.aload X119.here hx rfl (hb hby d5_38) rfl rfl ?_
    show Steps p.tables e below (T119.setTop (mkF m 40 #[.val (.ref a1), .val (.ref a1), .val (.ref bv107), .val (.int (6 : Int32)), .val (.int (4 : Int32)), .val (.ref w4)] [(.ref w4)])) _
    refine st120 _ ?_
    show Steps p.tables e below (T120.setTop (mkF m 43 #[.val (.ref a1), .val (.ref a1), .val (.ref bv107), .val (.int (6 : Int32)), .val (.int (4 : Int32)), .val (.ref w4)] [(.ref s4)])) _
    refine XS.aloadN X120.here hx rfl (hb hby d5_43) rfl rfl ?_
    show Steps p.tables e below (T120.setTop (mkF m 44 #[.val (.ref a1), .val (.ref a1), .val (.ref bv107), .val (.int (6 : Int32)), .val (.int (4 : Int32)), .val (.ref w4)] [(.ref a1), (.ref s4)])) _
    refine st121.trans ?_
    show Steps p.tables e below (T121.setTop (mkF m 47 #[.val (.ref a1), .val (.ref a1), .val (.ref bv107), .val (.int (6 : Int32)), .val (.int (4 : Int32)), .val (.ref w4)] [(.int (0 : Int32))])) _
    refine XS.ifYes X121.here hx rfl (pc0 := 47) (pc' := 53) rfl (hb hby d5_47) rfl ((if0 _ _).trans (teq (by decide : (0 : Int32) = (0 : Int32))).1) (by decide) (by decide) ?_
    show Steps p.tables e below (T121.setTop (mkF m 53 #[.val (.ref a1), .val (.ref a1), .val (.ref bv107), .val (.int (6 : Int32)), .val (.int (4 : Int32)), .val (.ref w4)] [])) _
    refine XS.iinc X121.here hx rfl (hb hby d5_53) rfl (l' := #[.val (.ref a1), .val (.ref a1), .val (.ref bv107), .val (.int (6 : Int32)), .val (.int (5 : Int32)), .val (.ref w4)]) rfl ?_
    show Steps p.tables e below (T121.setTop (mkF m 56 #[.val (.ref a1), .val (.ref a1), .val (.ref bv107), .val (.int (6 : Int32)), .val (.int (5 : Int32)), .val (.ref w4)] [])) _
    refine XS.goto X121.here hx rfl (pc0 := 56) (pc' := 26) rfl (hb hby d5_56) (by decide) (by decide) ?_
    show Steps p.tables e below (T121.setTop (mkF m 26 #[.val (.ref a1), .val (.ref a1), .val (.ref bv107), .val (.int (6 : Int32)), .val (.int (5 : Int32)), .val (.ref w4)] [])) _
    refine XS.iload X121.here hx rfl (hb hby d5_26) rfl ?_
    show Steps p.tables e below (T121.setTop (mkF m 28 #[.val (.ref a1), .val (.ref a1), .val (.ref bv107), .val (.int (6 : Int32)), .val (.int (5 : Int32)), .val (.ref w4)] [(.int (5 : Int32))])) _
    refine XS.iloadN X121.here hx rfl (hb hby d5_28) rfl ?_
    show Steps p.tables e below (T121.setTop (mkF m 29 #[.val (.ref a1), .val (.ref a1), .val (.ref bv107), .val (.int (6 : Int32)), .val (.int (5 : Int32)), .val (.ref w4)] [(.int (6 : Int32)), (.int (5 : Int32))])) _
    refine XS.icmpNo X121.here hx rfl (hb hby d5_29) rfl (tlt (by decide : (5 : Int32) < (6 : Int32))).2.1 ?_
    show Steps p.tables e below (T121.setTop (mkF m 32 #[.val (.ref a1), .val (.ref a1), .val (.ref bv107), .val (.int (6 : Int32)), .val (.int (5 : Int32)), .val (.ref w4)] [])) _
    refine XS.aloadN X121.here hx rfl (hb hby d5_32) rfl rfl ?_
    show Steps p.tables e below (T121.setTop (mkF m 33 #[.val (.ref a1), .val (.ref a1), .val (.ref bv107), .val (.int (6 : Int32)), .val (.int (5 : Int32)), .val (.ref w4)] [(.ref bv107)])) _
    refine XS.iload X121.here hx rfl (hb hby d5_33) rfl ?_
    show Steps p.tables e below (T121.setTop (mkF m 35 #[.val (.ref a1), .val (.ref a1), .val (.ref bv107), .val (.int (6 : Int32)), .val (.int (5 : Int32)), .val (.ref w4)] [(.int (5 : Int32)), (.ref bv107)])) _
    refine X121.aaload hx (j := (5 : Int32)) (v := (.ref w5)) (by rw [e121]; exact Ar_bv107_178.1) (State.isArrayOf_alike hZ101.alike Ar_bv107_178.2.1) rfl Ar_bv107_178.2.2 hinbv107_178 hatbv107_178 (g := (mkF m 35 #[.val (.ref a1), .val (.ref a1), .val (.ref bv107), .val (.int (6 : Int32)), .val (.int (5 : Int32)), .val (.ref w4)] [(.int (5 : Int32)), (.ref bv107)])) rfl rfl (hb hby d5_35) _ ?_
    show Steps p.tables e below (T121.setTop (mkF m 36 #[.val (.ref a1), .val (.ref a1), .val (.ref bv107), .val (.int (6 : Int32)), .val (.int (5 : Int32)), .val (.ref w4)] [(.ref w5)])) _
    refine XS.astore X121.here hx rfl (hb hby d5_36) rfl rfl (l' := #[.val (.ref a1), .val (.ref a1), .val (.ref bv107), .val (.int (6 : Int32)), .val (.int (5 : Int32)), .val (.ref w5)]) rfl ?_
    show Steps p.tables e below (T121.setTop (mkF m 38 #[.val (.ref a1), .val (.ref a1), .val (.ref bv107), .val (.int (6 : Int32)), .val (.int (5 : Int32)), .val (.ref w5)] [])) _
    refine XS.aload X121.here hx rfl (hb hby d5_38) rfl rfl ?_
    show Steps p.tables e below (T121.setTop (mkF m 40 #[.val (.ref a1), .val (.ref a1), .val (.ref bv107), .val (.int (6 : Int32)), .val (.int (5 : Int32)), .val (.ref w5)] [(.ref w5)])) _
    refine st122 _ ?_
    show Steps p.tables e below (T122.setTop (mkF m 43 #[.val (.ref a1), .val (.ref a1), .val (.ref bv107), .val (.int (6 : Int32)), .val (.int (5 : Int32)), .val (.ref w5)] [(.ref s5)])) _
    refine XS.aloadN X122.here hx rfl (hb hby d5_43) rfl rfl ?_
    show Steps p.tables e below (T122.setTop (mkF m 44 #[.val (.ref a1), .val (.ref a1), .val (.ref bv107), .val (.int (6 : Int32)), .val (.int (5 : Int32)), .val (.ref w5)] [(.ref a1), (.ref s5)])) _
    refine st123.trans ?_
    show Steps p.tables e below (T123.setTop (mkF m 47 #[.val (.ref a1), .val (.ref a1), .val (.ref bv107), .val (.int (6 : Int32)), .val (.int (5 : Int32)), .val (.ref w5)] [(.int (1 : Int32))])) _
    refine XS.ifNo X123.here hx rfl (hb hby d5_47) rfl ((if0 _ _).trans (feq (by decide : ¬ ((1 : Int32) = (0 : Int32)))).1) ?_
    show Steps p.tables e below (T123.setTop (mkF m 50 #[.val (.ref a1), .val (.ref a1), .val (.ref bv107), .val (.int (6 : Int32)), .val (.int (5 : Int32)), .val (.ref w5)] [])) _
    refine XS.aload X123.here hx rfl (hb hby d5_50) rfl rfl ?_
    show Steps p.tables e below (T123.setTop (mkF m 52 #[.val (.ref a1), .val (.ref a1), .val (.ref bv107), .val (.int (6 : Int32)), .val (.int (5 : Int32)), .val (.ref w5)] [(.ref w5)])) _
    jvm_step X123.here [X123.here.top, hx, (hb hby d5_52), X123.method', Bd.returns, Value.isRef, FieldType.isReference]
    first | (intro acts; rw [hr _ acts rfl rfl rfl]) | rw [hr _ _ rfl rfl rfl]
    exact Steps.refl _
  · show Q5 (.ref w5) h0 n0 _ T123.heap _
    rw [e123]
    exact ⟨rfl, N123, KK107⟩
set_option maxRecDepth 65536 in
set_option maxHeartbeats 40000000 in
theorem rm5_6 (l : Launch) (Z : State) (a0 : Array Value) (hw : ∀ d ∈ tables_1, d.before a0 Z = true) (ws : List Jvm.Cond) (G1 : Int32) (kV : ClassId) (wV w0 w1 w2 w3 w4 w5 : Addr) (s0 s1 s2 s3 s4 s5 : Addr) (a1 : Addr) (cs : List Int32) (h0 : Heap) (n0 : Nat) (O0 : Old Z n0 h0) (S_CS : Sta Z Z.heap "java/lang/String" "COMPACT_STRINGS" "Z" (.int G1)) (hG1 : ¬ (G1 = (0 : Int32))) (S_V : Sta Z Z.heap "com/example/plugroot/plugroot/sql/Comparison" "$VALUES" "[Lcom/example/plugroot/plugroot/sql/Comparison;" (.ref wV)) (A_V : Arv Z Z.heap wV kV (.object "com/example/plugroot/plugroot/sql/Comparison") (6 : Int32) [(.ref w0), (.ref w1), (.ref w2), (.ref w3), (.ref w4), (.ref w5)] .null) (E_V : Exa Z Z.heap wV "[Lcom/example/plugroot/plugroot/sql/Comparison;") (M0 : Fld Z Z.heap w0 "com/example/plugroot/plugroot/sql/Comparison" "symbol" "Ljava/lang/String;" (.ref s0)) (M1 : Fld Z Z.heap w1 "com/example/plugroot/plugroot/sql/Comparison" "symbol" "Ljava/lang/String;" (.ref s1)) (M2 : Fld Z Z.heap w2 "com/example/plugroot/plugroot/sql/Comparison" "symbol" "Ljava/lang/String;" (.ref s2)) (M3 : Fld Z Z.heap w3 "com/example/plugroot/plugroot/sql/Comparison" "symbol" "Ljava/lang/String;" (.ref s3)) (M4 : Fld Z Z.heap w4 "com/example/plugroot/plugroot/sql/Comparison" "symbol" "Ljava/lang/String;" (.ref s4)) (M5 : Fld Z Z.heap w5 "com/example/plugroot/plugroot/sql/Comparison" "symbol" "Ljava/lang/String;" (.ref s5)) (T0 : Str Z Z.heap s0 ([(61 : Int32)] : List Int32)) (T1 : Str Z Z.heap s1 ([(60 : Int32), (62 : Int32)] : List Int32)) (T2 : Str Z Z.heap s2 ([(60 : Int32)] : List Int32)) (T3 : Str Z Z.heap s3 ([(62 : Int32)] : List Int32)) (T4 : Str Z Z.heap s4 ([(60 : Int32), (61 : Int32)] : List Int32)) (T5 : Str Z Z.heap s5 ([(62 : Int32), (61 : Int32)] : List Int32)) (T : Str Z h0 a1 cs) (hbg : ¬ cs = [33, 61]) (g0_ : ¬ cs = [61]) (g1_ : ¬ cs = [60, 62]) (g2_ : ¬ cs = [60]) (g3_ : ¬ cs = [62]) (g4_ : ¬ cs = [60, 61]) (g5_ : ¬ cs = [62, 61]) :
    MetFree l (⟨"com/example/plugroot/plugroot/sql/Comparison", "of", "(Ljava/lang/String;)Lcom/example/plugroot/plugroot/sql/Comparison;"⟩ : MethodName) (head1 (Jvm.Cond.code (⟨"com/example/plugroot/plugroot/sql/Comparison", "of", "(Ljava/lang/String;)Lcom/example/plugroot/plugroot/sql/Comparison;"⟩ : MethodName) prog_73_method_4_code 6 (some (.object "com/example/plugroot/plugroot/sql/Comparison")) :: ws) ({ frames := 2, cells := 5, slots := 30, locals := 28 } : Room)) (fun a_ U => a_ = #[(.ref a1)] ∧ Z.Warmed39 U.vm ∧ U.heap = h0 ∧ CHv Z consts_1 U.vm h0) (fun _ _ _ _ _ => True) (fun _ U o U' => ∃ v L, o = .returned v ∧ Q5 .null h0 n0 v U'.heap L ∧ CHr Z consts_1 U.vm U.heap U'.vm U'.heap ∧ ReturnedEndW U o U' L ({ frames := 2, cells := 5, slots := 30, locals := 28 } : Room).cells ({ frames := 2, cells := 5, slots := 30, locals := 28 } : Room).slots) := by
  refine MetFree.of_bodySF (plainFor_of_name pn_1) hisR ?_
  intro p e s m args below meth c s₁ Bd hml0 hP hK
  obtain ⟨rfl, hZ, hh, hC⟩ := hP
  have hx := Bd.exec
  have hby := Bd.bytes
  have hml : c.maxLocals = 6 := hml0
  have hown : s.vm.findClass "com/example/plugroot/plugroot/sql/Comparison" = some m.cls := findClass_of_methodNamed Bd.named
  have hnm := (name_of_methodNamed Bd.named Bd.method).1
  have X0 : Stand p l e ({ frames := 2, cells := 5, slots := 30, locals := 28 } : Room) (s.setVm s.vm) m #[(.ref a1)] below meth c s₁ [] 0 0 := Stand.of_body Bd
  have e0 : s₁.heap = h0 := by rw [← hh, Bd.state]; rfl
  have N0 := Fr.nil n0
  have pre0 : ∀ tg, Steps p.tables e below (s₁.setTop (mkF m 0 #[.val (.ref a1), .unset, .unset, .unset, .unset, .unset] [])) tg → Steps p.tables e below (s₁.setTop (entryFrame m #[(.ref a1)] 6)) tg := fun tg kq => castTop (ef_R_6 m a1) kq
  have hS0 : s.Since s.vm h0.size := (State.WarmedH.refl s).since _
  have hk0 : h0.size ≤ h0.size := Nat.le_refl _
  have CR0 : CHr Z consts_1 s.vm h0 s.vm h0 := CHr.refl hC
  obtain ⟨tm0, kbm0, Nm0, vsm0, sEm0, sVm0, sCm0, sKm0, scdm0, shpm0, shlm0⟩ := id T0
  obtain ⟨tm1, kbm1, Nm1, vsm1, sEm1, sVm1, sCm1, sKm1, scdm1, shpm1, shlm1⟩ := id T1
  obtain ⟨tm2, kbm2, Nm2, vsm2, sEm2, sVm2, sCm2, sKm2, scdm2, shpm2, shlm2⟩ := id T2
  obtain ⟨tm3, kbm3, Nm3, vsm3, sEm3, sVm3, sCm3, sKm3, scdm3, shpm3, shlm3⟩ := id T3
  obtain ⟨tm4, kbm4, Nm4, vsm4, sEm4, sVm4, sCm4, sKm4, scdm4, shpm4, shlm4⟩ := id T4
  obtain ⟨tm5, kbm5, Nm5, vsm5, sEm5, sVm5, sCm5, sKm5, scdm5, shpm5, shlm5⟩ := id T5
  obtain ⟨ta, kba, Na, vsa, sEa, sVa, sCa, sKa, scda, shpa, shla⟩ := id T
  obtain ⟨a101, T101, h101, k101, b101, kb101, X101, e101, E101, hS101, hk101, hZ101, hown101, lE101, lC101, lV101, lK101, la101, lb101, CS101, lL101, lne101, st101⟩ := ldcCH (s := s) (EL := consts_1) X0 hx hZ hown (wi hw 30 rfl) (fun d hd => hw d (own_strw d hd)) e0 hS0 hk0 (own_EW hw) (by decide) CR0.1 (vs := [(.int (33 : Int32)), (.int (61 : Int32))]) (z := (2 : Int32)) ⟨by decide, by decide⟩ (by decide) (by decide) (g := (mkF m 1 #[.val (.ref a1), .unset, .unset, .unset, .unset, .unset] [(.ref a1)])) rfl (hb hby d5_1) (n := 8) (by decide) (by decide) (by decide) (by decide)
  have O101 := O0.ext E101
  have CR101 := CR0.trans CS101
  have KK101 : Keep h0 h101 [] := (Keep.refl h0 []).ext E101
  have lcd101 : StrChars.Road.CodA ([(33 : Int32), (61 : Int32)] : List Int32) 0 (2 : Int32) [(.int (33 : Int32)), (.int (61 : Int32))] := Or.inl ⟨rfl, rfl, rfl, by decide⟩
  have lhp101 : ∀ c ∈ ([(33 : Int32), (61 : Int32)] : List Int32), ¬ c < 0 ∧ ¬ (255 : Int32) < c := by decide
  have fE_a1_1_102 := (sEa.ext E101)
  have fString_value_1_103 := (sVa.ext E101)
  have fString_coder_1_104 := (sCa.ext E101)
  have fV_ta_1_105 := (sKa.ext E101)
  obtain ⟨cq106, kq106, q106a, q106b, q106c⟩ := isOf hZ101 e101 fE_a1_1_102
  obtain ⟨_, _, ⟨T106, L106, k106, n106⟩, -, X106, ⟨Lc106, hQ106, l106, y106, z106⟩, st106⟩ := X101.virtualBack hx (y := (⟨"java/lang/String", "equals", "(Ljava/lang/Object;)Z"⟩ : MethodName)) (z := (⟨"java/lang/String", "equals", "(Ljava/lang/Object;)Z"⟩ : MethodName)) hown101 (mvT hZ101 (wi hw 31 rfl)) (mvT hZ101 (wi hw 32 rfl)) (notFace_of_selects (args := #[]) (mvT hZ101 (wi hw 34 rfl))) (mvT hZ101 (wi hw 34 rfl)) (mvT hZ101 (wi hw 33 rfl)) (by decide) (StrChars.Road.eqW (W := 0) hZ101 (fun d hd => hw d (own_w_eqW d hd)) (kI := 4) (wi hw 6 rfl) fE_a1_1_102 fString_value_1_103 fString_coder_1_104 fV_ta_1_105 scda (own_up _ shpa) shla lE101 lV101 lC101 lK101 lcd101 (own_up _ lhp101) (by decide) (S_CS.ext O101.2) hG1 (by decide) (by decide)) q106a q106c (g := (mkF m 3 #[.val (.ref a1), .unset, .unset, .unset, .unset, .unset] [(.ref a101), (.ref a1)])) rfl (by rw [hml]; rfl) (Steps.refl _) (argsL := [(.ref a101)]) (rest := []) (lenOf pd_0 rfl) rfl (by show 2 * 0 + _ ≤ _; exact Nat.le_of_eq rfl) (hb hby d5_3) (fun _ _ => ⟨rfl, e101, (by decide : 2 + 0 ≤ _), (by decide : 12 + 0 ≤ _)⟩)
  dsimp only [Pt.U, Pt.locs, Pt.cells, Pt.slots] at X106 l106 y106 z106 st106 hQ106
  subst l106 y106 z106
  obtain ⟨hv106, rfl, hh106⟩ := hQ106
  obtain rfl := (hv106.resolve_left (fun q => (hbg : ¬ cs = ([(33 : Int32), (61 : Int32)] : List Int32)) q.2)).1
  have N106q : Fr n0 ([] : List Loc) := Fr.nil n0
  have e106 : T106.heap = h101 := hh106
  have N106 := Fr.app N0 N106q
  obtain ⟨_, _, ⟨T107, L107, k107, n107⟩, -, X107, ⟨Lc107, hQ107, l107, y107, z107⟩, st107⟩ := Jvm.LawKit.callS X106 hx (y := (⟨"com/example/plugroot/plugroot/sql/Comparison", "values", "()[Lcom/example/plugroot/plugroot/sql/Comparison;"⟩ : MethodName)) hown101 (mvT hZ101 (wi hw 42 rfl)) (mvT hZ101 (wi hw 43 rfl)) (mvT hZ101 (wi hw 28 rfl)) (mvT hZ101 (wi hw 44 rfl)) (by decide) (backOf (W := 0) (rm8 l Z a0 hw [] kV wV w0 w1 w2 w3 w4 w5 h101 n0 O101 S_V A_V E_V) hZ101 (wi hw 44 rfl) (wi hw 28 rfl) (by decide) (by decide)) (g := (mkF m 16 #[.val (.ref a1), .val (.ref a1), .unset, .unset, .unset, .unset] [])) rfl (by rw [hml]; rfl) (argsL := []) (rest := []) (lenOf pd_1 rfl) rfl (by show 2 * 0 + _ ≤ _; exact Nat.le_of_eq rfl) (hb hby d5_16) (fun _ _ => ⟨rfl, e106, (by decide : 2 + 1 ≤ _), (by decide : 12 + 6 ≤ _)⟩)
  dsimp only [Pt.U, Pt.locs, Pt.cells, Pt.slots] at X107 l107 y107 z107 st107 hQ107
  subst l107 y107 z107
  obtain ⟨bv107, rfl, N107q, K107, szv107, Av107⟩ := hQ107
  obtain ⟨h107, e107⟩ : ∃ z, T107.heap = z := ⟨_, rfl⟩
  rw [e107] at K107 Av107
  have g_bv107 : n0 ≤ bv107 := Nat.le_trans (O101.1 ▸ O101.2.1) szv107
  have sz_bv107 : h0.size ≤ bv107 := Nat.le_trans KK101.1 szv107
  have O107 := O101.keep K107 all0
  have CS107 := CHr.keep K107 sf0 CR101.1
  have CR107 := CR101.trans CS107
  have KK107 : Keep h0 h107 [] := KK101.trans K107 all0
  have N107 := Fr.app N106 N107q
  obtain ⟨cl_bv107_19, Ar_bv107_19, -, S_bv107_19, N_bv107_19, -, -⟩ := id (Av107)
  obtain ⟨cl_bv107_38, Ar_bv107_38, q_bv107_38, S_bv107_38, N_bv107_38, H_bv107_38, G_bv107_38⟩ := id (Av107)
  have hinbv107_38 : ¬ ((0 : Int32) < 0 ∨ cl_bv107_38.slots.size ≤ ((0 : Int32)).toNatClampNeg) := inb_of S_bv107_38 ⟨by decide, by decide⟩
  have hatbv107_38 : cl_bv107_38.slots[((0 : Int32)).toNatClampNeg]? = some (.ref w0) := H_bv107_38.at hinbv107_38 rfl
  obtain ⟨T108, X108, e108, st108⟩ := getF X107 hx hZ101 hown101 (host := "") (Or.inl (wi hw 63 rfl)) Via.refl e107 (M0.ext O107.2) (g := (mkF m 40 #[.val (.ref a1), .val (.ref a1), .val (.ref bv107), .val (.int (6 : Int32)), .val (.int (0 : Int32)), .val (.ref w0)] [(.ref w0)])) rfl rfl (hb hby d5_40)
  have fE_a1_2_109 := (fE_a1_1_102.keep K107)
  have fString_value_2_110 := (fString_value_1_103.keep K107 nin0)
  have fString_coder_2_111 := (fString_coder_1_104.keep K107 nin0)
  have fV_ta_2_112 := (fV_ta_1_105.keep K107 nin0)
  obtain ⟨cq113, kq113, q113a, q113b, q113c⟩ := isOf hZ101 e108 (sEm0.ext O107.2)
  obtain ⟨_, _, ⟨T113, L113, k113, n113⟩, -, X113, ⟨Lc113, hQ113, l113, y113, z113⟩, st113⟩ := X108.virtualBack hx (y := (⟨"java/lang/String", "equals", "(Ljava/lang/Object;)Z"⟩ : MethodName)) (z := (⟨"java/lang/String", "equals", "(Ljava/lang/Object;)Z"⟩ : MethodName)) hown101 (mvT hZ101 (wi hw 31 rfl)) (mvT hZ101 (wi hw 32 rfl)) (notFace_of_selects (args := #[]) (mvT hZ101 (wi hw 34 rfl))) (mvT hZ101 (wi hw 34 rfl)) (mvT hZ101 (wi hw 33 rfl)) (by decide) (StrChars.Road.eqW (W := 0) hZ101 (fun d hd => hw d (own_w_eqW d hd)) (kI := 4) (wi hw 6 rfl) (sEm0.ext O107.2) (sVm0.ext O107.2) (sCm0.ext O107.2) (sKm0.ext O107.2) scdm0 (own_up _ shpm0) shlm0 fE_a1_2_109 fString_value_2_110 fString_coder_2_111 fV_ta_2_112 scda (own_up _ shpa) shla (S_CS.ext O107.2) hG1 (by decide) (by decide)) q113a q113c (g := (mkF m 44 #[.val (.ref a1), .val (.ref a1), .val (.ref bv107), .val (.int (6 : Int32)), .val (.int (0 : Int32)), .val (.ref w0)] [(.ref a1), (.ref s0)])) rfl (by rw [hml]; rfl) (Steps.refl _) (argsL := [(.ref a1)]) (rest := []) (lenOf pd_0 rfl) rfl (by show 2 * 0 + _ ≤ _; exact Nat.le_of_eq rfl) (hb hby d5_44) (fun _ _ => ⟨rfl, e108, (by decide : 3 + 0 ≤ _), (by decide : 18 + 0 ≤ _)⟩)
  dsimp only [Pt.U, Pt.locs, Pt.cells, Pt.slots] at X113 l113 y113 z113 st113 hQ113
  subst l113 y113 z113
  obtain ⟨hv113, rfl, hh113⟩ := hQ113
  obtain rfl := (hv113.resolve_left (fun q => ((fun z => g0_ z.symm) : ¬ ([(61 : Int32)] : List Int32) = cs) q.2)).1
  have N113q : Fr n0 ([] : List Loc) := Fr.nil n0
  have e113 : T113.heap = h107 := hh113
  have N113 := Fr.app N107 N113q
  obtain ⟨cl_bv107_66, Ar_bv107_66, q_bv107_66, S_bv107_66, N_bv107_66, H_bv107_66, G_bv107_66⟩ := id (Av107)
  have hinbv107_66 : ¬ ((1 : Int32) < 0 ∨ cl_bv107_66.slots.size ≤ ((1 : Int32)).toNatClampNeg) := inb_of S_bv107_66 ⟨by decide, by decide⟩
  have hatbv107_66 : cl_bv107_66.slots[((1 : Int32)).toNatClampNeg]? = some (.ref w1) := H_bv107_66.at hinbv107_66 rfl
  obtain ⟨T114, X114, e114, st114⟩ := getF X113 hx hZ101 hown101 (host := "") (Or.inl (wi hw 63 rfl)) Via.refl e113 (M1.ext O107.2) (g := (mkF m 40 #[.val (.ref a1), .val (.ref a1), .val (.ref bv107), .val (.int (6 : Int32)), .val (.int (1 : Int32)), .val (.ref w1)] [(.ref w1)])) rfl rfl (hb hby d5_40)
  obtain ⟨cq115, kq115, q115a, q115b, q115c⟩ := isOf hZ101 e114 (sEm1.ext O107.2)
  obtain ⟨_, _, ⟨T115, L115, k115, n115⟩, -, X115, ⟨Lc115, hQ115, l115, y115, z115⟩, st115⟩ := X114.virtualBack hx (y := (⟨"java/lang/String", "equals", "(Ljava/lang/Object;)Z"⟩ : MethodName)) (z := (⟨"java/lang/String", "equals", "(Ljava/lang/Object;)Z"⟩ : MethodName)) hown101 (mvT hZ101 (wi hw 31 rfl)) (mvT hZ101 (wi hw 32 rfl)) (notFace_of_selects (args := #[]) (mvT hZ101 (wi hw 34 rfl))) (mvT hZ101 (wi hw 34 rfl)) (mvT hZ101 (wi hw 33 rfl)) (by decide) (StrChars.Road.eqW (W := 0) hZ101 (fun d hd => hw d (own_w_eqW d hd)) (kI := 4) (wi hw 6 rfl) (sEm1.ext O107.2) (sVm1.ext O107.2) (sCm1.ext O107.2) (sKm1.ext O107.2) scdm1 (own_up _ shpm1) shlm1 fE_a1_2_109 fString_value_2_110 fString_coder_2_111 fV_ta_2_112 scda (own_up _ shpa) shla (S_CS.ext O107.2) hG1 (by decide) (by decide)) q115a q115c (g := (mkF m 44 #[.val (.ref a1), .val (.ref a1), .val (.ref bv107), .val (.int (6 : Int32)), .val (.int (1 : Int32)), .val (.ref w1)] [(.ref a1), (.ref s1)])) rfl (by rw [hml]; rfl) (Steps.refl _) (argsL := [(.ref a1)]) (rest := []) (lenOf pd_0 rfl) rfl (by show 2 * 0 + _ ≤ _; exact Nat.le_of_eq rfl) (hb hby d5_44) (fun _ _ => ⟨rfl, e114, (by decide : 3 + 0 ≤ _), (by decide : 18 + 0 ≤ _)⟩)
  dsimp only [Pt.U, Pt.locs, Pt.cells, Pt.slots] at X115 l115 y115 z115 st115 hQ115
  subst l115 y115 z115
  obtain ⟨hv115, rfl, hh115⟩ := hQ115
  obtain rfl := (hv115.resolve_left (fun q => ((fun z => g1_ z.symm) : ¬ ([(60 : Int32), (62 : Int32)] : List Int32) = cs) q.2)).1
  have N115q : Fr n0 ([] : List Loc) := Fr.nil n0
  have e115 : T115.heap = h107 := hh115
  have N115 := Fr.app N113 N115q
  obtain ⟨cl_bv107_94, Ar_bv107_94, q_bv107_94, S_bv107_94, N_bv107_94, H_bv107_94, G_bv107_94⟩ := id (Av107)
  have hinbv107_94 : ¬ ((2 : Int32) < 0 ∨ cl_bv107_94.slots.size ≤ ((2 : Int32)).toNatClampNeg) := inb_of S_bv107_94 ⟨by decide, by decide⟩
  have hatbv107_94 : cl_bv107_94.slots[((2 : Int32)).toNatClampNeg]? = some (.ref w2) := H_bv107_94.at hinbv107_94 rfl
  obtain ⟨T116, X116, e116, st116⟩ := getF X115 hx hZ101 hown101 (host := "") (Or.inl (wi hw 63 rfl)) Via.refl e115 (M2.ext O107.2) (g := (mkF m 40 #[.val (.ref a1), .val (.ref a1), .val (.ref bv107), .val (.int (6 : Int32)), .val (.int (2 : Int32)), .val (.ref w2)] [(.ref w2)])) rfl rfl (hb hby d5_40)
  obtain ⟨cq117, kq117, q117a, q117b, q117c⟩ := isOf hZ101 e116 (sEm2.ext O107.2)
  obtain ⟨_, _, ⟨T117, L117, k117, n117⟩, -, X117, ⟨Lc117, hQ117, l117, y117, z117⟩, st117⟩ := X116.virtualBack hx (y := (⟨"java/lang/String", "equals", "(Ljava/lang/Object;)Z"⟩ : MethodName)) (z := (⟨"java/lang/String", "equals", "(Ljava/lang/Object;)Z"⟩ : MethodName)) hown101 (mvT hZ101 (wi hw 31 rfl)) (mvT hZ101 (wi hw 32 rfl)) (notFace_of_selects (args := #[]) (mvT hZ101 (wi hw 34 rfl))) (mvT hZ101 (wi hw 34 rfl)) (mvT hZ101 (wi hw 33 rfl)) (by decide) (StrChars.Road.eqW (W := 0) hZ101 (fun d hd => hw d (own_w_eqW d hd)) (kI := 4) (wi hw 6 rfl) (sEm2.ext O107.2) (sVm2.ext O107.2) (sCm2.ext O107.2) (sKm2.ext O107.2) scdm2 (own_up _ shpm2) shlm2 fE_a1_2_109 fString_value_2_110 fString_coder_2_111 fV_ta_2_112 scda (own_up _ shpa) shla (S_CS.ext O107.2) hG1 (by decide) (by decide)) q117a q117c (g := (mkF m 44 #[.val (.ref a1), .val (.ref a1), .val (.ref bv107), .val (.int (6 : Int32)), .val (.int (2 : Int32)), .val (.ref w2)] [(.ref a1), (.ref s2)])) rfl (by rw [hml]; rfl) (Steps.refl _) (argsL := [(.ref a1)]) (rest := []) (lenOf pd_0 rfl) rfl (by show 2 * 0 + _ ≤ _; exact Nat.le_of_eq rfl) (hb hby d5_44) (fun _ _ => ⟨rfl, e116, (by decide : 3 + 0 ≤ _), (by decide : 18 + 0 ≤ _)⟩)
  dsimp only [Pt.U, Pt.locs, Pt.cells, Pt.slots] at X117 l117 y117 z117 st117 hQ117
  subst l117 y117 z117
  obtain ⟨hv117, rfl, hh117⟩ := hQ117
  obtain rfl := (hv117.resolve_left (fun q => ((fun z => g2_ z.symm) : ¬ ([(60 : Int32)] : List Int32) = cs) q.2)).1
  have N117q : Fr n0 ([] : List Loc) := Fr.nil n0
  have e117 : T117.heap = h107 := hh117
  have N117 := Fr.app N115 N117q
  obtain ⟨cl_bv107_122, Ar_bv107_122, q_bv107_122, S_bv107_122, N_bv107_122, H_bv107_122, G_bv107_122⟩ := id (Av107)
  have hinbv107_122 : ¬ ((3 : Int32) < 0 ∨ cl_bv107_122.slots.size ≤ ((3 : Int32)).toNatClampNeg) := inb_of S_bv107_122 ⟨by decide, by decide⟩
  have hatbv107_122 : cl_bv107_122.slots[((3 : Int32)).toNatClampNeg]? = some (.ref w3) := H_bv107_122.at hinbv107_122 rfl
  obtain ⟨T118, X118, e118, st118⟩ := getF X117 hx hZ101 hown101 (host := "") (Or.inl (wi hw 63 rfl)) Via.refl e117 (M3.ext O107.2) (g := (mkF m 40 #[.val (.ref a1), .val (.ref a1), .val (.ref bv107), .val (.int (6 : Int32)), .val (.int (3 : Int32)), .val (.ref w3)] [(.ref w3)])) rfl rfl (hb hby d5_40)
  obtain ⟨cq119, kq119, q119a, q119b, q119c⟩ := isOf hZ101 e118 (sEm3.ext O107.2)
  obtain ⟨_, _, ⟨T119, L119, k119, n119⟩, -, X119, ⟨Lc119, hQ119, l119, y119, z119⟩, st119⟩ := X118.virtualBack hx (y := (⟨"java/lang/String", "equals", "(Ljava/lang/Object;)Z"⟩ : MethodName)) (z := (⟨"java/lang/String", "equals", "(Ljava/lang/Object;)Z"⟩ : MethodName)) hown101 (mvT hZ101 (wi hw 31 rfl)) (mvT hZ101 (wi hw 32 rfl)) (notFace_of_selects (args := #[]) (mvT hZ101 (wi hw 34 rfl))) (mvT hZ101 (wi hw 34 rfl)) (mvT hZ101 (wi hw 33 rfl)) (by decide) (StrChars.Road.eqW (W := 0) hZ101 (fun d hd => hw d (own_w_eqW d hd)) (kI := 4) (wi hw 6 rfl) (sEm3.ext O107.2) (sVm3.ext O107.2) (sCm3.ext O107.2) (sKm3.ext O107.2) scdm3 (own_up _ shpm3) shlm3 fE_a1_2_109 fString_value_2_110 fString_coder_2_111 fV_ta_2_112 scda (own_up _ shpa) shla (S_CS.ext O107.2) hG1 (by decide) (by decide)) q119a q119c (g := (mkF m 44 #[.val (.ref a1), .val (.ref a1), .val (.ref bv107), .val (.int (6 : Int32)), .val (.int (3 : Int32)), .val (.ref w3)] [(.ref a1), (.ref s3)])) rfl (by rw [hml]; rfl) (Steps.refl _) (argsL := [(.ref a1)]) (rest := []) (lenOf pd_0 rfl) rfl (by show 2 * 0 + _ ≤ _; exact Nat.le_of_eq rfl) (hb hby d5_44) (fun _ _ => ⟨rfl, e118, (by decide : 3 + 0 ≤ _), (by decide : 18 + 0 ≤ _)⟩)
  dsimp only [Pt.U, Pt.locs, Pt.cells, Pt.slots] at X119 l119 y119 z119 st119 hQ119
  subst l119 y119 z119
  obtain ⟨hv119, rfl, hh119⟩ := hQ119
  obtain rfl := (hv119.resolve_left (fun q => ((fun z => g3_ z.symm) : ¬ ([(62 : Int32)] : List Int32) = cs) q.2)).1
  have N119q : Fr n0 ([] : List Loc) := Fr.nil n0
  have e119 : T119.heap = h107 := hh119
  have N119 := Fr.app N117 N119q
  obtain ⟨cl_bv107_150, Ar_bv107_150, q_bv107_150, S_bv107_150, N_bv107_150, H_bv107_150, G_bv107_150⟩ := id (Av107)
  have hinbv107_150 : ¬ ((4 : Int32) < 0 ∨ cl_bv107_150.slots.size ≤ ((4 : Int32)).toNatClampNeg) := inb_of S_bv107_150 ⟨by decide, by decide⟩
  have hatbv107_150 : cl_bv107_150.slots[((4 : Int32)).toNatClampNeg]? = some (.ref w4) := H_bv107_150.at hinbv107_150 rfl
  obtain ⟨T120, X120, e120, st120⟩ := getF X119 hx hZ101 hown101 (host := "") (Or.inl (wi hw 63 rfl)) Via.refl e119 (M4.ext O107.2) (g := (mkF m 40 #[.val (.ref a1), .val (.ref a1), .val (.ref bv107), .val (.int (6 : Int32)), .val (.int (4 : Int32)), .val (.ref w4)] [(.ref w4)])) rfl rfl (hb hby d5_40)
  obtain ⟨cq121, kq121, q121a, q121b, q121c⟩ := isOf hZ101 e120 (sEm4.ext O107.2)
  obtain ⟨_, _, ⟨T121, L121, k121, n121⟩, -, X121, ⟨Lc121, hQ121, l121, y121, z121⟩, st121⟩ := X120.virtualBack hx (y := (⟨"java/lang/String", "equals", "(Ljava/lang/Object;)Z"⟩ : MethodName)) (z := (⟨"java/lang/String", "equals", "(Ljava/lang/Object;)Z"⟩ : MethodName)) hown101 (mvT hZ101 (wi hw 31 rfl)) (mvT hZ101 (wi hw 32 rfl)) (notFace_of_selects (args := #[]) (mvT hZ101 (wi hw 34 rfl))) (mvT hZ101 (wi hw 34 rfl)) (mvT hZ101 (wi hw 33 rfl)) (by decide) (StrChars.Road.eqW (W := 0) hZ101 (fun d hd => hw d (own_w_eqW d hd)) (kI := 4) (wi hw 6 rfl) (sEm4.ext O107.2) (sVm4.ext O107.2) (sCm4.ext O107.2) (sKm4.ext O107.2) scdm4 (own_up _ shpm4) shlm4 fE_a1_2_109 fString_value_2_110 fString_coder_2_111 fV_ta_2_112 scda (own_up _ shpa) shla (S_CS.ext O107.2) hG1 (by decide) (by decide)) q121a q121c (g := (mkF m 44 #[.val (.ref a1), .val (.ref a1), .val (.ref bv107), .val (.int (6 : Int32)), .val (.int (4 : Int32)), .val (.ref w4)] [(.ref a1), (.ref s4)])) rfl (by rw [hml]; rfl) (Steps.refl _) (argsL := [(.ref a1)]) (rest := []) (lenOf pd_0 rfl) rfl (by show 2 * 0 + _ ≤ _; exact Nat.le_of_eq rfl) (hb hby d5_44) (fun _ _ => ⟨rfl, e120, (by decide : 3 + 0 ≤ _), (by decide : 18 + 0 ≤ _)⟩)
  dsimp only [Pt.U, Pt.locs, Pt.cells, Pt.slots] at X121 l121 y121 z121 st121 hQ121
  subst l121 y121 z121
  obtain ⟨hv121, rfl, hh121⟩ := hQ121
  obtain rfl := (hv121.resolve_left (fun q => ((fun z => g4_ z.symm) : ¬ ([(60 : Int32), (61 : Int32)] : List Int32) = cs) q.2)).1
  have N121q : Fr n0 ([] : List Loc) := Fr.nil n0
  have e121 : T121.heap = h107 := hh121
  have N121 := Fr.app N119 N121q
  obtain ⟨cl_bv107_178, Ar_bv107_178, q_bv107_178, S_bv107_178, N_bv107_178, H_bv107_178, G_bv107_178⟩ := id (Av107)
  have hinbv107_178 : ¬ ((5 : Int32) < 0 ∨ cl_bv107_178.slots.size ≤ ((5 : Int32)).toNatClampNeg) := inb_of S_bv107_178 ⟨by decide, by decide⟩
  have hatbv107_178 : cl_bv107_178.slots[((5 : Int32)).toNatClampNeg]? = some (.ref w5) := H_bv107_178.at hinbv107_178 rfl
  obtain ⟨T122, X122, e122, st122⟩ := getF X121 hx hZ101 hown101 (host := "") (Or.inl (wi hw 63 rfl)) Via.refl e121 (M5.ext O107.2) (g := (mkF m 40 #[.val (.ref a1), .val (.ref a1), .val (.ref bv107), .val (.int (6 : Int32)), .val (.int (5 : Int32)), .val (.ref w5)] [(.ref w5)])) rfl rfl (hb hby d5_40)
  obtain ⟨cq123, kq123, q123a, q123b, q123c⟩ := isOf hZ101 e122 (sEm5.ext O107.2)
  obtain ⟨_, _, ⟨T123, L123, k123, n123⟩, -, X123, ⟨Lc123, hQ123, l123, y123, z123⟩, st123⟩ := X122.virtualBack hx (y := (⟨"java/lang/String", "equals", "(Ljava/lang/Object;)Z"⟩ : MethodName)) (z := (⟨"java/lang/String", "equals", "(Ljava/lang/Object;)Z"⟩ : MethodName)) hown101 (mvT hZ101 (wi hw 31 rfl)) (mvT hZ101 (wi hw 32 rfl)) (notFace_of_selects (args := #[]) (mvT hZ101 (wi hw 34 rfl))) (mvT hZ101 (wi hw 34 rfl)) (mvT hZ101 (wi hw 33 rfl)) (by decide) (StrChars.Road.eqW (W := 0) hZ101 (fun d hd => hw d (own_w_eqW d hd)) (kI := 4) (wi hw 6 rfl) (sEm5.ext O107.2) (sVm5.ext O107.2) (sCm5.ext O107.2) (sKm5.ext O107.2) scdm5 (own_up _ shpm5) shlm5 fE_a1_2_109 fString_value_2_110 fString_coder_2_111 fV_ta_2_112 scda (own_up _ shpa) shla (S_CS.ext O107.2) hG1 (by decide) (by decide)) q123a q123c (g := (mkF m 44 #[.val (.ref a1), .val (.ref a1), .val (.ref bv107), .val (.int (6 : Int32)), .val (.int (5 : Int32)), .val (.ref w5)] [(.ref a1), (.ref s5)])) rfl (by rw [hml]; rfl) (Steps.refl _) (argsL := [(.ref a1)]) (rest := []) (lenOf pd_0 rfl) rfl (by show 2 * 0 + _ ≤ _; exact Nat.le_of_eq rfl) (hb hby d5_44) (fun _ _ => ⟨rfl, e122, (by decide : 3 + 0 ≤ _), (by decide : 18 + 0 ≤ _)⟩)
  dsimp only [Pt.U, Pt.locs, Pt.cells, Pt.slots] at X123 l123 y123 z123 st123 hQ123
  subst l123 y123 z123
  obtain ⟨hv123, rfl, hh123⟩ := hQ123
  obtain rfl := (hv123.resolve_left (fun q => ((fun z => g5_ z.symm) : ¬ ([(62 : Int32), (61 : Int32)] : List Int32) = cs) q.2)).1
  have N123q : Fr n0 ([] : List Loc) := Fr.nil n0
  have e123 : T123.heap = h107 := hh123
  have N123 := Fr.app N121 N123q
  obtain ⟨fs, hr, hrun, hended, hREW⟩ := X123.leaveW hS101 (by rw [e123]; exact (Nat.le_trans hk101 K107.1)) (v := some .null) (fun h => by rw [Bd.returns] at h; cases h)
  refine ⟨_, _, pre0 _ ?_, hrun, hended, _, _, rfl, ?_, (by rw [hh]; show CHr Z consts_1 s.vm h0 T123.vm T123.heap; rw [e123]; exact CR107.trans (CHv.at X123 hZ101 (own_EW hw) CR107.1)), hREW.1, hREW.2.1, hREW.2.2.1, hREW.2.2.2.mono (by decide) (by decide)⟩
  · show Steps p.tables e below (s₁.setTop (mkF m 0 #[.val (.ref a1), .unset, .unset, .unset, .unset, .unset] [])) _
    refine XS.aloadN X0.here hx rfl (hb hby d5_0) rfl rfl ?_
    show Steps p.tables e below (s₁.setTop (mkF m 1 #[.val (.ref a1), .unset, .unset, .unset, .unset, .unset] [(.ref a1)])) _
    refine st101 _ ?_
    show Steps p.tables e below (T101.setTop (mkF m 3 #[.val (.ref a1), .unset, .unset, .unset, .unset, .unset] [(.ref a101), (.ref a1)])) _
    refine st106.trans ?_
    show Steps p.tables e below (T106.setTop (mkF m 6 #[.val (.ref a1), .unset, .unset, .unset, .unset, .unset] [(.int (0 : Int32))])) _
    refine XS.ifYes X106.here hx rfl (pc0 := 6) (pc' := 14) rfl (hb hby d5_6) rfl ((if0 _ _).trans (teq (by decide : (0 : Int32) = (0 : Int32))).1) (by decide) (by decide) ?_
    show Steps p.tables e below (T106.setTop (mkF m 14 #[.val (.ref a1), .unset, .unset, .unset, .unset, .unset] [])) _
    refine XS.aloadN X106.here hx rfl (hb hby d5_14) rfl rfl ?_
    show Steps p.tables e below (T106.setTop (mkF m 15 #[.val (.ref a1), .unset, .unset, .unset, .unset, .unset] [(.ref a1)])) _
    refine XS.astoreN X106.here hx rfl (hb hby d5_15) rfl rfl (l' := #[.val (.ref a1), .val (.ref a1), .unset, .unset, .unset, .unset]) rfl ?_
    show Steps p.tables e below (T106.setTop (mkF m 16 #[.val (.ref a1), .val (.ref a1), .unset, .unset, .unset, .unset] [])) _
    refine st107 _ ?_
    show Steps p.tables e below (T107.setTop (mkF m 19 #[.val (.ref a1), .val (.ref a1), .unset, .unset, .unset, .unset] [(.ref bv107)])) _
    refine XS.astoreN X107.here hx rfl (hb hby d5_19) rfl rfl (l' := #[.val (.ref a1), .val (.ref a1), .val (.ref bv107), .unset, .unset, .unset]) rfl ?_
    show Steps p.tables e below (T107.setTop (mkF m 20 #[.val (.ref a1), .val (.ref a1), .val (.ref bv107), .unset, .unset, .unset] [])) _
    refine XS.aloadN X107.here hx rfl (hb hby d5_20) rfl rfl ?_
    show Steps p.tables e below (T107.setTop (mkF m 21 #[.val (.ref a1), .val (.ref a1), .val (.ref bv107), .unset, .unset, .unset] [(.ref bv107)])) _
    refine X107.arraylength hx (by rw [e107]; exact Ar_bv107_19.1) (State.isArrayOf_alike hZ101.alike Ar_bv107_19.2.1) (g := (mkF m 21 #[.val (.ref a1), .val (.ref a1), .val (.ref bv107), .unset, .unset, .unset] [(.ref bv107)])) rfl rfl (hb hby d5_21) _ ?_
    rw [len_of S_bv107_19 N_bv107_19]
    show Steps p.tables e below (T107.setTop (mkF m 22 #[.val (.ref a1), .val (.ref a1), .val (.ref bv107), .unset, .unset, .unset] [(.int (6 : Int32))])) _
    refine XS.istoreN X107.here hx rfl (hb hby d5_22) rfl (l' := #[.val (.ref a1), .val (.ref a1), .val (.ref bv107), .val (.int (6 : Int32)), .unset, .unset]) rfl ?_
    show Steps p.tables e below (T107.setTop (mkF m 23 #[.val (.ref a1), .val (.ref a1), .val (.ref bv107), .val (.int (6 : Int32)), .unset, .unset] [])) _
    refine XS.iconst X107.here hx rfl (hb hby d5_23) ?_
    show Steps p.tables e below (T107.setTop (mkF m 24 #[.val (.ref a1), .val (.ref a1), .val (.ref bv107), .val (.int (6 : Int32)), .unset, .unset] [(.int (0 : Int32))])) _
    refine XS.istore X107.here hx rfl (hb hby d5_24) rfl (l' := #[.val (.ref a1), .val (.ref a1), .val (.ref bv107), .val (.int (6 : Int32)), .val (.int (0 : Int32)), .unset]) rfl ?_
    show Steps p.tables e below (T107.setTop (mkF m 26 #[.val (.ref a1), .val (.ref a1), .val (.ref bv107), .val (.int (6 : Int32)), .val (.int (0 : Int32)), .unset] [])) _
    refine XS.iload X107.here hx rfl (hb hby d5_26) rfl ?_
    show Steps p.tables e below (T107.setTop (mkF m 28 #[.val (.ref a1), .val (.ref a1), .val (.ref bv107), .val (.int (6 : Int32)), .val (.int (0 : Int32)), .unset] [(.int (0 : Int32))])) _
    refine XS.iloadN X107.here hx rfl (hb hby d5_28) rfl ?_
    show Steps p.tables e below (T107.setTop (mkF m 29 #[.val (.ref a1), .val (.ref a1), .val (.ref bv107), .val (.int (6 : Int32)), .val (.int (0 : Int32)), .unset] [(.int (6 : Int32)), (.int (0 : Int32))])) _
    refine XS.icmpNo X107.here hx rfl (hb hby d5_29) rfl (tlt (by decide : (0 : Int32) < (6 : Int32))).2.1 ?_
    show Steps p.tables e below (T107.setTop (mkF m 32 #[.val (.ref a1), .val (.ref a1), .val (.ref bv107), .val (.int (6 : Int32)), .val (.int (0 : Int32)), .unset] [])) _
    refine XS.aloadN X107.here hx rfl (hb hby d5_32) rfl rfl ?_
    show Steps p.tables e below (T107.setTop (mkF m 33 #[.val (.ref a1), .val (.ref a1), .val (.ref bv107), .val (.int (6 : Int32)), .val (.int (0 : Int32)), .unset] [(.ref bv107)])) _
    refine XS.iload X107.here hx rfl (hb hby d5_33) rfl ?_
    show Steps p.tables e below (T107.setTop (mkF m 35 #[.val (.ref a1), .val (.ref a1), .val (.ref bv107), .val (.int (6 : Int32)), .val (.int (0 : Int32)), .unset] [(.int (0 : Int32)), (.ref bv107)])) _
    refine X107.aaload hx (j := (0 : Int32)) (v := (.ref w0)) (by rw [e107]; exact Ar_bv107_38.1) (State.isArrayOf_alike hZ101.alike Ar_bv107_38.2.1) rfl Ar_bv107_38.2.2 hinbv107_38 hatbv107_38 (g := (mkF m 35 #[.val (.ref a1), .val (.ref a1), .val (.ref bv107), .val (.int (6 : Int32)), .val (.int (0 : Int32)), .unset] [(.int (0 : Int32)), (.ref bv107)])) rfl rfl (hb hby d5_35) _ ?_
    show Steps p.tables e below (T107.setTop (mkF m 36 #[.val (.ref a1), .val (.ref a1), .val (.ref bv107), .val (.int (6 : Int32)), .val (.int (0 : Int32)), .unset] [(.ref w0)])) _
    refine XS.astore X107.here hx rfl (hb hby d5_36) rfl rfl (l' := #[.val (.ref a1), .val (.ref a1), .val (.ref bv107), .val (.int (6 : Int32)), .val (.int (0 : Int32)), .val (.ref w0)]) rfl ?_
    show Steps p.tables e below (T107.setTop (mkF m 38 #[.val (.ref a1), .val (.ref a1), .val (.ref bv107), .val (.int (6 : Int32)), .val (.int (0 : Int32)), .val (.ref w0)] [])) _
    refine XS.aload X107.here hx rfl (hb hby d5_38) rfl rfl ?_
    show Steps p.tables e below (T107.setTop (mkF m 40 #[.val (.ref a1), .val (.ref a1), .val (.ref bv107), .val (.int (6 : Int32)), .val (.int (0 : Int32)), .val (.ref w0)] [(.ref w0)])) _
    refine st108 _ ?_
    show Steps p.tables e below (T108.setTop (mkF m 43 #[.val (.ref a1), .val (.ref a1), .val (.ref bv107), .val (.int (6 : Int32)), .val (.int (0 : Int32)), .val (.ref w0)] [(.ref s0)])) _
    refine XS.aloadN X108.here hx rfl (hb hby d5_43) rfl rfl ?_
    show Steps p.tables e below (T108.setTop (mkF m 44 #[.val (.ref a1), .val (.ref a1), .val (.ref bv107), .val (.int (6 : Int32)), .val (.int (0 : Int32)), .val (.ref w0)] [(.ref a1), (.ref s0)])) _
    refine st113.trans ?_
    show Steps p.tables e below (T113.setTop (mkF m 47 #[.val (.ref a1), .val (.ref a1), .val (.ref bv107), .val (.int (6 : Int32)), .val (.int (0 : Int32)), .val (.ref w0)] [(.int (0 : Int32))])) _
    refine XS.ifYes X113.here hx rfl (pc0 := 47) (pc' := 53) rfl (hb hby d5_47) rfl ((if0 _ _).trans (teq (by decide : (0 : Int32) = (0 : Int32))).1) (by decide) (by decide) ?_
    show Steps p.tables e below (T113.setTop (mkF m 53 #[.val (.ref a1), .val (.ref a1), .val (.ref bv107), .val (.int (6 : Int32)), .val (.int (0 : Int32)), .val (.ref w0)] [])) _
    refine XS.iinc X113.here hx rfl (hb hby d5_53) rfl (l' := #[.val (.ref a1), .val (.ref a1), .val (.ref bv107), .val (.int (6 : Int32)), .val (.int (1 : Int32)), .val (.ref w0)]) rfl ?_
    show Steps p.tables e below (T113.setTop (mkF m 56 #[.val (.ref a1), .val (.ref a1), .val (.ref bv107), .val (.int (6 : Int32)), .val (.int (1 : Int32)), .val (.ref w0)] [])) _
    refine XS.goto X113.here hx rfl (pc0 := 56) (pc' := 26) rfl (hb hby d5_56) (by decide) (by decide) ?_
    show Steps p.tables e below (T113.setTop (mkF m 26 #[.val (.ref a1), .val (.ref a1), .val (.ref bv107), .val (.int (6 : Int32)), .val (.int (1 : Int32)), .val (.ref w0)] [])) _
    refine XS.iload X113.here hx rfl (hb hby d5_26) rfl ?_
    show Steps p.tables e below (T113.setTop (mkF m 28 #[.val (.ref a1), .val (.ref a1), .val (.ref bv107), .val (.int (6 : Int32)), .val (.int (1 : Int32)), .val (.ref w0)] [(.int (1 : Int32))])) _
    refine XS.iloadN X113.here hx rfl (hb hby d5_28) rfl ?_
    show Steps p.tables e below (T113.setTop (mkF m 29 #[.val (.ref a1), .val (.ref a1), .val (.ref bv107), .val (.int (6 : Int32)), .val (.int (1 : Int32)), .val (.ref w0)] [(.int (6 : Int32)), (.int (1 : Int32))])) _
    refine XS.icmpNo X113.here hx rfl (hb hby d5_29) rfl (tlt (by decide : (1 : Int32) < (6 : Int32))).2.1 ?_
    show Steps p.tables e below (T113.setTop (mkF m 32 #[.val (.ref a1), .val (.ref a1), .val (.ref bv107), .val (.int (6 : Int32)), .val (.int (1 : Int32)), .val (.ref w0)] [])) _
    refine XS.aloadN X113.here hx rfl (hb hby d5_32) rfl rfl ?_
    show Steps p.tables e below (T113.setTop (mkF m 33 #[.val (.ref a1), .val (.ref a1), .val (.ref bv107), .val (.int (6 : Int32)), .val (.int (1 : Int32)), .val (.ref w0)] [(.ref bv107)])) _
    refine XS.iload X113.here hx rfl (hb hby d5_33) rfl ?_
    show Steps p.tables e below (T113.setTop (mkF m 35 #[.val (.ref a1), .val (.ref a1), .val (.ref bv107), .val (.int (6 : Int32)), .val (.int (1 : Int32)), .val (.ref w0)] [(.int (1 : Int32)), (.ref bv107)])) _
    refine X113.aaload hx (j := (1 : Int32)) (v := (.ref w1)) (by rw [e113]; exact Ar_bv107_66.1) (State.isArrayOf_alike hZ101.alike Ar_bv107_66.2.1) rfl Ar_bv107_66.2.2 hinbv107_66 hatbv107_66 (g := (mkF m 35 #[.val (.ref a1), .val (.ref a1), .val (.ref bv107), .val (.int (6 : Int32)), .val (.int (1 : Int32)), .val (.ref w0)] [(.int (1 : Int32)), (.ref bv107)])) rfl rfl (hb hby d5_35) _ ?_
    show Steps p.tables e below (T113.setTop (mkF m 36 #[.val (.ref a1), .val (.ref a1), .val (.ref bv107), .val (.int (6 : Int32)), .val (.int (1 : Int32)), .val (.ref w0)] [(.ref w1)])) _
    refine XS.astore X113.here hx rfl (hb hby d5_36) rfl rfl (l' := #[.val (.ref a1), .val (.ref a1), .val (.ref bv107), .val (.int (6 : Int32)), .val (.int (1 : Int32)), .val (.ref w1)]) rfl ?_
    show Steps p.tables e below (T113.setTop (mkF m 38 #[.val (.ref a1), .val (.ref a1), .val (.ref bv107), .val (.int (6 : Int32)), .val (.int (1 : Int32)), .val (.ref w1)] [])) _
    refine XS.aload X113.here hx rfl (hb hby d5_38) rfl rfl ?_
    show Steps p.tables e below (T113.setTop (mkF m 40 #[.val (.ref a1), .val (.ref a1), .val (.ref bv107), .val (.int (6 : Int32)), .val (.int (1 : Int32)), .val (.ref w1)] [(.ref w1)])) _
    refine st114 _ ?_
    show Steps p.tables e below (T114.setTop (mkF m 43 #[.val (.ref a1), .val (.ref a1), .val (.ref bv107), .val (.int (6 : Int32)), .val (.int (1 : Int32)), .val (.ref w1)] [(.ref s1)])) _
    refine XS.aloadN X114.here hx rfl (hb hby d5_43) rfl rfl ?_
    show Steps p.tables e below (T114.setTop (mkF m 44 #[.val (.ref a1), .val (.ref a1), .val (.ref bv107), .val (.int (6 : Int32)), .val (.int (1 : Int32)), .val (.ref w1)] [(.ref a1), (.ref s1)])) _
    refine st115.trans ?_
    show Steps p.tables e below (T115.setTop (mkF m 47 #[.val (.ref a1), .val (.ref a1), .val (.ref bv107), .val (.int (6 : Int32)), .val (.int (1 : Int32)), .val (.ref w1)] [(.int (0 : Int32))])) _
    refine XS.ifYes X115.here hx rfl (pc0 := 47) (pc' := 53) rfl (hb hby d5_47) rfl ((if0 _ _).trans (teq (by decide : (0 : Int32) = (0 : Int32))).1) (by decide) (by decide) ?_
    show Steps p.tables e below (T115.setTop (mkF m 53 #[.val (.ref a1), .val (.ref a1), .val (.ref bv107), .val (.int (6 : Int32)), .val (.int (1 : Int32)), .val (.ref w1)] [])) _
    refine XS.iinc X115.here hx rfl (hb hby d5_53) rfl (l' := #[.val (.ref a1), .val (.ref a1), .val (.ref bv107), .val (.int (6 : Int32)), .val (.int (2 : Int32)), .val (.ref w1)]) rfl ?_
    show Steps p.tables e below (T115.setTop (mkF m 56 #[.val (.ref a1), .val (.ref a1), .val (.ref bv107), .val (.int (6 : Int32)), .val (.int (2 : Int32)), .val (.ref w1)] [])) _
    refine XS.goto X115.here hx rfl (pc0 := 56) (pc' := 26) rfl (hb hby d5_56) (by decide) (by decide) ?_
    show Steps p.tables e below (T115.setTop (mkF m 26 #[.val (.ref a1), .val (.ref a1), .val (.ref bv107), .val (.int (6 : Int32)), .val (.int (2 : Int32)), .val (.ref w1)] [])) _
    refine XS.iload X115.here hx rfl (hb hby d5_26) rfl ?_
    show Steps p.tables e below (T115.setTop (mkF m 28 #[.val (.ref a1), .val (.ref a1), .val (.ref bv107), .val (.int (6 : Int32)), .val (.int (2 : Int32)), .val (.ref w1)] [(.int (2 : Int32))])) _
    refine XS.iloadN X115.here hx rfl (hb hby d5_28) rfl ?_
    show Steps p.tables e below (T115.setTop (mkF m 29 #[.val (.ref a1), .val (.ref a1), .val (.ref bv107), .val (.int (6 : Int32)), .val (.int (2 : Int32)), .val (.ref w1)] [(.int (6 : Int32)), (.int (2 : Int32))])) _
    refine XS.icmpNo X115.here hx rfl (hb hby d5_29) rfl (tlt (by decide : (2 : Int32) < (6 : Int32))).2.1 ?_
    show Steps p.tables e below (T115.setTop (mkF m 32 #[.val (.ref a1), .val (.ref a1), .val (.ref bv107), .val (.int (6 : Int32)), .val (.int (2 : Int32)), .val (.ref w1)] [])) _
    refine XS.aloadN X115.here hx rfl (hb hby d5_32) rfl rfl ?_
    show Steps p.tables e below (T115.setTop (mkF m 33 #[.val (.ref a1), .val (.ref a1), .val (.ref bv107), .val (.int (6 : Int32)), .val (.int (2 : Int32)), .val (.ref w1)] [(.ref bv107)])) _
    refine XS.iload X115.here hx rfl (hb hby d5_33) rfl ?_
    show Steps p.tables e below (T115.setTop (mkF m 35 #[.val (.ref a1), .val (.ref a1), .val (.ref bv107), .val (.int (6 : Int32)), .val (.int (2 : Int32)), .val (.ref w1)] [(.int (2 : Int32)), (.ref bv107)])) _
    refine X115.aaload hx (j := (2 : Int32)) (v := (.ref w2)) (by rw [e115]; exact Ar_bv107_94.1) (State.isArrayOf_alike hZ101.alike Ar_bv107_94.2.1) rfl Ar_bv107_94.2.2 hinbv107_94 hatbv107_94 (g := (mkF m 35 #[.val (.ref a1), .val (.ref a1), .val (.ref bv107), .val (.int (6 : Int32)), .val (.int (2 : Int32)), .val (.ref w1)] [(.int (2 : Int32)), (.ref bv107)])) rfl rfl (hb hby d5_35) _ ?_
    show Steps p.tables e below (T115.setTop (mkF m 36 #[.val (.ref a1), .val (.ref a1), .val (.ref bv107), .val (.int (6 : Int32)), .val (.int (2 : Int32)), .val (.ref w1)] [(.ref w2)])) _
    refine XS.astore X115.here hx rfl (hb hby d5_36) rfl rfl (l' := #[.val (.ref a1), .val (.ref a1), .val (.ref bv107), .val (.int (6 : Int32)), .val (.int (2 : Int32)), .val (.ref w2)]) rfl ?_
    show Steps p.tables e below (T115.setTop (mkF m 38 #[.val (.ref a1), .val (.ref a1), .val (.ref bv107), .val (.int (6 : Int32)), .val (.int (2 : Int32)), .val (.ref w2)] [])) _
    refine XS.aload X115.here hx rfl (hb hby d5_38) rfl rfl ?_
    show Steps p.tables e below (T115.setTop (mkF m 40 #[.val (.ref a1), .val (.ref a1), .val (.ref bv107), .val (.int (6 : Int32)), .val (.int (2 : Int32)), .val (.ref w2)] [(.ref w2)])) _
    refine st116 _ ?_
    show Steps p.tables e below (T116.setTop (mkF m 43 #[.val (.ref a1), .val (.ref a1), .val (.ref bv107), .val (.int (6 : Int32)), .val (.int (2 : Int32)), .val (.ref w2)] [(.ref s2)])) _
    refine XS.aloadN X116.here hx rfl (hb hby d5_43) rfl rfl ?_
    show Steps p.tables e below (T116.setTop (mkF m 44 #[.val (.ref a1), .val (.ref a1), .val (.ref bv107), .val (.int (6 : Int32)), .val (.int (2 : Int32)), .val (.ref w2)] [(.ref a1), (.ref s2)])) _
    refine st117.trans ?_
    show Steps p.tables e below (T117.setTop (mkF m 47 #[.val (.ref a1), .val (.ref a1), .val (.ref bv107), .val (.int (6 : Int32)), .val (.int (2 : Int32)), .val (.ref w2)] [(.int (0 : Int32))])) _
    refine XS.ifYes X117.here hx rfl (pc0 := 47) (pc' := 53) rfl (hb hby d5_47) rfl ((if0 _ _).trans (teq (by decide : (0 : Int32) = (0 : Int32))).1) (by decide) (by decide) ?_
    show Steps p.tables e below (T117.setTop (mkF m 53 #[.val (.ref a1), .val (.ref a1), .val (.ref bv107), .val (.int (6 : Int32)), .val (.int (2 : Int32)), .val (.ref w2)] [])) _
    refine XS.iinc X117.here hx rfl (hb hby d5_53) rfl (l' := #[.val (.ref a1), .val (.ref a1), .val (.ref bv107), .val (.int (6 : Int32)), .val (.int (3 : Int32)), .val (.ref w2)]) rfl ?_
    show Steps p.tables e below (T117.setTop (mkF m 56 #[.val (.ref a1), .val (.ref a1), .val (.ref bv107), .val (.int (6 : Int32)), .val (.int (3 : Int32)), .val (.ref w2)] [])) _
    refine XS.goto X117.here hx rfl (pc0 := 56) (pc' := 26) rfl (hb hby d5_56) (by decide) (by decide) ?_
    show Steps p.tables e below (T117.setTop (mkF m 26 #[.val (.ref a1), .val (.ref a1), .val (.ref bv107), .val (.int (6 : Int32)), .val (.int (3 : Int32)), .val (.ref w2)] [])) _
    refine XS.iload X117.here hx rfl (hb hby d5_26) rfl ?_
    show Steps p.tables e below (T117.setTop (mkF m 28 #[.val (.ref a1), .val (.ref a1), .val (.ref bv107), .val (.int (6 : Int32)), .val (.int (3 : Int32)), .val (.ref w2)] [(.int (3 : Int32))])) _
    refine XS.iloadN X117.here hx rfl (hb hby d5_28) rfl ?_
    show Steps p.tables e below (T117.setTop (mkF m 29 #[.val (.ref a1), .val (.ref a1), .val (.ref bv107), .val (.int (6 : Int32)), .val (.int (3 : Int32)), .val (.ref w2)] [(.int (6 : Int32)), (.int (3 : Int32))])) _
    refine XS.icmpNo X117.here hx rfl (hb hby d5_29) rfl (tlt (by decide : (3 : Int32) < (6 : Int32))).2.1 ?_
    show Steps p.tables e below (T117.setTop (mkF m 32 #[.val (.ref a1), .val (.ref a1), .val (.ref bv107), .val (.int (6 : Int32)), .val (.int (3 : Int32)), .val (.ref w2)] [])) _
    refine XS.aloadN X117.here hx rfl (hb hby d5_32) rfl rfl ?_
    show Steps p.tables e below (T117.setTop (mkF m 33 #[.val (.ref a1), .val (.ref a1), .val (.ref bv107), .val (.int (6 : Int32)), .val (.int (3 : Int32)), .val (.ref w2)] [(.ref bv107)])) _
    refine XS.iload X117.here hx rfl (hb hby d5_33) rfl ?_
    show Steps p.tables e below (T117.setTop (mkF m 35 #[.val (.ref a1), .val (.ref a1), .val (.ref bv107), .val (.int (6 : Int32)), .val (.int (3 : Int32)), .val (.ref w2)] [(.int (3 : Int32)), (.ref bv107)])) _
    refine X117.aaload hx (j := (3 : Int32)) (v := (.ref w3)) (by rw [e117]; exact Ar_bv107_122.1) (State.isArrayOf_alike hZ101.alike Ar_bv107_122.2.1) rfl Ar_bv107_122.2.2 hinbv107_122 hatbv107_122 (g := (mkF m 35 #[.val (.ref a1), .val (.ref a1), .val (.ref bv107), .val (.int (6 : Int32)), .val (.int (3 : Int32)), .val (.ref w2)] [(.int (3 : Int32)), (.ref bv107)])) rfl rfl (hb hby d5_35) _ ?_
    show Steps p.tables e below (T117.setTop (mkF m 36 #[.val (.ref a1), .val (.ref a1), .val (.ref bv107), .val (.int (6 : Int32)), .val (.int (3 : Int32)), .val (.ref w2)] [(.ref w3)])) _
    refine XS.astore X117.here hx rfl (hb hby d5_36) rfl rfl (l' := #[.val (.ref a1), .val (.ref a1), .val (.ref bv107), .val (.int (6 : Int32)), .val (.int (3 : Int32)), .val (.ref w3)]) rfl ?_
    show Steps p.tables e below (T117.setTop (mkF m 38 #[.val (.ref a1), .val (.ref a1), .val (.ref bv107), .val (.int (6 : Int32)), .val (.int (3 : Int32)), .val (.ref w3)] [])) _
    refine XS.aload X117.here hx rfl (hb hby d5_38) rfl rfl ?_
    show Steps p.tables e below (T117.setTop (mkF m 40 #[.val (.ref a1), .val (.ref a1), .val (.ref bv107), .val (.int (6 : Int32)), .val (.int (3 : Int32)), .val (.ref w3)] [(.ref w3)])) _
    refine st118 _ ?_
    show Steps p.tables e below (T118.setTop (mkF m 43 #[.val (.ref a1), .val (.ref a1), .val (.ref bv107), .val (.int (6 : Int32)), .val (.int (3 : Int32)), .val (.ref w3)] [(.ref s3)])) _
    refine XS.aloadN X118.here hx rfl (hb hby d5_43) rfl rfl ?_
    show Steps p.tables e below (T118.setTop (mkF m 44 #[.val (.ref a1), .val (.ref a1), .val (.ref bv107), .val (.int (6 : Int32)), .val (.int (3 : Int32)), .val (.ref w3)] [(.ref a1), (.ref s3)])) _
    refine st119.trans ?_
    show Steps p.tables e below (T119.setTop (mkF m 47 #[.val (.ref a1), .val (.ref a1), .val (.ref bv107), .val (.int (6 : Int32)), .val (.int (3 : Int32)), .val (.ref w3)] [(.int (0 : Int32))])) _
    refine XS.ifYes X119.here hx rfl (pc0 := 47) (pc' := 53) rfl (hb hby d5_47) rfl ((if0 _ _).trans (teq (by decide : (0 : Int32) = (0 : Int32))).1) (by decide) (by decide) ?_
    show Steps p.tables e below (T119.setTop (mkF m 53 #[.val (.ref a1), .val (.ref a1), .val (.ref bv107), .val (.int (6 : Int32)), .val (.int (3 : Int32)), .val (.ref w3)] [])) _
    refine XS.iinc X119.here hx rfl (hb hby d5_53) rfl (l' := #[.val (.ref a1), .val (.ref a1), .val (.ref bv107), .val (.int (6 : Int32)), .val (.int (4 : Int32)), .val (.ref w3)]) rfl ?_
    show Steps p.tables e below (T119.setTop (mkF m 56 #[.val (.ref a1), .val (.ref a1), .val (.ref bv107), .val (.int (6 : Int32)), .val (.int (4 : Int32)), .val (.ref w3)] [])) _
    refine XS.goto X119.here hx rfl (pc0 := 56) (pc' := 26) rfl (hb hby d5_56) (by decide) (by decide) ?_
    show Steps p.tables e below (T119.setTop (mkF m 26 #[.val (.ref a1), .val (.ref a1), .val (.ref bv107), .val (.int (6 : Int32)), .val (.int (4 : Int32)), .val (.ref w3)] [])) _
    refine XS.iload X119.here hx rfl (hb hby d5_26) rfl ?_
    show Steps p.tables e below (T119.setTop (mkF m 28 #[.val (.ref a1), .val (.ref a1), .val (.ref bv107), .val (.int (6 : Int32)), .val (.int (4 : Int32)), .val (.ref w3)] [(.int (4 : Int32))])) _
    refine XS.iloadN X119.here hx rfl (hb hby d5_28) rfl ?_
    show Steps p.tables e below (T119.setTop (mkF m 29 #[.val (.ref a1), .val (.ref a1), .val (.ref bv107), .val (.int (6 : Int32)), .val (.int (4 : Int32)), .val (.ref w3)] [(.int (6 : Int32)), (.int (4 : Int32))])) _
    refine XS.icmpNo X119.here hx rfl (hb hby d5_29) rfl (tlt (by decide : (4 : Int32) < (6 : Int32))).2.1 ?_
    show Steps p.tables e below (T119.setTop (mkF m 32 #[.val (.ref a1), .val (.ref a1), .val (.ref bv107), .val (.int (6 : Int32)), .val (.int (4 : Int32)), .val (.ref w3)] [])) _
    refine XS.aloadN X119.here hx rfl (hb hby d5_32) rfl rfl ?_
    show Steps p.tables e below (T119.setTop (mkF m 33 #[.val (.ref a1), .val (.ref a1), .val (.ref bv107), .val (.int (6 : Int32)), .val (.int (4 : Int32)), .val (.ref w3)] [(.ref bv107)])) _
    refine XS.iload X119.here hx rfl (hb hby d5_33) rfl ?_
    show Steps p.tables e below (T119.setTop (mkF m 35 #[.val (.ref a1), .val (.ref a1), .val (.ref bv107), .val (.int (6 : Int32)), .val (.int (4 : Int32)), .val (.ref w3)] [(.int (4 : Int32)), (.ref bv107)])) _
    refine X119.aaload hx (j := (4 : Int32)) (v := (.ref w4)) (by rw [e119]; exact Ar_bv107_150.1) (State.isArrayOf_alike hZ101.alike Ar_bv107_150.2.1) rfl Ar_bv107_150.2.2 hinbv107_150 hatbv107_150 (g := (mkF m 35 #[.val (.ref a1), .val (.ref a1), .val (.ref bv107), .val (.int (6 : Int32)), .val (.int (4 : Int32)), .val (.ref w3)] [(.int (4 : Int32)), (.ref bv107)])) rfl rfl (hb hby d5_35) _ ?_
    show Steps p.tables e below (T119.setTop (mkF m 36 #[.val (.ref a1), .val (.ref a1), .val (.ref bv107), .val (.int (6 : Int32)), .val (.int (4 : Int32)), .val (.ref w3)] [(.ref w4)])) _
    refine XS.astore X119.here hx rfl (hb hby d5_36) rfl rfl (l' := #[.val (.ref a1), .val (.ref a1), .val (.ref bv107), .val (.int (6 : Int32)), .val (.int (4 : Int32)), .val (.ref w4)]) rfl ?_
    show Steps p.tables e below (T119.setTop (mkF m 38 #[.val (.ref a1), .val (.ref a1), .val (.ref bv107), .val (.int (6 : Int32)), .val (.int (4 : Int32)), .val (.ref w4)] [])) _
    refine XS.aload X119.here hx rfl (hb hby d5_38) rfl rfl ?_
    show Steps p.tables e below (T119.setTop (mkF m 40 #[.val (.ref a1), .val (.ref a1), .val (.ref bv107), .val (.int (6 : Int32)), .val (.int (4 : Int32)), .val (.ref w4)] [(.ref w4)])) _
    refine st120 _ ?_
    show Steps p.tables e below (T120.setTop (mkF m 43 #[.val (.ref a1), .val (.ref a1), .val (.ref bv107), .val (.int (6 : Int32)), .val (.int (4 : Int32)), .val (.ref w4)] [(.ref s4)])) _
    refine XS.aloadN X120.here hx rfl (hb hby d5_43) rfl rfl ?_
    show Steps p.tables e below (T120.setTop (mkF m 44 #[.val (.ref a1), .val (.ref a1), .val (.ref bv107), .val (.int (6 : Int32)), .val (.int (4 : Int32)), .val (.ref w4)] [(.ref a1), (.ref s4)])) _
    refine st121.trans ?_
    show Steps p.tables e below (T121.setTop (mkF m 47 #[.val (.ref a1), .val (.ref a1), .val (.ref bv107), .val (.int (6 : Int32)), .val (.int (4 : Int32)), .val (.ref w4)] [(.int (0 : Int32))])) _
    refine XS.ifYes X121.here hx rfl (pc0 := 47) (pc' := 53) rfl (hb hby d5_47) rfl ((if0 _ _).trans (teq (by decide : (0 : Int32) = (0 : Int32))).1) (by decide) (by decide) ?_
    show Steps p.tables e below (T121.setTop (mkF m 53 #[.val (.ref a1), .val (.ref a1), .val (.ref bv107), .val (.int (6 : Int32)), .val (.int (4 : Int32)), .val (.ref w4)] [])) _
    refine XS.iinc X121.here hx rfl (hb hby d5_53) rfl (l' := #[.val (.ref a1), .val (.ref a1), .val (.ref bv107), .val (.int (6 : Int32)), .val (.int (5 : Int32)), .val (.ref w4)]) rfl ?_
    show Steps p.tables e below (T121.setTop (mkF m 56 #[.val (.ref a1), .val (.ref a1), .val (.ref bv107), .val (.int (6 : Int32)), .val (.int (5 : Int32)), .val (.ref w4)] [])) _
    refine XS.goto X121.here hx rfl (pc0 := 56) (pc' := 26) rfl (hb hby d5_56) (by decide) (by decide) ?_
    show Steps p.tables e below (T121.setTop (mkF m 26 #[.val (.ref a1), .val (.ref a1), .val (.ref bv107), .val (.int (6 : Int32)), .val (.int (5 : Int32)), .val (.ref w4)] [])) _
    refine XS.iload X121.here hx rfl (hb hby d5_26) rfl ?_
    show Steps p.tables e below (T121.setTop (mkF m 28 #[.val (.ref a1), .val (.ref a1), .val (.ref bv107), .val (.int (6 : Int32)), .val (.int (5 : Int32)), .val (.ref w4)] [(.int (5 : Int32))])) _
    refine XS.iloadN X121.here hx rfl (hb hby d5_28) rfl ?_
    show Steps p.tables e below (T121.setTop (mkF m 29 #[.val (.ref a1), .val (.ref a1), .val (.ref bv107), .val (.int (6 : Int32)), .val (.int (5 : Int32)), .val (.ref w4)] [(.int (6 : Int32)), (.int (5 : Int32))])) _
    refine XS.icmpNo X121.here hx rfl (hb hby d5_29) rfl (tlt (by decide : (5 : Int32) < (6 : Int32))).2.1 ?_
    show Steps p.tables e below (T121.setTop (mkF m 32 #[.val (.ref a1), .val (.ref a1), .val (.ref bv107), .val (.int (6 : Int32)), .val (.int (5 : Int32)), .val (.ref w4)] [])) _
    refine XS.aloadN X121.here hx rfl (hb hby d5_32) rfl rfl ?_
    show Steps p.tables e below (T121.setTop (mkF m 33 #[.val (.ref a1), .val (.ref a1), .val (.ref bv107), .val (.int (6 : Int32)), .val (.int (5 : Int32)), .val (.ref w4)] [(.ref bv107)])) _
    refine XS.iload X121.here hx rfl (hb hby d5_33) rfl ?_
    show Steps p.tables e below (T121.setTop (mkF m 35 #[.val (.ref a1), .val (.ref a1), .val (.ref bv107), .val (.int (6 : Int32)), .val (.int (5 : Int32)), .val (.ref w4)] [(.int (5 : Int32)), (.ref bv107)])) _
    refine X121.aaload hx (j := (5 : Int32)) (v := (.ref w5)) (by rw [e121]; exact Ar_bv107_178.1) (State.isArrayOf_alike hZ101.alike Ar_bv107_178.2.1) rfl Ar_bv107_178.2.2 hinbv107_178 hatbv107_178 (g := (mkF m 35 #[.val (.ref a1), .val (.ref a1), .val (.ref bv107), .val (.int (6 : Int32)), .val (.int (5 : Int32)), .val (.ref w4)] [(.int (5 : Int32)), (.ref bv107)])) rfl rfl (hb hby d5_35) _ ?_
    show Steps p.tables e below (T121.setTop (mkF m 36 #[.val (.ref a1), .val (.ref a1), .val (.ref bv107), .val (.int (6 : Int32)), .val (.int (5 : Int32)), .val (.ref w4)] [(.ref w5)])) _
    refine XS.astore X121.here hx rfl (hb hby d5_36) rfl rfl (l' := #[.val (.ref a1), .val (.ref a1), .val (.ref bv107), .val (.int (6 : Int32)), .val (.int (5 : Int32)), .val (.ref w5)]) rfl ?_
    show Steps p.tables e below (T121.setTop (mkF m 38 #[.val (.ref a1), .val (.ref a1), .val (.ref bv107), .val (.int (6 : Int32)), .val (.int (5 : Int32)), .val (.ref w5)] [])) _
    refine XS.aload X121.here hx rfl (hb hby d5_38) rfl rfl ?_
    show Steps p.tables e below (T121.setTop (mkF m 40 #[.val (.ref a1), .val (.ref a1), .val (.ref bv107), .val (.int (6 : Int32)), .val (.int (5 : Int32)), .val (.ref w5)] [(.ref w5)])) _
    refine st122 _ ?_
    show Steps p.tables e below (T122.setTop (mkF m 43 #[.val (.ref a1), .val (.ref a1), .val (.ref bv107), .val (.int (6 : Int32)), .val (.int (5 : Int32)), .val (.ref w5)] [(.ref s5)])) _
    refine XS.aloadN X122.here hx rfl (hb hby d5_43) rfl rfl ?_
    show Steps p.tables e below (T122.setTop (mkF m 44 #[.val (.ref a1), .val (.ref a1), .val (.ref bv107), .val (.int (6 : Int32)), .val (.int (5 : Int32)), .val (.ref w5)] [(.ref a1), (.ref s5)])) _
    refine st123.trans ?_
    show Steps p.tables e below (T123.setTop (mkF m 47 #[.val (.ref a1), .val (.ref a1), .val (.ref bv107), .val (.int (6 : Int32)), .val (.int (5 : Int32)), .val (.ref w5)] [(.int (0 : Int32))])) _
    refine XS.ifYes X123.here hx rfl (pc0 := 47) (pc' := 53) rfl (hb hby d5_47) rfl ((if0 _ _).trans (teq (by decide : (0 : Int32) = (0 : Int32))).1) (by decide) (by decide) ?_
    show Steps p.tables e below (T123.setTop (mkF m 53 #[.val (.ref a1), .val (.ref a1), .val (.ref bv107), .val (.int (6 : Int32)), .val (.int (5 : Int32)), .val (.ref w5)] [])) _
    refine XS.iinc X123.here hx rfl (hb hby d5_53) rfl (l' := #[.val (.ref a1), .val (.ref a1), .val (.ref bv107), .val (.int (6 : Int32)), .val (.int (6 : Int32)), .val (.ref w5)]) rfl ?_
    show Steps p.tables e below (T123.setTop (mkF m 56 #[.val (.ref a1), .val (.ref a1), .val (.ref bv107), .val (.int (6 : Int32)), .val (.int (6 : Int32)), .val (.ref w5)] [])) _
    refine XS.goto X123.here hx rfl (pc0 := 56) (pc' := 26) rfl (hb hby d5_56) (by decide) (by decide) ?_
    show Steps p.tables e below (T123.setTop (mkF m 26 #[.val (.ref a1), .val (.ref a1), .val (.ref bv107), .val (.int (6 : Int32)), .val (.int (6 : Int32)), .val (.ref w5)] [])) _
    refine XS.iload X123.here hx rfl (hb hby d5_26) rfl ?_
    show Steps p.tables e below (T123.setTop (mkF m 28 #[.val (.ref a1), .val (.ref a1), .val (.ref bv107), .val (.int (6 : Int32)), .val (.int (6 : Int32)), .val (.ref w5)] [(.int (6 : Int32))])) _
    refine XS.iloadN X123.here hx rfl (hb hby d5_28) rfl ?_
    show Steps p.tables e below (T123.setTop (mkF m 29 #[.val (.ref a1), .val (.ref a1), .val (.ref bv107), .val (.int (6 : Int32)), .val (.int (6 : Int32)), .val (.ref w5)] [(.int (6 : Int32)), (.int (6 : Int32))])) _
    refine XS.icmpYes X123.here hx rfl (pc0 := 29) (pc' := 59) rfl (hb hby d5_29) rfl (flt (by decide : ¬ ((6 : Int32) < (6 : Int32)))).2.1 (by decide) (by decide) ?_
    show Steps p.tables e below (T123.setTop (mkF m 59 #[.val (.ref a1), .val (.ref a1), .val (.ref bv107), .val (.int (6 : Int32)), .val (.int (6 : Int32)), .val (.ref w5)] [])) _
    refine XS.aconstNull X123.here hx rfl (hb hby d5_59) ?_
    show Steps p.tables e below (T123.setTop (mkF m 60 #[.val (.ref a1), .val (.ref a1), .val (.ref bv107), .val (.int (6 : Int32)), .val (.int (6 : Int32)), .val (.ref w5)] [.null])) _
    jvm_step X123.here [X123.here.top, hx, (hb hby d5_60), X123.method', Bd.returns, Value.isRef, FieldType.isReference]
    first | (intro acts; rw [hr _ acts rfl rfl rfl]) | rw [hr _ _ rfl rfl rfl]
    exact Steps.refl _
  · show Q5 .null h0 n0 _ T123.heap _
    rw [e123]
    exact ⟨rfl, N123, KK107⟩
theorem rm5 (l : Launch) (Z : State) (a0 : Array Value) (hw : ∀ d ∈ tables_1, d.before a0 Z = true) (ws : List Jvm.Cond) (G1 : Int32) (kV : ClassId) (wV w0 w1 w2 w3 w4 w5 : Addr) (s0 s1 s2 s3 s4 s5 : Addr) (a1 : Addr) (cs : List Int32) (r : Value) (h0 : Heap) (n0 : Nat) (O0 : Old Z n0 h0) (S_CS : Sta Z Z.heap "java/lang/String" "COMPACT_STRINGS" "Z" (.int G1)) (hG1 : ¬ (G1 = (0 : Int32))) (S_V : Sta Z Z.heap "com/example/plugroot/plugroot/sql/Comparison" "$VALUES" "[Lcom/example/plugroot/plugroot/sql/Comparison;" (.ref wV)) (A_V : Arv Z Z.heap wV kV (.object "com/example/plugroot/plugroot/sql/Comparison") (6 : Int32) [(.ref w0), (.ref w1), (.ref w2), (.ref w3), (.ref w4), (.ref w5)] .null) (E_V : Exa Z Z.heap wV "[Lcom/example/plugroot/plugroot/sql/Comparison;") (M0 : Fld Z Z.heap w0 "com/example/plugroot/plugroot/sql/Comparison" "symbol" "Ljava/lang/String;" (.ref s0)) (M1 : Fld Z Z.heap w1 "com/example/plugroot/plugroot/sql/Comparison" "symbol" "Ljava/lang/String;" (.ref s1)) (M2 : Fld Z Z.heap w2 "com/example/plugroot/plugroot/sql/Comparison" "symbol" "Ljava/lang/String;" (.ref s2)) (M3 : Fld Z Z.heap w3 "com/example/plugroot/plugroot/sql/Comparison" "symbol" "Ljava/lang/String;" (.ref s3)) (M4 : Fld Z Z.heap w4 "com/example/plugroot/plugroot/sql/Comparison" "symbol" "Ljava/lang/String;" (.ref s4)) (M5 : Fld Z Z.heap w5 "com/example/plugroot/plugroot/sql/Comparison" "symbol" "Ljava/lang/String;" (.ref s5)) (T0 : Str Z Z.heap s0 ([(61 : Int32)] : List Int32)) (T1 : Str Z Z.heap s1 ([(60 : Int32), (62 : Int32)] : List Int32)) (T2 : Str Z Z.heap s2 ([(60 : Int32)] : List Int32)) (T3 : Str Z Z.heap s3 ([(62 : Int32)] : List Int32)) (T4 : Str Z Z.heap s4 ([(60 : Int32), (61 : Int32)] : List Int32)) (T5 : Str Z Z.heap s5 ([(62 : Int32), (61 : Int32)] : List Int32)) (T : Str Z h0 a1 cs) (hr : r = specF w0 w1 w2 w3 w4 w5 cs) :
    MetFree l (⟨"com/example/plugroot/plugroot/sql/Comparison", "of", "(Ljava/lang/String;)Lcom/example/plugroot/plugroot/sql/Comparison;"⟩ : MethodName) (head1 (Jvm.Cond.code (⟨"com/example/plugroot/plugroot/sql/Comparison", "of", "(Ljava/lang/String;)Lcom/example/plugroot/plugroot/sql/Comparison;"⟩ : MethodName) prog_73_method_4_code 6 (some (.object "com/example/plugroot/plugroot/sql/Comparison")) :: ws) ({ frames := 2, cells := 5, slots := 30, locals := 28 } : Room)) (fun a_ U => a_ = #[(.ref a1)] ∧ Z.Warmed39 U.vm ∧ U.heap = h0 ∧ CHv Z consts_1 U.vm h0) (fun _ _ _ _ _ => True) (fun _ U o U' => ∃ v L, o = .returned v ∧ Q5 r h0 n0 v U'.heap L ∧ CHr Z consts_1 U.vm U.heap U'.vm U'.heap ∧ ReturnedEndW U o U' L ({ frames := 2, cells := 5, slots := 30, locals := 28 } : Room).cells ({ frames := 2, cells := 5, slots := 30, locals := 28 } : Room).slots) := by
  by_cases hbg : cs = [33, 61]
  · obtain rfl : r = .ref w1 := by rw [hr]; unfold specF; rw [if_pos hbg]
    exact rm5_x l Z a0 hw ws G1 kV wV w0 w1 w2 w3 w4 w5 s0 s1 s2 s3 s4 s5 a1 cs h0 n0 O0 S_CS hG1 S_V A_V E_V M0 M1 M2 M3 M4 M5 T0 T1 T2 T3 T4 T5 T hbg
  by_cases g0_ : cs = [61]
  · obtain rfl : r = .ref w0 := by rw [hr]; unfold specF; rw [if_neg hbg, if_pos g0_]
    exact rm5_0 l Z a0 hw ws G1 kV wV w0 w1 w2 w3 w4 w5 s0 s1 s2 s3 s4 s5 a1 cs h0 n0 O0 S_CS hG1 S_V A_V E_V M0 M1 M2 M3 M4 M5 T0 T1 T2 T3 T4 T5 T hbg g0_
  by_cases g1_ : cs = [60, 62]
  · obtain rfl : r = .ref w1 := by rw [hr]; unfold specF; rw [if_neg hbg, if_neg g0_, if_pos g1_]
    exact rm5_1 l Z a0 hw ws G1 kV wV w0 w1 w2 w3 w4 w5 s0 s1 s2 s3 s4 s5 a1 cs h0 n0 O0 S_CS hG1 S_V A_V E_V M0 M1 M2 M3 M4 M5 T0 T1 T2 T3 T4 T5 T hbg g0_ g1_
  by_cases g2_ : cs = [60]
  · obtain rfl : r = .ref w2 := by rw [hr]; unfold specF; rw [if_neg hbg, if_neg g0_, if_neg g1_, if_pos g2_]
    exact rm5_2 l Z a0 hw ws G1 kV wV w0 w1 w2 w3 w4 w5 s0 s1 s2 s3 s4 s5 a1 cs h0 n0 O0 S_CS hG1 S_V A_V E_V M0 M1 M2 M3 M4 M5 T0 T1 T2 T3 T4 T5 T hbg g0_ g1_ g2_
  by_cases g3_ : cs = [62]
  · obtain rfl : r = .ref w3 := by rw [hr]; unfold specF; rw [if_neg hbg, if_neg g0_, if_neg g1_, if_neg g2_, if_pos g3_]
    exact rm5_3 l Z a0 hw ws G1 kV wV w0 w1 w2 w3 w4 w5 s0 s1 s2 s3 s4 s5 a1 cs h0 n0 O0 S_CS hG1 S_V A_V E_V M0 M1 M2 M3 M4 M5 T0 T1 T2 T3 T4 T5 T hbg g0_ g1_ g2_ g3_
  by_cases g4_ : cs = [60, 61]
  · obtain rfl : r = .ref w4 := by rw [hr]; unfold specF; rw [if_neg hbg, if_neg g0_, if_neg g1_, if_neg g2_, if_neg g3_, if_pos g4_]
    exact rm5_4 l Z a0 hw ws G1 kV wV w0 w1 w2 w3 w4 w5 s0 s1 s2 s3 s4 s5 a1 cs h0 n0 O0 S_CS hG1 S_V A_V E_V M0 M1 M2 M3 M4 M5 T0 T1 T2 T3 T4 T5 T hbg g0_ g1_ g2_ g3_ g4_
  by_cases g5_ : cs = [62, 61]
  · obtain rfl : r = .ref w5 := by rw [hr]; unfold specF; rw [if_neg hbg, if_neg g0_, if_neg g1_, if_neg g2_, if_neg g3_, if_neg g4_, if_pos g5_]
    exact rm5_5 l Z a0 hw ws G1 kV wV w0 w1 w2 w3 w4 w5 s0 s1 s2 s3 s4 s5 a1 cs h0 n0 O0 S_CS hG1 S_V A_V E_V M0 M1 M2 M3 M4 M5 T0 T1 T2 T3 T4 T5 T hbg g0_ g1_ g2_ g3_ g4_ g5_
  · obtain rfl : r = .null := by rw [hr]; unfold specF; rw [if_neg hbg, if_neg g0_, if_neg g1_, if_neg g2_, if_neg g3_, if_neg g4_, if_neg g5_]
    exact rm5_6 l Z a0 hw ws G1 kV wV w0 w1 w2 w3 w4 w5 s0 s1 s2 s3 s4 s5 a1 cs h0 n0 O0 S_CS hG1 S_V A_V E_V M0 M1 M2 M3 M4 M5 T0 T1 T2 T3 T4 T5 T hbg g0_ g1_ g2_ g3_ g4_ g5_
def QE (Z : State) (x : Addr) (h0 : Heap) (n0 : Nat) (v : Option Value) (h : Heap) (L : List Loc) : Prop := v = none ∧ Fr n0 L ∧ Keep h0 h [x] ∧ Str Z h x []
theorem d3_0 : decode jdk_42_method_149_code 0 = .ok (.aload_n 0, 1) := by decide +kernel
theorem d3_1 : decode jdk_42_method_149_code 1 = .ok (.invokespecial 1, 3) := by decide +kernel
theorem d3_4 : decode jdk_42_method_149_code 4 = .ok (.iload_n 3, 1) := by decide +kernel
theorem d3_5 : decode jdk_42_method_149_code 5 = .ok (.ifCond .ne 22, 3) := by decide +kernel
theorem d3_8 : decode jdk_42_method_149_code 8 = .ok (.aload_n 0, 1) := by decide +kernel
theorem d3_9 : decode jdk_42_method_149_code 9 = .ok (.ldc 7, 2) := by decide +kernel
theorem d3_11 : decode jdk_42_method_149_code 11 = .ok (.getfield 9, 3) := by decide +kernel
theorem d3_14 : decode jdk_42_method_149_code 14 = .ok (.putfield 9, 3) := by decide +kernel
theorem d3_17 : decode jdk_42_method_149_code 17 = .ok (.aload_n 0, 1) := by decide +kernel
theorem d3_18 : decode jdk_42_method_149_code 18 = .ok (.ldc 7, 2) := by decide +kernel
theorem d3_20 : decode jdk_42_method_149_code 20 = .ok (.getfield 15, 3) := by decide +kernel
theorem d3_23 : decode jdk_42_method_149_code 23 = .ok (.putfield 15, 3) := by decide +kernel
theorem d3_26 : decode jdk_42_method_149_code 26 = .ok (.return_, 1) := by decide +kernel
theorem ef_RRIIN_6 (m : MethodId) (x0 : Addr) (x1 : Addr) (x2 : Int32) (x3 : Int32) : entryFrame m #[(.ref x0), (.ref x1), (.int x2), (.int x3), .null] 6 = mkF m 0 #[.val (.ref x0), .val (.ref x1), .val (.int x2), .val (.int x3), .val .null, .unset] [] := by first | (simp [entryFrame, mkF, argsToLocals, Value.category]; done) | rfl
theorem pn_2 : plainName "java/lang/String" = true := by first | (simp [plainName, overriddenIn]; done) | decide +kernel
set_option maxRecDepth 65536 in
set_option maxHeartbeats 40000000 in
theorem rm3 (l : Launch) (Z : State) (a0 : Array Value) (hw : ∀ d ∈ tables_1, d.before a0 Z = true) (ws : List Jvm.Cond) (x b : Addr) (p2 : Int32) (h0 : Heap) (n0 : Nat) (O0 : Old Z n0 h0) (E : Exa Z h0 x "java/lang/String") (F1 : Fld Z h0 x "java/lang/String" "value" "[B" .null) (F2 : Fld Z h0 x "java/lang/String" "coder" "B" (.int (0 : Int32))) (gx : n0 ≤ x) :
    MetFree l (⟨"java/lang/String", "<init>", "([CIILjava/lang/Void;)V"⟩ : MethodName) (head1 (Jvm.Cond.code (⟨"java/lang/String", "<init>", "([CIILjava/lang/Void;)V"⟩ : MethodName) jdk_42_method_149_code 6 none :: ws) ({ frames := 1, cells := 4, slots := 8, locals := 12 } : Room)) (fun a_ U => a_ = #[(.ref x), (.ref b), (.int p2), (.int (0 : Int32)), .null] ∧ Z.Warmed39 U.vm ∧ U.heap = h0 ∧ CHv Z consts_1 U.vm h0) (fun _ _ _ _ _ => True) (fun _ U o U' => ∃ v L, o = .returned v ∧ QE Z x h0 n0 v U'.heap L ∧ CHr Z consts_1 U.vm U.heap U'.vm U'.heap ∧ ReturnedEndW U o U' L ({ frames := 1, cells := 4, slots := 8, locals := 12 } : Room).cells ({ frames := 1, cells := 4, slots := 8, locals := 12 } : Room).slots) := by
  refine MetFree.of_bodySF (plainFor_of_name pn_2) hisR ?_
  intro p e s m args below meth c s₁ Bd hml0 hP hK
  obtain ⟨rfl, hZ, hh, hC⟩ := hP
  have hx := Bd.exec
  have hby := Bd.bytes
  have hml : c.maxLocals = 6 := hml0
  have hown : s.vm.findClass "java/lang/String" = some m.cls := findClass_of_methodNamed Bd.named
  have hnm := (name_of_methodNamed Bd.named Bd.method).1
  have X0 : Stand p l e ({ frames := 1, cells := 4, slots := 8, locals := 12 } : Room) (s.setVm s.vm) m #[(.ref x), (.ref b), (.int p2), (.int (0 : Int32)), .null] below meth c s₁ [] 0 0 := Stand.of_body Bd
  have e0 : s₁.heap = h0 := by rw [← hh, Bd.state]; rfl
  have N0 := Fr.nil n0
  have pre0 : ∀ tg, Steps p.tables e below (s₁.setTop (mkF m 0 #[.val (.ref x), .val (.ref b), .val (.int p2), .val (.int (0 : Int32)), .val .null, .unset] [])) tg → Steps p.tables e below (s₁.setTop (entryFrame m #[(.ref x), (.ref b), (.int p2), (.int (0 : Int32)), .null] 6)) tg := fun tg kq => castTop (ef_RRIIN_6 m x b p2 (0 : Int32)) kq
  have hS0 : s.Since s.vm h0.size := (State.WarmedH.refl s).since _
  have hk0 : h0.size ≤ h0.size := Nat.le_refl _
  have CR0 : CHr Z consts_1 s.vm h0 s.vm h0 := CHr.refl hC
  have sf : Safe Z consts_1 s.vm h0 x := own_safe0 hZ.alike E F1
  obtain ⟨T101, X101, e101, st101⟩ := initO X0 hx hZ hown (wi hw 15 rfl) (wi hw 16 rfl) (wi hw 17 rfl) e0 (g := (mkF m 1 #[.val (.ref x), .val (.ref b), .val (.int p2), .val (.int (0 : Int32)), .val .null, .unset] [(.ref x)])) rfl (by rw [hml]; rfl) rfl (hb hby d3_1) (by decide) (W := 0) (by show 2 * 0 + _ ≤ _; exact Nat.le_of_eq rfl) (by decide)
  obtain ⟨a102, T102, h102, k102, b102, kb102, X102, e102, E102, hS102, hk102, hZ102, hown102, lE102, lC102, lV102, lK102, la102, lb102, CS102, lL102, lne102, st102⟩ := ldcCH (s := s) (EL := consts_1) X101 hx hZ hown (wi hw 18 rfl) (fun d hd => hw d (own_strw d hd)) e101 hS0 hk0 (own_EW hw) (by decide) CR0.1 (vs := []) (z := (0 : Int32)) ⟨by decide, by decide⟩ (by decide) (by decide) (g := (mkF m 9 #[.val (.ref x), .val (.ref b), .val (.int p2), .val (.int (0 : Int32)), .val .null, .unset] [(.ref x)])) rfl (hb hby d3_9) (n := 0) (by decide) (by decide) (by decide) (by decide)
  have O102 := O0.ext E102
  have CR102 := CR0.trans CS102
  have KK102 : Keep h0 h102 [x] := (Keep.refl h0 [x]).ext E102
  have lcd102 : StrChars.Road.CodA ([] : List Int32) 0 (0 : Int32) [] := Or.inl ⟨rfl, rfl, rfl, by decide⟩
  have lhp102 : ∀ c ∈ ([] : List Int32), ¬ c < 0 ∧ ¬ (255 : Int32) < c := by decide
  obtain ⟨T103, X103, e103, st103⟩ := getF X102 hx hZ102 hown102 (host := "") (Or.inl (wi hw 24 rfl)) Via.refl e102 lV102 (g := (mkF m 11 #[.val (.ref x), .val (.ref b), .val (.int p2), .val (.int (0 : Int32)), .val .null, .unset] [(.ref a102), (.ref x)])) rfl rfl (hb hby d3_11)
  have fE_x_1_104 := (E.ext E102)
  have fString_value_1_105 := (F1.ext E102)
  obtain ⟨T106, h106, X106, e106, W106, st106⟩ := putF X103 hx hZ102 hown102 (host := "") (Or.inl (wi hw 24 rfl)) Via.refl e103 fString_value_1_105 fE_x_1_104 (Or.inr ⟨(wi hw 20 rfl), rfl, hnm⟩) (wi hw 6 rfl) (ty := (.array .byte)) (by decide) rfl rfl (g := (mkF m 14 #[.val (.ref x), .val (.ref b), .val (.int p2), .val (.int (0 : Int32)), .val .null, .unset] [(.ref b102), (.ref x)])) rfl rfl (hb hby d3_14)
  have Fw106 := fString_value_1_105.same W106
  have O106 := O102.wr W106 gx
  have CS106 := CHr.wr W106 (CS102.safe E.lt sf) CR102.1
  have CR106 := CR102.trans CS106
  have KK106 : Keep h0 h106 [x] := KK102.wr W106 (Or.inl (List.mem_of_getElem? (i := 0) rfl))
  have N106 := Fr.snoc X106 N0 gx
  obtain ⟨a107, T107, h107, k107, b107, kb107, X107, e107, E107, hS107, hk107, hZ107, hown107, lE107, lC107, lV107, lK107, la107, lb107, CS107, lL107, lne107, st107⟩ := ldcCH (s := s) (EL := consts_1) X106 hx hZ102 hown102 (wi hw 18 rfl) (fun d hd => hw d (own_strw d hd)) e106 hS102 (Nat.le_trans hk102 (Keep.of_wr W106).1) (own_EW hw) (by decide) CR106.1 (vs := []) (z := (0 : Int32)) ⟨by decide, by decide⟩ (by decide) (by decide) (g := (mkF m 18 #[.val (.ref x), .val (.ref b), .val (.int p2), .val (.int (0 : Int32)), .val .null, .unset] [(.ref x)])) rfl (hb hby d3_18) (n := 0) (by decide) (by decide) (by decide) (by decide)
  have O107 := O106.ext E107
  have CR107 := CR106.trans CS107
  have KK107 : Keep h0 h107 [x] := KK106.ext E107
  have lcd107 : StrChars.Road.CodA ([] : List Int32) 0 (0 : Int32) [] := Or.inl ⟨rfl, rfl, rfl, by decide⟩
  have lhp107 : ∀ c ∈ ([] : List Int32), ¬ c < 0 ∧ ¬ (255 : Int32) < c := by decide
  obtain ⟨T108, X108, e108, st108⟩ := getF X107 hx hZ107 hown107 (host := "") (Or.inl (wi hw 25 rfl)) Via.refl e107 lC107 (g := (mkF m 20 #[.val (.ref x), .val (.ref b), .val (.int p2), .val (.int (0 : Int32)), .val .null, .unset] [(.ref a107), (.ref x)])) rfl rfl (hb hby d3_20)
  have fE_x_3_109 := ((fE_x_1_104.wr W106).ext E107)
  have fString_coder_3_110 := (((F2.ext E102).other W106 (Or.inr (slot_ne (Or.inr (wi hw 21 rfl)) (Or.inr (wi hw 20 rfl)) (by decide) (t := .byte) (t' := (.array .byte)) (by decide) (by decide)))).ext E107)
  obtain ⟨T111, h111, X111, e111, W111, st111⟩ := putF X108 hx hZ107 hown107 (host := "") (Or.inl (wi hw 25 rfl)) Via.refl e108 fString_coder_3_110 fE_x_3_109 (Or.inr ⟨(wi hw 21 rfl), rfl, hnm⟩) (wi hw 6 rfl) (ty := .byte) (by decide) rfl rfl (g := (mkF m 23 #[.val (.ref x), .val (.ref b), .val (.int p2), .val (.int (0 : Int32)), .val .null, .unset] [(.int (0 : Int32)), (.ref x)])) rfl rfl (hb hby d3_23)
  have Fw111 := fString_coder_3_110.same W111
  have O111 := O107.wr W111 gx
  have CS111 := CHr.wr W111 (CS107.safe (fE_x_1_104.wr W106).lt (CS106.safe fE_x_1_104.lt (CS102.safe E.lt sf))) CR107.1
  have CR111 := CR107.trans CS111
  have KK111 : Keep h0 h111 [x] := KK107.wr W111 (Or.inl (List.mem_of_getElem? (i := 0) rfl))
  have N111 := Fr.snoc X111 N106 gx
  have fString_value_4_112 := ((Fw106.ext E107).other W111 (Or.inr (slot_ne (Or.inr (wi hw 20 rfl)) (Or.inr (wi hw 21 rfl)) (by decide) (t := (.array .byte)) (t' := .byte) (by decide) (by decide))))
  have fE_x_4_113 := (fE_x_3_109.wr W111)
  have fV_b102_4_114 := (((lK102.other W106 (Ne.symm (lne102 x (CS102.safe E.lt sf)).2)).ext E107).other W111 (Ne.symm (lne102 x (CS102.safe E.lt sf)).2))
  obtain ⟨fs, hr, hrun, hended, hREW⟩ := X111.leaveW hS107 (by rw [e111]; exact (Nat.le_trans hk107 (Keep.of_wr W111).1)) (v := none) (fun _ => rfl)
  refine ⟨_, _, pre0 _ ?_, hrun, hended, _, _, rfl, ?_, (by rw [hh]; show CHr Z consts_1 s.vm h0 T111.vm T111.heap; rw [e111]; exact CR111.trans (CHv.at X111 hZ107 (own_EW hw) CR111.1)), hREW.1, hREW.2.1, hREW.2.2.1, hREW.2.2.2.mono (by decide) (by decide)⟩
  · show Steps p.tables e below (s₁.setTop (mkF m 0 #[.val (.ref x), .val (.ref b), .val (.int p2), .val (.int (0 : Int32)), .val .null, .unset] [])) _
    refine XS.aloadN X0.here hx rfl (hb hby d3_0) rfl rfl ?_
    show Steps p.tables e below (s₁.setTop (mkF m 1 #[.val (.ref x), .val (.ref b), .val (.int p2), .val (.int (0 : Int32)), .val .null, .unset] [(.ref x)])) _
    refine st101 _ ?_
    show Steps p.tables e below (T101.setTop (mkF m 4 #[.val (.ref x), .val (.ref b), .val (.int p2), .val (.int (0 : Int32)), .val .null, .unset] [])) _
    refine XS.iloadN X101.here hx rfl (hb hby d3_4) rfl ?_
    show Steps p.tables e below (T101.setTop (mkF m 5 #[.val (.ref x), .val (.ref b), .val (.int p2), .val (.int (0 : Int32)), .val .null, .unset] [(.int (0 : Int32))])) _
    refine XS.ifNo X101.here hx rfl (hb hby d3_5) rfl ((if0 _ _).trans (teq (by decide : (0 : Int32) = (0 : Int32))).2) ?_
    show Steps p.tables e below (T101.setTop (mkF m 8 #[.val (.ref x), .val (.ref b), .val (.int p2), .val (.int (0 : Int32)), .val .null, .unset] [])) _
    refine XS.aloadN X101.here hx rfl (hb hby d3_8) rfl rfl ?_
    show Steps p.tables e below (T101.setTop (mkF m 9 #[.val (.ref x), .val (.ref b), .val (.int p2), .val (.int (0 : Int32)), .val .null, .unset] [(.ref x)])) _
    refine st102 _ ?_
    show Steps p.tables e below (T102.setTop (mkF m 11 #[.val (.ref x), .val (.ref b), .val (.int p2), .val (.int (0 : Int32)), .val .null, .unset] [(.ref a102), (.ref x)])) _
    refine st103 _ ?_
    show Steps p.tables e below (T103.setTop (mkF m 14 #[.val (.ref x), .val (.ref b), .val (.int p2), .val (.int (0 : Int32)), .val .null, .unset] [(.ref b102), (.ref x)])) _
    refine st106 _ ?_
    show Steps p.tables e below (T106.setTop (mkF m 17 #[.val (.ref x), .val (.ref b), .val (.int p2), .val (.int (0 : Int32)), .val .null, .unset] [])) _
    refine XS.aloadN X106.here hx rfl (hb hby d3_17) rfl rfl ?_
    show Steps p.tables e below (T106.setTop (mkF m 18 #[.val (.ref x), .val (.ref b), .val (.int p2), .val (.int (0 : Int32)), .val .null, .unset] [(.ref x)])) _
    refine st107 _ ?_
    show Steps p.tables e below (T107.setTop (mkF m 20 #[.val (.ref x), .val (.ref b), .val (.int p2), .val (.int (0 : Int32)), .val .null, .unset] [(.ref a107), (.ref x)])) _
    refine st108 _ ?_
    show Steps p.tables e below (T108.setTop (mkF m 23 #[.val (.ref x), .val (.ref b), .val (.int p2), .val (.int (0 : Int32)), .val .null, .unset] [(.int (0 : Int32)), (.ref x)])) _
    refine st111 _ ?_
    show Steps p.tables e below (T111.setTop (mkF m 26 #[.val (.ref x), .val (.ref b), .val (.int p2), .val (.int (0 : Int32)), .val .null, .unset] [])) _
    exact X111.returnOut hx Bd.returns (hb hby d3_26) hr
  · show QE Z x h0 n0 _ T111.heap _
    rw [e111]
    exact ⟨rfl, N111, KK111, ⟨_, _, _, _, fE_x_4_113, fString_value_4_112, Fw111, fV_b102_4_114, Or.inl ⟨rfl, rfl, rfl, by decide⟩, by decide, by decide⟩⟩
theorem d2_0 : decode jdk_42_method_3_code 0 = .ok (.aload_n 0, 1) := by decide +kernel
theorem d2_1 : decode jdk_42_method_3_code 1 = .ok (.aload_n 1, 1) := by decide +kernel
theorem d2_2 : decode jdk_42_method_3_code 2 = .ok (.iconst 0, 1) := by decide +kernel
theorem d2_3 : decode jdk_42_method_3_code 3 = .ok (.aload_n 1, 1) := by decide +kernel
theorem d2_4 : decode jdk_42_method_3_code 4 = .ok (.arraylength, 1) := by decide +kernel
theorem d2_5 : decode jdk_42_method_3_code 5 = .ok (.aconst_null, 1) := by decide +kernel
theorem d2_6 : decode jdk_42_method_3_code 6 = .ok (.invokespecial 27, 3) := by decide +kernel
theorem pd_2 : parseMethodDescriptor "([CIILjava/lang/Void;)V" = some ⟨[(.array .char), .int, .int, (.object "java/lang/Void")], none⟩ := by decide +kernel
theorem d2_9 : decode jdk_42_method_3_code 9 = .ok (.return_, 1) := by decide +kernel
theorem ef_RR_2 (m : MethodId) (x0 : Addr) (x1 : Addr) : entryFrame m #[(.ref x0), (.ref x1)] 2 = mkF m 0 #[.val (.ref x0), .val (.ref x1)] [] := by first | (simp [entryFrame, mkF, argsToLocals, Value.category]; done) | rfl
set_option maxRecDepth 65536 in
set_option maxHeartbeats 40000000 in
theorem rm2 (l : Launch) (Z : State) (a0 : Array Value) (hw : ∀ d ∈ tables_1, d.before a0 Z = true) (ws : List Jvm.Cond) (x b : Addr) (kb : ClassId) (h0 : Heap) (n0 : Nat) (O0 : Old Z n0 h0) (E : Exa Z h0 x "java/lang/String") (F1 : Fld Z h0 x "java/lang/String" "value" "[B" .null) (F2 : Fld Z h0 x "java/lang/String" "coder" "B" (.int (0 : Int32))) (gx : n0 ≤ x) (K : Arv Z h0 b kb .char (0 : Int32) [] (.int (0 : Int32))) :
    MetFree l (⟨"java/lang/String", "<init>", "([C)V"⟩ : MethodName) (head1 (Jvm.Cond.code (⟨"java/lang/String", "<init>", "([C)V"⟩ : MethodName) jdk_42_method_3_code 2 none :: ws) ({ frames := 2, cells := 4, slots := 8, locals := 29 } : Room)) (fun a_ U => a_ = #[(.ref x), (.ref b)] ∧ Z.Warmed39 U.vm ∧ U.heap = h0 ∧ CHv Z consts_1 U.vm h0) (fun _ _ _ _ _ => True) (fun _ U o U' => ∃ v L, o = .returned v ∧ QE Z x h0 n0 v U'.heap L ∧ CHr Z consts_1 U.vm U.heap U'.vm U'.heap ∧ ReturnedEndW U o U' L ({ frames := 2, cells := 4, slots := 8, locals := 29 } : Room).cells ({ frames := 2, cells := 4, slots := 8, locals := 29 } : Room).slots) := by
  refine MetFree.of_bodySF (plainFor_of_name pn_2) hisR ?_
  intro p e s m args below meth c s₁ Bd hml0 hP hK
  obtain ⟨rfl, hZ, hh, hC⟩ := hP
  have hx := Bd.exec
  have hby := Bd.bytes
  have hml : c.maxLocals = 2 := hml0
  have hown : s.vm.findClass "java/lang/String" = some m.cls := findClass_of_methodNamed Bd.named
  have hnm := (name_of_methodNamed Bd.named Bd.method).1
  have X0 : Stand p l e ({ frames := 2, cells := 4, slots := 8, locals := 29 } : Room) (s.setVm s.vm) m #[(.ref x), (.ref b)] below meth c s₁ [] 0 0 := Stand.of_body Bd
  have e0 : s₁.heap = h0 := by rw [← hh, Bd.state]; rfl
  have N0 := Fr.nil n0
  have pre0 : ∀ tg, Steps p.tables e below (s₁.setTop (mkF m 0 #[.val (.ref x), .val (.ref b)] [])) tg → Steps p.tables e below (s₁.setTop (entryFrame m #[(.ref x), (.ref b)] 2)) tg := fun tg kq => castTop (ef_RR_2 m x b) kq
  have hS0 : s.Since s.vm h0.size := (State.WarmedH.refl s).since _
  have hk0 : h0.size ≤ h0.size := Nat.le_refl _
  have CR0 : CHr Z consts_1 s.vm h0 s.vm h0 := CHr.refl hC
  have sf : Safe Z consts_1 s.vm h0 x := own_safe0 hZ.alike E F1
  obtain ⟨cl_b_9, Ar_b_9, -, S_b_9, N_b_9, -, -⟩ := id (K)
  obtain ⟨_, _, ⟨T101, L101, k101, n101⟩, -, Xr101, hSr101, gr101, ⟨Lc101, hQ101, l101, y101, z101, CSr101⟩, st101⟩ := X0.specialBackS hx (y := (⟨"java/lang/String", "<init>", "([CIILjava/lang/Void;)V"⟩ : MethodName)) rfl hown (mvT hZ (wi hw 11 rfl)) (mvT hZ (wi hw 12 rfl)) (mvT hZ (wi hw 14 rfl)) (by decide) (backOfSH (W := 0) (rm3 l Z a0 hw [] x b (0 : Int32) h0 n0 O0 E F1 F2 gx) hZ (wi hw 14 rfl) (wi hw 7 rfl) (by decide) (by decide) (own_EW hw) CR0.1) (g := (mkF m 6 #[.val (.ref x), .val (.ref b)] [.null, (.int (0 : Int32)), (.int (0 : Int32)), (.ref b), (.ref x)])) rfl (by rw [hml]; rfl) (Steps.refl _) (a := x) (argsL := [(.ref b), (.int (0 : Int32)), (.int (0 : Int32)), .null]) (rest := []) (lenOf pd_2 rfl) rfl (by show 2 * 0 + _ ≤ _; exact Nat.le_of_eq rfl) (hb hby d2_6) (fun _ _ => ⟨rfl, e0, (by decide : 0 + 4 ≤ _), (by decide : 0 + 8 ≤ _)⟩)
  dsimp only [Pt.U, Pt.locs, Pt.cells, Pt.slots] at Xr101 l101 y101 z101 st101 hQ101 hSr101 gr101 CSr101
  subst l101 y101 z101
  obtain ⟨X101, hS101, hZ101, hown101⟩ := rebS hS0 (by rw [e0]; exact hk0) Xr101 hSr101 gr101 hZ hown
  obtain ⟨rfl, N101q, K101, T101q⟩ := hQ101
  obtain ⟨h101, e101⟩ : ∃ z, T101.heap = z := ⟨_, rfl⟩
  rw [e101] at K101 T101q
  rw [e101] at CSr101
  have O101 := O0.keep K101 (allS gx all0)
  have CS101 := CSr101
  have CR101 := CR0.trans CS101
  have KK101 : Keep h0 h101 [x] := (Keep.refl h0 [x]).trans K101 (allS (Or.inl (List.mem_of_getElem? (i := 0) rfl)) all0)
  rw [e101] at hS101
  have N101 := Fr.app N0 N101q
  obtain ⟨fs, hr, hrun, hended, hREW⟩ := X101.leaveW hS101 (by rw [e101]; exact (Nat.le_refl _)) (v := none) (fun _ => rfl)
  refine ⟨_, _, pre0 _ ?_, hrun, hended, _, _, rfl, ?_, (by rw [hh]; show CHr Z consts_1 s.vm h0 T101.vm T101.heap; rw [e101]; exact CR101.trans (CHv.at X101 hZ101 (own_EW hw) CR101.1)), hREW.1, hREW.2.1, hREW.2.2.1, hREW.2.2.2.mono (by decide) (by decide)⟩
  · show Steps p.tables e below (s₁.setTop (mkF m 0 #[.val (.ref x), .val (.ref b)] [])) _
    refine XS.aloadN X0.here hx rfl (hb hby d2_0) rfl rfl ?_
    show Steps p.tables e below (s₁.setTop (mkF m 1 #[.val (.ref x), .val (.ref b)] [(.ref x)])) _
    refine XS.aloadN X0.here hx rfl (hb hby d2_1) rfl rfl ?_
    show Steps p.tables e below (s₁.setTop (mkF m 2 #[.val (.ref x), .val (.ref b)] [(.ref b), (.ref x)])) _
    refine XS.iconst X0.here hx rfl (hb hby d2_2) ?_
    show Steps p.tables e below (s₁.setTop (mkF m 3 #[.val (.ref x), .val (.ref b)] [(.int (0 : Int32)), (.ref b), (.ref x)])) _
    refine XS.aloadN X0.here hx rfl (hb hby d2_3) rfl rfl ?_
    show Steps p.tables e below (s₁.setTop (mkF m 4 #[.val (.ref x), .val (.ref b)] [(.ref b), (.int (0 : Int32)), (.ref b), (.ref x)])) _
    refine X0.arraylength hx (by rw [e0]; exact Ar_b_9.1) (State.isArrayOf_alike hZ.alike Ar_b_9.2.1) (g := (mkF m 4 #[.val (.ref x), .val (.ref b)] [(.ref b), (.int (0 : Int32)), (.ref b), (.ref x)])) rfl rfl (hb hby d2_4) _ ?_
    rw [len_of S_b_9 N_b_9]
    show Steps p.tables e below (s₁.setTop (mkF m 5 #[.val (.ref x), .val (.ref b)] [(.int (0 : Int32)), (.int (0 : Int32)), (.ref b), (.ref x)])) _
    refine XS.aconstNull X0.here hx rfl (hb hby d2_5) ?_
    show Steps p.tables e below (s₁.setTop (mkF m 6 #[.val (.ref x), .val (.ref b)] [.null, (.int (0 : Int32)), (.int (0 : Int32)), (.ref b), (.ref x)])) _
    refine st101.trans ?_
    show Steps p.tables e below (T101.setTop (mkF m 9 #[.val (.ref x), .val (.ref b)] [])) _
    exact X101.returnOut hx Bd.returns (hb hby d2_9) hr
  · show QE Z x h0 n0 _ T101.heap _
    rw [e101]
    exact ⟨rfl, N101, KK101, T101q⟩
def Q0 (h0 : Heap) (n0 : Nat) (v : Option Value) (h : Heap) (L : List Loc) : Prop := v = some (.int (1 : Int32)) ∧ Fr n0 L
theorem pd_3 : parseMethodDescriptor "(I)C" = some ⟨[.int], some .char⟩ := by decide +kernel
theorem pd_4 : parseMethodDescriptor "([C)V" = some ⟨[(.array .char)], none⟩ := by decide +kernel
theorem pd_5 : parseMethodDescriptor "(Ljava/lang/String;)Lcom/example/plugroot/plugroot/sql/Comparison;" = some ⟨[(.object "java/lang/String")], some (.object "com/example/plugroot/plugroot/sql/Comparison")⟩ := by decide +kernel
theorem pd_6 : parseMethodDescriptor "(ICC)Lcom/example/plugroot/plugroot/sql/Comparison;" = some ⟨[.int, .char, .char], some (.object "com/example/plugroot/plugroot/sql/Comparison")⟩ := by decide +kernel
theorem ef_IIII_11m (m : MethodId) (x0 : Int32) (x1 : Int32) (x2 : Int32) (x3 : Int32) : entryFrame m #[(.int x0), (.int x1), (.int x2), (.int x3)] maxLocals = mkF m 0 #[.val (.int x0), .val (.int x1), .val (.int x2), .val (.int x3), .unset, .unset, .unset, .unset, .unset, .unset, .unset] [] := by first | (simp [entryFrame, mkF, argsToLocals, Value.category, maxLocals]; done) | rfl
set_option maxRecDepth 65536 in
set_option maxHeartbeats 40000000 in
theorem rm0_0n (l : Launch) (Z : State) (a0 : Array Value) (hw : ∀ d ∈ tables_1, d.before a0 Z = true) (ws : List Jvm.Cond) (p1 p2 p3 p4 : Int32) (G1 : Int32) (kV : ClassId) (wV w0 w1 w2 w3 w4 w5 : Addr) (s0 s1 s2 s3 s4 s5 : Addr) (c0 c1 c2 : Int32) (h0 : Heap) (n0 : Nat) (O0 : Old Z n0 h0) (S_CS : Sta Z Z.heap "java/lang/String" "COMPACT_STRINGS" "Z" (.int G1)) (hG1 : ¬ (G1 = (0 : Int32))) (S_V : Sta Z Z.heap "com/example/plugroot/plugroot/sql/Comparison" "$VALUES" "[Lcom/example/plugroot/plugroot/sql/Comparison;" (.ref wV)) (A_V : Arv Z Z.heap wV kV (.object "com/example/plugroot/plugroot/sql/Comparison") (6 : Int32) [(.ref w0), (.ref w1), (.ref w2), (.ref w3), (.ref w4), (.ref w5)] .null) (E_V : Exa Z Z.heap wV "[Lcom/example/plugroot/plugroot/sql/Comparison;") (M0 : Fld Z Z.heap w0 "com/example/plugroot/plugroot/sql/Comparison" "symbol" "Ljava/lang/String;" (.ref s0)) (M1 : Fld Z Z.heap w1 "com/example/plugroot/plugroot/sql/Comparison" "symbol" "Ljava/lang/String;" (.ref s1)) (M2 : Fld Z Z.heap w2 "com/example/plugroot/plugroot/sql/Comparison" "symbol" "Ljava/lang/String;" (.ref s2)) (M3 : Fld Z Z.heap w3 "com/example/plugroot/plugroot/sql/Comparison" "symbol" "Ljava/lang/String;" (.ref s3)) (M4 : Fld Z Z.heap w4 "com/example/plugroot/plugroot/sql/Comparison" "symbol" "Ljava/lang/String;" (.ref s4)) (M5 : Fld Z Z.heap w5 "com/example/plugroot/plugroot/sql/Comparison" "symbol" "Ljava/lang/String;" (.ref s5)) (T0 : Str Z Z.heap s0 ([(61 : Int32)] : List Int32)) (T1 : Str Z Z.heap s1 ([(60 : Int32), (62 : Int32)] : List Int32)) (T2 : Str Z Z.heap s2 ([(60 : Int32)] : List Int32)) (T3 : Str Z Z.heap s3 ([(62 : Int32)] : List Int32)) (T4 : Str Z Z.heap s4 ([(60 : Int32), (61 : Int32)] : List Int32)) (T5 : Str Z Z.heap s5 ([(62 : Int32), (61 : Int32)] : List Int32)) (S0 : Sta Z Z.heap "com/example/plugroot/plugroot/sql/Comparison" "EQUAL" "Lcom/example/plugroot/plugroot/sql/Comparison;" (.ref w0)) (S1 : Sta Z Z.heap "com/example/plugroot/plugroot/sql/Comparison" "NOT_EQUAL" "Lcom/example/plugroot/plugroot/sql/Comparison;" (.ref w1)) (S2 : Sta Z Z.heap "com/example/plugroot/plugroot/sql/Comparison" "LESS" "Lcom/example/plugroot/plugroot/sql/Comparison;" (.ref w2)) (S3 : Sta Z Z.heap "com/example/plugroot/plugroot/sql/Comparison" "GREATER" "Lcom/example/plugroot/plugroot/sql/Comparison;" (.ref w3)) (S4 : Sta Z Z.heap "com/example/plugroot/plugroot/sql/Comparison" "LESS_OR_EQUAL" "Lcom/example/plugroot/plugroot/sql/Comparison;" (.ref w4)) (S5 : Sta Z Z.heap "com/example/plugroot/plugroot/sql/Comparison" "GREATER_OR_EQUAL" "Lcom/example/plugroot/plugroot/sql/Comparison;" (.ref w5)) (hd0 : c0 = drawF p2) (hd1 : c1 = drawF p3) (hd2 : c2 = drawF p4) (hr0 : ¬ c0 < 0 ∧ ¬ (255 : Int32) < c0) (hr1 : ¬ c1 < 0 ∧ ¬ (255 : Int32) < c1) (hr2 : ¬ c2 < 0 ∧ ¬ (255 : Int32) < c2) (hof : .null = specF w0 w1 w2 w3 w4 w5 ([] : List Int32)) (hex : .null = expF w0 w1 w2 w3 w4 w5 (p1 &&& (3 : Int32)) c0 c1) (k0 : (p1 &&& (3 : Int32)) = 0) :
    MetFree l x (head1 (Jvm.Cond.code x code maxLocals ret :: ws) room_1) (fun a_ U => a_ = #[(.int p1), (.int p2), (.int p3), (.int p4)] ∧ Z.Warmed39 U.vm ∧ U.heap = h0 ∧ CHv Z consts_1 U.vm h0) (fun _ _ _ _ _ => True) (fun _ U o U' => ∃ v L, o = .returned v ∧ Q0 h0 n0 v U'.heap L ∧ CHr Z consts_1 U.vm U.heap U'.vm U'.heap ∧ ReturnedEndW U o U' L room_1.cells room_1.slots) := by
  refine MetFree.of_bodySF (plainFor_of_name pn_0) hisR ?_
  intro p e s m args below meth c s₁ Bd hml0 hP hK
  obtain ⟨rfl, hZ, hh, hC⟩ := hP
  have hx := Bd.exec
  have hby := Bd.bytes
  have hml : c.maxLocals = 11 := hml0
  have hown : s.vm.findClass "com/example/plugroot/plugroot/sql/ComparisonOfPinLaw" = some m.cls := findClass_of_methodNamed Bd.named
  have hnm := (name_of_methodNamed Bd.named Bd.method).1
  have X0 : Stand p l e room_1 (s.setVm s.vm) m #[(.int p1), (.int p2), (.int p3), (.int p4)] below meth c s₁ [] 0 0 := Stand.of_body Bd
  have e0 : s₁.heap = h0 := by rw [← hh, Bd.state]; rfl
  have N0 := Fr.nil n0
  have pre0 : ∀ tg, Steps p.tables e below (s₁.setTop (mkF m 0 #[.val (.int p1), .val (.int p2), .val (.int p3), .val (.int p4), .unset, .unset, .unset, .unset, .unset, .unset, .unset] [])) tg → Steps p.tables e below (s₁.setTop (entryFrame m #[(.int p1), (.int p2), (.int p3), (.int p4)] maxLocals)) tg := fun tg kq => castTop (ef_IIII_11m m p1 p2 p3 p4) kq
  have hS0 : s.Since s.vm h0.size := (State.WarmedH.refl s).since _
  have hk0 : h0.size ≤ h0.size := Nat.le_refl _
  have CR0 : CHr Z consts_1 s.vm h0 s.vm h0 := CHr.refl hC
  obtain ⟨tm0, kbm0, Nm0, vsm0, sEm0, sVm0, sCm0, sKm0, scdm0, shpm0, shlm0⟩ := id T0
  obtain ⟨tm1, kbm1, Nm1, vsm1, sEm1, sVm1, sCm1, sKm1, scdm1, shpm1, shlm1⟩ := id T1
  obtain ⟨tm2, kbm2, Nm2, vsm2, sEm2, sVm2, sCm2, sKm2, scdm2, shpm2, shlm2⟩ := id T2
  obtain ⟨tm3, kbm3, Nm3, vsm3, sEm3, sVm3, sCm3, sKm3, scdm3, shpm3, shlm3⟩ := id T3
  obtain ⟨tm4, kbm4, Nm4, vsm4, sEm4, sVm4, sCm4, sKm4, scdm4, shpm4, shlm4⟩ := id T4
  obtain ⟨tm5, kbm5, Nm5, vsm5, sEm5, sVm5, sCm5, sKm5, scdm5, shpm5, shlm5⟩ := id T5
  obtain ⟨_, _, ⟨T101, L101, k101, n101⟩, -, X101, ⟨Lc101, hQ101, l101, y101, z101⟩, st101⟩ := Jvm.LawKit.callS X0 hx (y := (⟨"com/example/plugroot/plugroot/sql/ComparisonOfPinLaw", "draw", "(I)C"⟩ : MethodName)) hown (mvT hZ (wi hw 0 rfl)) (mvT hZ (wi hw 1 rfl)) (mvT hZ (wi hw 2 rfl)) (mvT hZ (wi hw 3 rfl)) (by decide) (backOf (W := 0) (rm1 l Z a0 hw [] p2 c0 h0 n0 O0 hd0) hZ (wi hw 3 rfl) (wi hw 2 rfl) (by decide) (by decide)) (g := (mkF m 6 #[.val (.int p1), .val (.int p2), .val (.int p3), .val (.int p4), .val (.int (p1 &&& (3 : Int32))), .unset, .unset, .unset, .unset, .unset, .unset] [(.int p2)])) rfl (by rw [hml]; rfl) (argsL := [(.int p2)]) (rest := []) (lenOf pd_3 rfl) rfl (by show 2 * 0 + _ ≤ _; exact Nat.le_of_eq rfl) (hb hby at_6) (fun _ _ => ⟨rfl, e0, (by decide : 0 + 0 ≤ _), (by decide : 0 + 0 ≤ _)⟩)
  dsimp only [Pt.U, Pt.locs, Pt.cells, Pt.slots] at X101 l101 y101 z101 st101 hQ101
  subst l101 y101 z101
  obtain ⟨rfl, N101q, hh101⟩ := hQ101
  have e101 : T101.heap = h0 := hh101
  have N101 := Fr.app N0 N101q
  obtain ⟨_, _, ⟨T102, L102, k102, n102⟩, -, X102, ⟨Lc102, hQ102, l102, y102, z102⟩, st102⟩ := Jvm.LawKit.callS X101 hx (y := (⟨"com/example/plugroot/plugroot/sql/ComparisonOfPinLaw", "draw", "(I)C"⟩ : MethodName)) hown (mvT hZ (wi hw 0 rfl)) (mvT hZ (wi hw 1 rfl)) (mvT hZ (wi hw 2 rfl)) (mvT hZ (wi hw 3 rfl)) (by decide) (backOf (W := 0) (rm1 l Z a0 hw [] p3 c1 h0 n0 O0 hd1) hZ (wi hw 3 rfl) (wi hw 2 rfl) (by decide) (by decide)) (g := (mkF m 12 #[.val (.int p1), .val (.int p2), .val (.int p3), .val (.int p4), .val (.int (p1 &&& (3 : Int32))), .val (.int c0), .unset, .unset, .unset, .unset, .unset] [(.int p3)])) rfl (by rw [hml]; rfl) (argsL := [(.int p3)]) (rest := []) (lenOf pd_3 rfl) rfl (by show 2 * 0 + _ ≤ _; exact Nat.le_of_eq rfl) (hb hby at_12) (fun _ _ => ⟨rfl, e101, (by decide : 0 + 0 ≤ _), (by decide : 0 + 0 ≤ _)⟩)
  dsimp only [Pt.U, Pt.locs, Pt.cells, Pt.slots] at X102 l102 y102 z102 st102 hQ102
  subst l102 y102 z102
  obtain ⟨rfl, N102q, hh102⟩ := hQ102
  have e102 : T102.heap = h0 := hh102
  have N102 := Fr.app N101 N102q
  obtain ⟨_, _, ⟨T103, L103, k103, n103⟩, -, X103, ⟨Lc103, hQ103, l103, y103, z103⟩, st103⟩ := Jvm.LawKit.callS X102 hx (y := (⟨"com/example/plugroot/plugroot/sql/ComparisonOfPinLaw", "draw", "(I)C"⟩ : MethodName)) hown (mvT hZ (wi hw 0 rfl)) (mvT hZ (wi hw 1 rfl)) (mvT hZ (wi hw 2 rfl)) (mvT hZ (wi hw 3 rfl)) (by decide) (backOf (W := 0) (rm1 l Z a0 hw [] p4 c2 h0 n0 O0 hd2) hZ (wi hw 3 rfl) (wi hw 2 rfl) (by decide) (by decide)) (g := (mkF m 18 #[.val (.int p1), .val (.int p2), .val (.int p3), .val (.int p4), .val (.int (p1 &&& (3 : Int32))), .val (.int c0), .val (.int c1), .unset, .unset, .unset, .unset] [(.int p4)])) rfl (by rw [hml]; rfl) (argsL := [(.int p4)]) (rest := []) (lenOf pd_3 rfl) rfl (by show 2 * 0 + _ ≤ _; exact Nat.le_of_eq rfl) (hb hby at_18) (fun _ _ => ⟨rfl, e102, (by decide : 0 + 0 ≤ _), (by decide : 0 + 0 ≤ _)⟩)
  dsimp only [Pt.U, Pt.locs, Pt.cells, Pt.slots] at X103 l103 y103 z103 st103 hQ103
  subst l103 y103 z103
  obtain ⟨rfl, N103q, hh103⟩ := hQ103
  have e103 : T103.heap = h0 := hh103
  have N103 := Fr.app N102 N103q
  obtain ⟨T104, h104, k104, X104, e104, E104, A104, st104⟩ := newP X103 hx hZ (wi hw 4 rfl) e103 (g := (mkF m 29 #[.val (.int p1), .val (.int p2), .val (.int p3), .val (.int p4), .val (.int (p1 &&& (3 : Int32))), .val (.int c0), .val (.int c1), .val (.int c2), .unset, .unset, .unset] [(.int (0 : Int32))])) rfl (hb hby at_29) rfl (by decide) (cap := 0) (by decide) (by decide) (by decide) (by decide)
  obtain ⟨b104, g104⟩ : ∃ z, z = h0.size := ⟨_, rfl⟩
  rw [← g104] at A104 st104
  have g_b104 : n0 ≤ b104 := Nat.le_trans (O0.1 ▸ O0.2.1) (Nat.le_of_eq g104.symm)
  have sz_b104 : h0.size ≤ b104 := Nat.le_trans (Nat.le_refl _) (Nat.le_of_eq g104.symm)
  have O104 := O0.ext E104
  have CS104 := CHr.ext E104 CR0.1
  have CR104 := CR0.trans CS104
  have KK104 : Keep h0 h104 [] := (Keep.refl h0 []).ext E104
  have V_b104 : Arv Z h104 b104 k104 .char (0 : Int32) [] (.int (0 : Int32)) := (Arv.new A104 (by decide)).pad (pad_rep [] (.int (0 : Int32)) 0)
  obtain ⟨T105, h105, X105, e105, E105, A105, D105, -, st105⟩ := newO X104 hx hZ hown (wi hw 5 rfl) (wi hw 6 rfl) (wi hw 7 rfl) e104 (g := (mkF m 99 #[.val (.int p1), .val (.int p2), .val (.int p3), .val (.int p4), .val (.int (p1 &&& (3 : Int32))), .val (.int c0), .val (.int c1), .val (.int c2), .val (.ref b104), .unset, .unset] [])) rfl (hb hby at_99) (by decide) (by decide)
  obtain ⟨b105, g105⟩ : ∃ z, z = h104.size := ⟨_, rfl⟩
  rw [← g105] at A105 D105 st105
  have g_b105 : n0 ≤ b105 := Nat.le_trans (O104.1 ▸ O104.2.1) (Nat.le_of_eq g105.symm)
  have sz_b105 : h0.size ≤ b105 := Nat.le_trans KK104.1 (Nat.le_of_eq g105.symm)
  have O105 := O104.ext E105
  have CS105 := CHr.ext E105 CR104.1
  have CR105 := CR104.trans CS105
  have KK105 : Keep h0 h105 [] := KK104.ext E105
  have sf_b105 : Safe Z consts_1 s.vm h105 b105 := Safe.ext E105 CR104.1 (Safe.new (Nat.le_of_eq g105.symm))
  have F_value_b105 : Fld Z h105 b105 "java/lang/String" "value" "[B" .null := D105 (Or.inr (wi hw 20 rfl)) (ty := (.array .byte)) (by decide)
  have F_coder_b105 : Fld Z h105 b105 "java/lang/String" "coder" "B" (.int (0 : Int32)) := D105 (Or.inr (wi hw 21 rfl)) (ty := .byte) (by decide)
  have fV_b104_2_107 := (V_b104.ext E105)
  obtain ⟨_, _, ⟨T108, L108, k108, n108⟩, -, Xr108, hSr108, gr108, ⟨Lc108, hQ108, l108, y108, z108, CSr108⟩, st108⟩ := X105.specialBackS hx (y := (⟨"java/lang/String", "<init>", "([C)V"⟩ : MethodName)) rfl hown (mvT hZ (wi hw 8 rfl)) (mvT hZ (wi hw 9 rfl)) (mvT hZ (wi hw 10 rfl)) (by decide) (backOfSH (W := 1) (rm2 l Z a0 hw [] b105 b104 _ h105 n0 O105 A105 F_value_b105 F_coder_b105 g_b105 fV_b104_2_107) hZ (wi hw 10 rfl) (wi hw 7 rfl) (by decide) (by decide) (own_EW hw) CR105.1) (g := (mkF m 105 #[.val (.int p1), .val (.int p2), .val (.int p3), .val (.int p4), .val (.int (p1 &&& (3 : Int32))), .val (.int c0), .val (.int c1), .val (.int c2), .val (.ref b104), .unset, .unset] [(.ref b104), (.ref b105), (.ref b105)])) rfl (by rw [hml]; rfl) (Steps.refl _) (a := b105) (argsL := [(.ref b104)]) (rest := [(.ref b105)]) (lenOf pd_4 rfl) rfl (by show 2 * 0 + _ ≤ _; exact Nat.le_of_eq rfl) (hb hby at_105) (fun _ _ => ⟨rfl, e105, (by decide : 2 + 4 ≤ _), (by decide : 4 + 8 ≤ _)⟩)
  dsimp only [Pt.U, Pt.locs, Pt.cells, Pt.slots] at Xr108 l108 y108 z108 st108 hQ108 hSr108 gr108 CSr108
  subst l108 y108 z108
  obtain ⟨X108, hS108, hZ108, hown108⟩ := rebS hS0 (by rw [e105]; exact (Nat.le_trans (Nat.le_trans hk0 E104.1) E105.1)) Xr108 hSr108 gr108 hZ hown
  obtain ⟨rfl, N108q, K108, T108q⟩ := hQ108
  obtain ⟨h108, e108⟩ : ∃ z, T108.heap = z := ⟨_, rfl⟩
  rw [e108] at K108 T108q
  obtain ⟨te106, kbe106, Ne106, vse106, sEe106, sVe106, sCe106, sKe106, scde106, shpe106, shle106⟩ := id T108q
  rw [e108] at CSr108
  have O108 := O105.keep K108 (allS g_b105 all0)
  have CS108 := CSr108
  have CR108 := CR105.trans CS108
  have KK108 : Keep h0 h108 [] := KK105.trans K108 (allS (Or.inr sz_b105) all0)
  rw [e108] at hS108
  have N108 := Fr.app N103 N108q
  obtain ⟨_, _, ⟨T109, L109, k109, n109⟩, -, Xr109, hSr109, gr109, ⟨Lc109, hQ109, l109, y109, z109, CSr109⟩, st109⟩ := Jvm.RoadKit.callSS X108 hx (y := (⟨"com/example/plugroot/plugroot/sql/Comparison", "of", "(Ljava/lang/String;)Lcom/example/plugroot/plugroot/sql/Comparison;"⟩ : MethodName)) hown108 (mvT hZ108 (wi hw 26 rfl)) (mvT hZ108 (wi hw 27 rfl)) (mvT hZ108 (wi hw 28 rfl)) (mvT hZ108 (wi hw 29 rfl)) (by decide) (backOfSH (W := 0) (rm5 l Z a0 hw [] G1 kV wV w0 w1 w2 w3 w4 w5 s0 s1 s2 s3 s4 s5 b105 ([] : List Int32) .null h108 n0 O108 S_CS hG1 S_V A_V E_V M0 M1 M2 M3 M4 M5 T0 T1 T2 T3 T4 T5 ⟨_, _, _, _, sEe106, sVe106, sCe106, sKe106, scde106, shpe106, shle106⟩ hof) hZ108 (wi hw 29 rfl) (wi hw 28 rfl) (by decide) (by decide) (own_EW hw) CR108.1) (g := (mkF m 112 #[.val (.int p1), .val (.int p2), .val (.int p3), .val (.int p4), .val (.int (p1 &&& (3 : Int32))), .val (.int c0), .val (.int c1), .val (.int c2), .val (.ref b104), .val (.ref b105), .unset] [(.ref b105)])) rfl (by rw [hml]; rfl) (argsL := [(.ref b105)]) (rest := []) (lenOf pd_5 rfl) rfl (by show 2 * 0 + _ ≤ _; exact Nat.le_of_eq rfl) (hb hby at_112) (fun _ _ => ⟨rfl, e108, (by decide : 6 + 5 ≤ _), (by decide : 12 + 30 ≤ _)⟩)
  dsimp only [Pt.U, Pt.locs, Pt.cells, Pt.slots] at Xr109 l109 y109 z109 st109 hQ109 hSr109 gr109 CSr109
  subst l109 y109 z109
  obtain ⟨X109, hS109, hZ109, hown109⟩ := rebS hS108 (by rw [e108]; exact (Nat.le_refl _)) Xr109 hSr109 gr109 hZ108 hown108
  obtain ⟨rfl, N109q, K109⟩ := hQ109
  obtain ⟨h109, e109⟩ : ∃ z, T109.heap = z := ⟨_, rfl⟩
  rw [e109] at K109
  rw [e109] at CSr109
  have O109 := O108.keep K109 all0
  have CS109 := CSr109
  have CR109 := CR108.trans CS109
  have KK109 : Keep h0 h109 [] := KK108.trans K109 all0
  rw [e109] at hS109
  have N109 := Fr.app N108 N109q
  obtain ⟨_, _, ⟨T110, L110, k110, n110⟩, -, X110, ⟨Lc110, hQ110, l110, y110, z110⟩, st110⟩ := Jvm.LawKit.callS X109 hx (y := (⟨"com/example/plugroot/plugroot/sql/ComparisonOfPinLaw", "expected", "(ICC)Lcom/example/plugroot/plugroot/sql/Comparison;"⟩ : MethodName)) hown109 (mvT hZ109 (wi hw 65 rfl)) (mvT hZ109 (wi hw 66 rfl)) (mvT hZ109 (wi hw 2 rfl)) (mvT hZ109 (wi hw 67 rfl)) (by decide) (backOf (W := 1) (rm9 l Z a0 hw [] w0 w1 w2 w3 w4 w5 (p1 &&& (3 : Int32)) c0 c1 .null h109 n0 O109 S0 S1 S2 S3 S4 S5 hex) hZ109 (wi hw 67 rfl) (wi hw 2 rfl) (by decide) (by decide)) (g := (mkF m 125 #[.val (.int p1), .val (.int p2), .val (.int p3), .val (.int p4), .val (.int (p1 &&& (3 : Int32))), .val (.int c0), .val (.int c1), .val (.int c2), .val (.ref b104), .val (.ref b105), .val .null] [(.int c1), (.int c0), (.int (p1 &&& (3 : Int32))), .null])) rfl (by rw [hml]; rfl) (argsL := [(.int (p1 &&& (3 : Int32))), (.int c0), (.int c1)]) (rest := [.null]) (lenOf pd_6 rfl) rfl (by show 2 * 0 + _ ≤ _; exact Nat.le_of_eq rfl) (hb hby at_125) (fun _ _ => ⟨rfl, e109, (by decide : 11 + 0 ≤ _), (by decide : 42 + 0 ≤ _)⟩)
  dsimp only [Pt.U, Pt.locs, Pt.cells, Pt.slots] at X110 l110 y110 z110 st110 hQ110
  subst l110 y110 z110
  obtain ⟨rfl, N110q, hh110⟩ := hQ110
  have e110 : T110.heap = h109 := hh110
  have N110 := Fr.app N109 N110q
  obtain ⟨fs, hr, hrun, hended, hREW⟩ := X110.leaveW hS109 (by rw [e110]; exact (Nat.le_refl _)) (v := some (.int (1 : Int32))) (fun h => by rw [Bd.returns] at h; cases h)
  refine ⟨_, _, pre0 _ ?_, hrun, hended, _, _, rfl, ?_, (by rw [hh]; show CHr Z consts_1 s.vm h0 T110.vm T110.heap; rw [e110]; exact CR109.trans (CHv.at X110 hZ109 (own_EW hw) CR109.1)), hREW.1, hREW.2.1, hREW.2.2.1, hREW.2.2.2.mono (by decide) (by decide)⟩
  · show Steps p.tables e below (s₁.setTop (mkF m 0 #[.val (.int p1), .val (.int p2), .val (.int p3), .val (.int p4), .unset, .unset, .unset, .unset, .unset, .unset, .unset] [])) _
    refine XS.iloadN X0.here hx rfl (hb hby at_0) rfl ?_
    show Steps p.tables e below (s₁.setTop (mkF m 1 #[.val (.int p1), .val (.int p2), .val (.int p3), .val (.int p4), .unset, .unset, .unset, .unset, .unset, .unset, .unset] [(.int p1)])) _
    refine XS.iconst X0.here hx rfl (hb hby at_1) ?_
    show Steps p.tables e below (s₁.setTop (mkF m 2 #[.val (.int p1), .val (.int p2), .val (.int p3), .val (.int p4), .unset, .unset, .unset, .unset, .unset, .unset, .unset] [(.int (3 : Int32)), (.int p1)])) _
    refine XS.iand X0.here hx rfl (hb hby at_2) rfl ?_
    show Steps p.tables e below (s₁.setTop (mkF m 3 #[.val (.int p1), .val (.int p2), .val (.int p3), .val (.int p4), .unset, .unset, .unset, .unset, .unset, .unset, .unset] [(.int (p1 &&& (3 : Int32)))])) _
    refine XS.istore X0.here hx rfl (hb hby at_3) rfl (l' := #[.val (.int p1), .val (.int p2), .val (.int p3), .val (.int p4), .val (.int (p1 &&& (3 : Int32))), .unset, .unset, .unset, .unset, .unset, .unset]) rfl ?_
    show Steps p.tables e below (s₁.setTop (mkF m 5 #[.val (.int p1), .val (.int p2), .val (.int p3), .val (.int p4), .val (.int (p1 &&& (3 : Int32))), .unset, .unset, .unset, .unset, .unset, .unset] [])) _
    refine XS.iloadN X0.here hx rfl (hb hby at_5) rfl ?_
    show Steps p.tables e below (s₁.setTop (mkF m 6 #[.val (.int p1), .val (.int p2), .val (.int p3), .val (.int p4), .val (.int (p1 &&& (3 : Int32))), .unset, .unset, .unset, .unset, .unset, .unset] [(.int p2)])) _
    refine st101 _ ?_
    show Steps p.tables e below (T101.setTop (mkF m 9 #[.val (.int p1), .val (.int p2), .val (.int p3), .val (.int p4), .val (.int (p1 &&& (3 : Int32))), .unset, .unset, .unset, .unset, .unset, .unset] [(.int c0)])) _
    refine XS.istore X101.here hx rfl (hb hby at_9) rfl (l' := #[.val (.int p1), .val (.int p2), .val (.int p3), .val (.int p4), .val (.int (p1 &&& (3 : Int32))), .val (.int c0), .unset, .unset, .unset, .unset, .unset]) rfl ?_
    show Steps p.tables e below (T101.setTop (mkF m 11 #[.val (.int p1), .val (.int p2), .val (.int p3), .val (.int p4), .val (.int (p1 &&& (3 : Int32))), .val (.int c0), .unset, .unset, .unset, .unset, .unset] [])) _
    refine XS.iloadN X101.here hx rfl (hb hby at_11) rfl ?_
    show Steps p.tables e below (T101.setTop (mkF m 12 #[.val (.int p1), .val (.int p2), .val (.int p3), .val (.int p4), .val (.int (p1 &&& (3 : Int32))), .val (.int c0), .unset, .unset, .unset, .unset, .unset] [(.int p3)])) _
    refine st102 _ ?_
    show Steps p.tables e below (T102.setTop (mkF m 15 #[.val (.int p1), .val (.int p2), .val (.int p3), .val (.int p4), .val (.int (p1 &&& (3 : Int32))), .val (.int c0), .unset, .unset, .unset, .unset, .unset] [(.int c1)])) _
    refine XS.istore X102.here hx rfl (hb hby at_15) rfl (l' := #[.val (.int p1), .val (.int p2), .val (.int p3), .val (.int p4), .val (.int (p1 &&& (3 : Int32))), .val (.int c0), .val (.int c1), .unset, .unset, .unset, .unset]) rfl ?_
    show Steps p.tables e below (T102.setTop (mkF m 17 #[.val (.int p1), .val (.int p2), .val (.int p3), .val (.int p4), .val (.int (p1 &&& (3 : Int32))), .val (.int c0), .val (.int c1), .unset, .unset, .unset, .unset] [])) _
    refine XS.iloadN X102.here hx rfl (hb hby at_17) rfl ?_
    show Steps p.tables e below (T102.setTop (mkF m 18 #[.val (.int p1), .val (.int p2), .val (.int p3), .val (.int p4), .val (.int (p1 &&& (3 : Int32))), .val (.int c0), .val (.int c1), .unset, .unset, .unset, .unset] [(.int p4)])) _
    refine st103 _ ?_
    show Steps p.tables e below (T103.setTop (mkF m 21 #[.val (.int p1), .val (.int p2), .val (.int p3), .val (.int p4), .val (.int (p1 &&& (3 : Int32))), .val (.int c0), .val (.int c1), .unset, .unset, .unset, .unset] [(.int c2)])) _
    refine XS.istore X103.here hx rfl (hb hby at_21) rfl (l' := #[.val (.int p1), .val (.int p2), .val (.int p3), .val (.int p4), .val (.int (p1 &&& (3 : Int32))), .val (.int c0), .val (.int c1), .val (.int c2), .unset, .unset, .unset]) rfl ?_
    show Steps p.tables e below (T103.setTop (mkF m 23 #[.val (.int p1), .val (.int p2), .val (.int p3), .val (.int p4), .val (.int (p1 &&& (3 : Int32))), .val (.int c0), .val (.int c1), .val (.int c2), .unset, .unset, .unset] [])) _
    refine XS.iload X103.here hx rfl (hb hby at_23) rfl ?_
    show Steps p.tables e below (T103.setTop (mkF m 25 #[.val (.int p1), .val (.int p2), .val (.int p3), .val (.int p4), .val (.int (p1 &&& (3 : Int32))), .val (.int c0), .val (.int c1), .val (.int c2), .unset, .unset, .unset] [(.int (p1 &&& (3 : Int32)))])) _
    refine XS.ifNo X103.here hx rfl (hb hby at_25) rfl ((if0 _ _).trans (teq k0).2) ?_
    show Steps p.tables e below (T103.setTop (mkF m 28 #[.val (.int p1), .val (.int p2), .val (.int p3), .val (.int p4), .val (.int (p1 &&& (3 : Int32))), .val (.int c0), .val (.int c1), .val (.int c2), .unset, .unset, .unset] [])) _
    refine XS.iconst X103.here hx rfl (hb hby at_28) ?_
    show Steps p.tables e below (T103.setTop (mkF m 29 #[.val (.int p1), .val (.int p2), .val (.int p3), .val (.int p4), .val (.int (p1 &&& (3 : Int32))), .val (.int c0), .val (.int c1), .val (.int c2), .unset, .unset, .unset] [(.int (0 : Int32))])) _
    refine st104 _ ?_
    show Steps p.tables e below (T104.setTop (mkF m 31 #[.val (.int p1), .val (.int p2), .val (.int p3), .val (.int p4), .val (.int (p1 &&& (3 : Int32))), .val (.int c0), .val (.int c1), .val (.int c2), .unset, .unset, .unset] [(.ref b104)])) _
    refine XS.astore X104.here hx rfl (hb hby at_31) rfl rfl (l' := #[.val (.int p1), .val (.int p2), .val (.int p3), .val (.int p4), .val (.int (p1 &&& (3 : Int32))), .val (.int c0), .val (.int c1), .val (.int c2), .val (.ref b104), .unset, .unset]) rfl ?_
    show Steps p.tables e below (T104.setTop (mkF m 33 #[.val (.int p1), .val (.int p2), .val (.int p3), .val (.int p4), .val (.int (p1 &&& (3 : Int32))), .val (.int c0), .val (.int c1), .val (.int c2), .val (.ref b104), .unset, .unset] [])) _
    refine XS.goto X104.here hx rfl (pc0 := 33) (pc' := 99) rfl (hb hby at_33) (by decide) (by decide) ?_
    show Steps p.tables e below (T104.setTop (mkF m 99 #[.val (.int p1), .val (.int p2), .val (.int p3), .val (.int p4), .val (.int (p1 &&& (3 : Int32))), .val (.int c0), .val (.int c1), .val (.int c2), .val (.ref b104), .unset, .unset] [])) _
    refine st105 _ ?_
    show Steps p.tables e below (T105.setTop (mkF m 102 #[.val (.int p1), .val (.int p2), .val (.int p3), .val (.int p4), .val (.int (p1 &&& (3 : Int32))), .val (.int c0), .val (.int c1), .val (.int c2), .val (.ref b104), .unset, .unset] [(.ref b105)])) _
    refine XS.dup X105.here hx rfl (hb hby at_102) rfl rfl ?_
    show Steps p.tables e below (T105.setTop (mkF m 103 #[.val (.int p1), .val (.int p2), .val (.int p3), .val (.int p4), .val (.int (p1 &&& (3 : Int32))), .val (.int c0), .val (.int c1), .val (.int c2), .val (.ref b104), .unset, .unset] [(.ref b105), (.ref b105)])) _
    refine XS.aload X105.here hx rfl (hb hby at_103) rfl rfl ?_
    show Steps p.tables e below (T105.setTop (mkF m 105 #[.val (.int p1), .val (.int p2), .val (.int p3), .val (.int p4), .val (.int (p1 &&& (3 : Int32))), .val (.int c0), .val (.int c1), .val (.int c2), .val (.ref b104), .unset, .unset] [(.ref b104), (.ref b105), (.ref b105)])) _
    refine st108.trans ?_
    show Steps p.tables e below (T108.setTop (mkF m 108 #[.val (.int p1), .val (.int p2), .val (.int p3), .val (.int p4), .val (.int (p1 &&& (3 : Int32))), .val (.int c0), .val (.int c1), .val (.int c2), .val (.ref b104), .unset, .unset] [(.ref b105)])) _
    refine XS.astore X108.here hx rfl (hb hby at_108) rfl rfl (l' := #[.val (.int p1), .val (.int p2), .val (.int p3), .val (.int p4), .val (.int (p1 &&& (3 : Int32))), .val (.int c0), .val (.int c1), .val (.int c2), .val (.ref b104), .val (.ref b105), .unset]) rfl ?_
    show Steps p.tables e below (T108.setTop (mkF m 110 #[.val (.int p1), .val (.int p2), .val (.int p3), .val (.int p4), .val (.int (p1 &&& (3 : Int32))), .val (.int c0), .val (.int c1), .val (.int c2), .val (.ref b104), .val (.ref b105), .unset] [])) _
    refine XS.aload X108.here hx rfl (hb hby at_110) rfl rfl ?_
    show Steps p.tables e below (T108.setTop (mkF m 112 #[.val (.int p1), .val (.int p2), .val (.int p3), .val (.int p4), .val (.int (p1 &&& (3 : Int32))), .val (.int c0), .val (.int c1), .val (.int c2), .val (.ref b104), .val (.ref b105), .unset] [(.ref b105)])) _
    refine st109.trans ?_
    show Steps p.tables e below (T109.setTop (mkF m 115 #[.val (.int p1), .val (.int p2), .val (.int p3), .val (.int p4), .val (.int (p1 &&& (3 : Int32))), .val (.int c0), .val (.int c1), .val (.int c2), .val (.ref b104), .val (.ref b105), .unset] [.null])) _
    refine XS.astore X109.here hx rfl (hb hby at_115) rfl rfl (l' := #[.val (.int p1), .val (.int p2), .val (.int p3), .val (.int p4), .val (.int (p1 &&& (3 : Int32))), .val (.int c0), .val (.int c1), .val (.int c2), .val (.ref b104), .val (.ref b105), .val .null]) rfl ?_
    show Steps p.tables e below (T109.setTop (mkF m 117 #[.val (.int p1), .val (.int p2), .val (.int p3), .val (.int p4), .val (.int (p1 &&& (3 : Int32))), .val (.int c0), .val (.int c1), .val (.int c2), .val (.ref b104), .val (.ref b105), .val .null] [])) _
    refine XS.aload X109.here hx rfl (hb hby at_117) rfl rfl ?_
    show Steps p.tables e below (T109.setTop (mkF m 119 #[.val (.int p1), .val (.int p2), .val (.int p3), .val (.int p4), .val (.int (p1 &&& (3 : Int32))), .val (.int c0), .val (.int c1), .val (.int c2), .val (.ref b104), .val (.ref b105), .val .null] [.null])) _
    refine XS.iload X109.here hx rfl (hb hby at_119) rfl ?_
    show Steps p.tables e below (T109.setTop (mkF m 121 #[.val (.int p1), .val (.int p2), .val (.int p3), .val (.int p4), .val (.int (p1 &&& (3 : Int32))), .val (.int c0), .val (.int c1), .val (.int c2), .val (.ref b104), .val (.ref b105), .val .null] [(.int (p1 &&& (3 : Int32))), .null])) _
    refine XS.iload X109.here hx rfl (hb hby at_121) rfl ?_
    show Steps p.tables e below (T109.setTop (mkF m 123 #[.val (.int p1), .val (.int p2), .val (.int p3), .val (.int p4), .val (.int (p1 &&& (3 : Int32))), .val (.int c0), .val (.int c1), .val (.int c2), .val (.ref b104), .val (.ref b105), .val .null] [(.int c0), (.int (p1 &&& (3 : Int32))), .null])) _
    refine XS.iload X109.here hx rfl (hb hby at_123) rfl ?_
    show Steps p.tables e below (T109.setTop (mkF m 125 #[.val (.int p1), .val (.int p2), .val (.int p3), .val (.int p4), .val (.int (p1 &&& (3 : Int32))), .val (.int c0), .val (.int c1), .val (.int c2), .val (.ref b104), .val (.ref b105), .val .null] [(.int c1), (.int c0), (.int (p1 &&& (3 : Int32))), .null])) _
    refine st110 _ ?_
    show Steps p.tables e below (T110.setTop (mkF m 128 #[.val (.int p1), .val (.int p2), .val (.int p3), .val (.int p4), .val (.int (p1 &&& (3 : Int32))), .val (.int c0), .val (.int c1), .val (.int c2), .val (.ref b104), .val (.ref b105), .val .null] [.null, .null])) _
    refine Jvm.RoadKit.acmp (g := (mkF m 128 #[.val (.int p1), .val (.int p2), .val (.int p3), .val (.int p4), .val (.int (p1 &&& (3 : Int32))), .val (.int c0), .val (.int c1), .val (.int c2), .val (.ref b104), .val (.ref b105), .val .null] [.null, .null])) X110 hx rfl rfl rfl (pc0 := 128) (pc' := 131) (same := true) rfl (hb hby at_128) rfl (decide_eq_true rfl) (by decide) (by decide) ?_
    show Steps p.tables e below (T110.setTop (mkF m 131 #[.val (.int p1), .val (.int p2), .val (.int p3), .val (.int p4), .val (.int (p1 &&& (3 : Int32))), .val (.int c0), .val (.int c1), .val (.int c2), .val (.ref b104), .val (.ref b105), .val .null] [])) _
    refine XS.iconst X110.here hx rfl (hb hby at_131) ?_
    show Steps p.tables e below (T110.setTop (mkF m 132 #[.val (.int p1), .val (.int p2), .val (.int p3), .val (.int p4), .val (.int (p1 &&& (3 : Int32))), .val (.int c0), .val (.int c1), .val (.int c2), .val (.ref b104), .val (.ref b105), .val .null] [(.int (1 : Int32))])) _
    refine XS.goto X110.here hx rfl (pc0 := 132) (pc' := 136) rfl (hb hby at_132) (by decide) (by decide) ?_
    show Steps p.tables e below (T110.setTop (mkF m 136 #[.val (.int p1), .val (.int p2), .val (.int p3), .val (.int p4), .val (.int (p1 &&& (3 : Int32))), .val (.int c0), .val (.int c1), .val (.int c2), .val (.ref b104), .val (.ref b105), .val .null] [(.int (1 : Int32))])) _
    exact retN X110 hx (t := .boolean) Bd.returns (by simp) (hb hby at_136) hr
  · show Q0 h0 n0 _ T110.heap _
    rw [e110]
    exact ⟨rfl, N110⟩
theorem own_w_backV : ∀ d ∈ StrChars.Road.words, d ∈ tables_1 := by decide +kernel
set_option maxRecDepth 65536 in
set_option maxHeartbeats 40000000 in
theorem rm0_1n (l : Launch) (Z : State) (a0 : Array Value) (hw : ∀ d ∈ tables_1, d.before a0 Z = true) (ws : List Jvm.Cond) (p1 p2 p3 p4 : Int32) (G1 : Int32) (kV : ClassId) (wV w0 w1 w2 w3 w4 w5 : Addr) (s0 s1 s2 s3 s4 s5 : Addr) (c0 c1 c2 : Int32) (h0 : Heap) (n0 : Nat) (O0 : Old Z n0 h0) (S_CS : Sta Z Z.heap "java/lang/String" "COMPACT_STRINGS" "Z" (.int G1)) (hG1 : ¬ (G1 = (0 : Int32))) (S_V : Sta Z Z.heap "com/example/plugroot/plugroot/sql/Comparison" "$VALUES" "[Lcom/example/plugroot/plugroot/sql/Comparison;" (.ref wV)) (A_V : Arv Z Z.heap wV kV (.object "com/example/plugroot/plugroot/sql/Comparison") (6 : Int32) [(.ref w0), (.ref w1), (.ref w2), (.ref w3), (.ref w4), (.ref w5)] .null) (E_V : Exa Z Z.heap wV "[Lcom/example/plugroot/plugroot/sql/Comparison;") (M0 : Fld Z Z.heap w0 "com/example/plugroot/plugroot/sql/Comparison" "symbol" "Ljava/lang/String;" (.ref s0)) (M1 : Fld Z Z.heap w1 "com/example/plugroot/plugroot/sql/Comparison" "symbol" "Ljava/lang/String;" (.ref s1)) (M2 : Fld Z Z.heap w2 "com/example/plugroot/plugroot/sql/Comparison" "symbol" "Ljava/lang/String;" (.ref s2)) (M3 : Fld Z Z.heap w3 "com/example/plugroot/plugroot/sql/Comparison" "symbol" "Ljava/lang/String;" (.ref s3)) (M4 : Fld Z Z.heap w4 "com/example/plugroot/plugroot/sql/Comparison" "symbol" "Ljava/lang/String;" (.ref s4)) (M5 : Fld Z Z.heap w5 "com/example/plugroot/plugroot/sql/Comparison" "symbol" "Ljava/lang/String;" (.ref s5)) (T0 : Str Z Z.heap s0 ([(61 : Int32)] : List Int32)) (T1 : Str Z Z.heap s1 ([(60 : Int32), (62 : Int32)] : List Int32)) (T2 : Str Z Z.heap s2 ([(60 : Int32)] : List Int32)) (T3 : Str Z Z.heap s3 ([(62 : Int32)] : List Int32)) (T4 : Str Z Z.heap s4 ([(60 : Int32), (61 : Int32)] : List Int32)) (T5 : Str Z Z.heap s5 ([(62 : Int32), (61 : Int32)] : List Int32)) (S0 : Sta Z Z.heap "com/example/plugroot/plugroot/sql/Comparison" "EQUAL" "Lcom/example/plugroot/plugroot/sql/Comparison;" (.ref w0)) (S1 : Sta Z Z.heap "com/example/plugroot/plugroot/sql/Comparison" "NOT_EQUAL" "Lcom/example/plugroot/plugroot/sql/Comparison;" (.ref w1)) (S2 : Sta Z Z.heap "com/example/plugroot/plugroot/sql/Comparison" "LESS" "Lcom/example/plugroot/plugroot/sql/Comparison;" (.ref w2)) (S3 : Sta Z Z.heap "com/example/plugroot/plugroot/sql/Comparison" "GREATER" "Lcom/example/plugroot/plugroot/sql/Comparison;" (.ref w3)) (S4 : Sta Z Z.heap "com/example/plugroot/plugroot/sql/Comparison" "LESS_OR_EQUAL" "Lcom/example/plugroot/plugroot/sql/Comparison;" (.ref w4)) (S5 : Sta Z Z.heap "com/example/plugroot/plugroot/sql/Comparison" "GREATER_OR_EQUAL" "Lcom/example/plugroot/plugroot/sql/Comparison;" (.ref w5)) (hd0 : c0 = drawF p2) (hd1 : c1 = drawF p3) (hd2 : c2 = drawF p4) (hr0 : ¬ c0 < 0 ∧ ¬ (255 : Int32) < c0) (hr1 : ¬ c1 < 0 ∧ ¬ (255 : Int32) < c1) (hr2 : ¬ c2 < 0 ∧ ¬ (255 : Int32) < c2) (hof : .null = specF w0 w1 w2 w3 w4 w5 ([c0] : List Int32)) (hex : .null = expF w0 w1 w2 w3 w4 w5 (p1 &&& (3 : Int32)) c0 c1) (k0 : ¬ ((p1 &&& (3 : Int32)) = 0)) (k1 : (p1 &&& (3 : Int32)) = 1) :
    MetFree l x (head1 (Jvm.Cond.code x code maxLocals ret :: ws) room_1) (fun a_ U => a_ = #[(.int p1), (.int p2), (.int p3), (.int p4)] ∧ Z.Warmed39 U.vm ∧ U.heap = h0 ∧ CHv Z consts_1 U.vm h0) (fun _ _ _ _ _ => True) (fun _ U o U' => ∃ v L, o = .returned v ∧ Q0 h0 n0 v U'.heap L ∧ CHr Z consts_1 U.vm U.heap U'.vm U'.heap ∧ ReturnedEndW U o U' L room_1.cells room_1.slots) := by
  refine MetFree.of_bodySF (plainFor_of_name pn_0) hisR ?_
  intro p e s m args below meth c s₁ Bd hml0 hP hK
  obtain ⟨rfl, hZ, hh, hC⟩ := hP
  have hx := Bd.exec
  have hby := Bd.bytes
  have hml : c.maxLocals = 11 := hml0
  have hown : s.vm.findClass "com/example/plugroot/plugroot/sql/ComparisonOfPinLaw" = some m.cls := findClass_of_methodNamed Bd.named
  have hnm := (name_of_methodNamed Bd.named Bd.method).1
  have X0 : Stand p l e room_1 (s.setVm s.vm) m #[(.int p1), (.int p2), (.int p3), (.int p4)] below meth c s₁ [] 0 0 := Stand.of_body Bd
  have e0 : s₁.heap = h0 := by rw [← hh, Bd.state]; rfl
  have N0 := Fr.nil n0
  have pre0 : ∀ tg, Steps p.tables e below (s₁.setTop (mkF m 0 #[.val (.int p1), .val (.int p2), .val (.int p3), .val (.int p4), .unset, .unset, .unset, .unset, .unset, .unset, .unset] [])) tg → Steps p.tables e below (s₁.setTop (entryFrame m #[(.int p1), (.int p2), (.int p3), (.int p4)] maxLocals)) tg := fun tg kq => castTop (ef_IIII_11m m p1 p2 p3 p4) kq
  have hS0 : s.Since s.vm h0.size := (State.WarmedH.refl s).since _
  have hk0 : h0.size ≤ h0.size := Nat.le_refl _
  have CR0 : CHr Z consts_1 s.vm h0 s.vm h0 := CHr.refl hC
  obtain ⟨tm0, kbm0, Nm0, vsm0, sEm0, sVm0, sCm0, sKm0, scdm0, shpm0, shlm0⟩ := id T0
  obtain ⟨tm1, kbm1, Nm1, vsm1, sEm1, sVm1, sCm1, sKm1, scdm1, shpm1, shlm1⟩ := id T1
  obtain ⟨tm2, kbm2, Nm2, vsm2, sEm2, sVm2, sCm2, sKm2, scdm2, shpm2, shlm2⟩ := id T2
  obtain ⟨tm3, kbm3, Nm3, vsm3, sEm3, sVm3, sCm3, sKm3, scdm3, shpm3, shlm3⟩ := id T3
  obtain ⟨tm4, kbm4, Nm4, vsm4, sEm4, sVm4, sCm4, sKm4, scdm4, shpm4, shlm4⟩ := id T4
  obtain ⟨tm5, kbm5, Nm5, vsm5, sEm5, sVm5, sCm5, sKm5, scdm5, shpm5, shlm5⟩ := id T5
  obtain ⟨_, _, ⟨T101, L101, k101, n101⟩, -, X101, ⟨Lc101, hQ101, l101, y101, z101⟩, st101⟩ := Jvm.LawKit.callS X0 hx (y := (⟨"com/example/plugroot/plugroot/sql/ComparisonOfPinLaw", "draw", "(I)C"⟩ : MethodName)) hown (mvT hZ (wi hw 0 rfl)) (mvT hZ (wi hw 1 rfl)) (mvT hZ (wi hw 2 rfl)) (mvT hZ (wi hw 3 rfl)) (by decide) (backOf (W := 0) (rm1 l Z a0 hw [] p2 c0 h0 n0 O0 hd0) hZ (wi hw 3 rfl) (wi hw 2 rfl) (by decide) (by decide)) (g := (mkF m 6 #[.val (.int p1), .val (.int p2), .val (.int p3), .val (.int p4), .val (.int (p1 &&& (3 : Int32))), .unset, .unset, .unset, .unset, .unset, .unset] [(.int p2)])) rfl (by rw [hml]; rfl) (argsL := [(.int p2)]) (rest := []) (lenOf pd_3 rfl) rfl (by show 2 * 0 + _ ≤ _; exact Nat.le_of_eq rfl) (hb hby at_6) (fun _ _ => ⟨rfl, e0, (by decide : 0 + 0 ≤ _), (by decide : 0 + 0 ≤ _)⟩)
  dsimp only [Pt.U, Pt.locs, Pt.cells, Pt.slots] at X101 l101 y101 z101 st101 hQ101
  subst l101 y101 z101
  obtain ⟨rfl, N101q, hh101⟩ := hQ101
  have e101 : T101.heap = h0 := hh101
  have N101 := Fr.app N0 N101q
  obtain ⟨_, _, ⟨T102, L102, k102, n102⟩, -, X102, ⟨Lc102, hQ102, l102, y102, z102⟩, st102⟩ := Jvm.LawKit.callS X101 hx (y := (⟨"com/example/plugroot/plugroot/sql/ComparisonOfPinLaw", "draw", "(I)C"⟩ : MethodName)) hown (mvT hZ (wi hw 0 rfl)) (mvT hZ (wi hw 1 rfl)) (mvT hZ (wi hw 2 rfl)) (mvT hZ (wi hw 3 rfl)) (by decide) (backOf (W := 0) (rm1 l Z a0 hw [] p3 c1 h0 n0 O0 hd1) hZ (wi hw 3 rfl) (wi hw 2 rfl) (by decide) (by decide)) (g := (mkF m 12 #[.val (.int p1), .val (.int p2), .val (.int p3), .val (.int p4), .val (.int (p1 &&& (3 : Int32))), .val (.int c0), .unset, .unset, .unset, .unset, .unset] [(.int p3)])) rfl (by rw [hml]; rfl) (argsL := [(.int p3)]) (rest := []) (lenOf pd_3 rfl) rfl (by show 2 * 0 + _ ≤ _; exact Nat.le_of_eq rfl) (hb hby at_12) (fun _ _ => ⟨rfl, e101, (by decide : 0 + 0 ≤ _), (by decide : 0 + 0 ≤ _)⟩)
  dsimp only [Pt.U, Pt.locs, Pt.cells, Pt.slots] at X102 l102 y102 z102 st102 hQ102
  subst l102 y102 z102
  obtain ⟨rfl, N102q, hh102⟩ := hQ102
  have e102 : T102.heap = h0 := hh102
  have N102 := Fr.app N101 N102q
  obtain ⟨_, _, ⟨T103, L103, k103, n103⟩, -, X103, ⟨Lc103, hQ103, l103, y103, z103⟩, st103⟩ := Jvm.LawKit.callS X102 hx (y := (⟨"com/example/plugroot/plugroot/sql/ComparisonOfPinLaw", "draw", "(I)C"⟩ : MethodName)) hown (mvT hZ (wi hw 0 rfl)) (mvT hZ (wi hw 1 rfl)) (mvT hZ (wi hw 2 rfl)) (mvT hZ (wi hw 3 rfl)) (by decide) (backOf (W := 0) (rm1 l Z a0 hw [] p4 c2 h0 n0 O0 hd2) hZ (wi hw 3 rfl) (wi hw 2 rfl) (by decide) (by decide)) (g := (mkF m 18 #[.val (.int p1), .val (.int p2), .val (.int p3), .val (.int p4), .val (.int (p1 &&& (3 : Int32))), .val (.int c0), .val (.int c1), .unset, .unset, .unset, .unset] [(.int p4)])) rfl (by rw [hml]; rfl) (argsL := [(.int p4)]) (rest := []) (lenOf pd_3 rfl) rfl (by show 2 * 0 + _ ≤ _; exact Nat.le_of_eq rfl) (hb hby at_18) (fun _ _ => ⟨rfl, e102, (by decide : 0 + 0 ≤ _), (by decide : 0 + 0 ≤ _)⟩)
  dsimp only [Pt.U, Pt.locs, Pt.cells, Pt.slots] at X103 l103 y103 z103 st103 hQ103
  subst l103 y103 z103
  obtain ⟨rfl, N103q, hh103⟩ := hQ103
  have e103 : T103.heap = h0 := hh103
  have N103 := Fr.app N102 N103q
  obtain ⟨T104, h104, k104, X104, e104, E104, A104, st104⟩ := newP X103 hx hZ (wi hw 4 rfl) e103 (g := (mkF m 43 #[.val (.int p1), .val (.int p2), .val (.int p3), .val (.int p4), .val (.int (p1 &&& (3 : Int32))), .val (.int c0), .val (.int c1), .val (.int c2), .unset, .unset, .unset] [(.int (1 : Int32))])) rfl (hb hby at_43) rfl (by decide) (cap := 1) (by decide) (by decide) (by decide) (by decide)
  obtain ⟨b104, g104⟩ : ∃ z, z = h0.size := ⟨_, rfl⟩
  rw [← g104] at A104 st104
  have g_b104 : n0 ≤ b104 := Nat.le_trans (O0.1 ▸ O0.2.1) (Nat.le_of_eq g104.symm)
  have sz_b104 : h0.size ≤ b104 := Nat.le_trans (Nat.le_refl _) (Nat.le_of_eq g104.symm)
  have O104 := O0.ext E104
  have CS104 := CHr.ext E104 CR0.1
  have CR104 := CR0.trans CS104
  have KK104 : Keep h0 h104 [] := (Keep.refl h0 []).ext E104
  have V_b104 : Arv Z h104 b104 k104 .char (1 : Int32) [(.int (0 : Int32))] (.int (0 : Int32)) := (Arv.new A104 (by decide)).pad (pad_rep [] (.int (0 : Int32)) 1)
  obtain ⟨cl_b104_47, Ar_b104_47, q_b104_47, S_b104_47, N_b104_47, H_b104_47, G_b104_47⟩ := id (V_b104)
  have hinb104_47 : ¬ ((0 : Int32) < 0 ∨ cl_b104_47.slots.size ≤ ((0 : Int32)).toNatClampNeg) := inb_of S_b104_47 ⟨by decide, by decide⟩
  obtain ⟨T105, h105, X105, e105, W105, st105⟩ := stC X104 hx hZ e104 Ar_b104_47 (j := (0 : Int32)) hinb104_47 (g := (mkF m 49 #[.val (.int p1), .val (.int p2), .val (.int p3), .val (.int p4), .val (.int (p1 &&& (3 : Int32))), .val (.int c0), .val (.int c1), .val (.int c2), .unset, .unset, .unset] [(.int c0), (.int (0 : Int32)), (.ref b104), (.ref b104)])) rfl rfl (hb hby at_49)
  have V_b104_105 : Arv Z h105 b104 k104 .char (1 : Int32) [(.int (nar .char c0))] (.int (0 : Int32)) := Arv.set Ar_b104_47 q_b104_47 S_b104_47 N_b104_47 H_b104_47 G_b104_47 (fits_nar_char _) W105 0 rfl (Nat.le_of_ble_eq_true rfl)
  have V_b104_105' : Arv Z h105 b104 k104 .char (1 : Int32) [(.int c0)] (.int (0 : Int32)) := by have q := V_b104_105; rw [own_nar hr0] at q; exact q
  have O105 := O104.wr W105 g_b104
  have CS105 := CHr.wr W105 (Safe.arv hZ.alike V_b104 (by decide)) CR104.1
  have CR105 := CR104.trans CS105
  have KK105 : Keep h0 h105 [] := KK104.wr W105 (Or.inr sz_b104)
  have N105 := Fr.snoc X105 N103 g_b104
  obtain ⟨T106, h106, X106, e106, E106, A106, D106, -, st106⟩ := newO X105 hx hZ hown (wi hw 5 rfl) (wi hw 6 rfl) (wi hw 7 rfl) e105 (g := (mkF m 99 #[.val (.int p1), .val (.int p2), .val (.int p3), .val (.int p4), .val (.int (p1 &&& (3 : Int32))), .val (.int c0), .val (.int c1), .val (.int c2), .val (.ref b104), .unset, .unset] [])) rfl (hb hby at_99) (by decide) (by decide)
  obtain ⟨b106, g106⟩ : ∃ z, z = h105.size := ⟨_, rfl⟩
  rw [← g106] at A106 D106 st106
  have g_b106 : n0 ≤ b106 := Nat.le_trans (O105.1 ▸ O105.2.1) (Nat.le_of_eq g106.symm)
  have sz_b106 : h0.size ≤ b106 := Nat.le_trans KK105.1 (Nat.le_of_eq g106.symm)
  have O106 := O105.ext E106
  have CS106 := CHr.ext E106 CR105.1
  have CR106 := CR105.trans CS106
  have KK106 : Keep h0 h106 [] := KK105.ext E106
  have sf_b106 : Safe Z consts_1 s.vm h106 b106 := Safe.ext E106 CR105.1 (Safe.new (Nat.le_of_eq g106.symm))
  have F_value_b106 : Fld Z h106 b106 "java/lang/String" "value" "[B" .null := D106 (Or.inr (wi hw 20 rfl)) (ty := (.array .byte)) (by decide)
  have F_coder_b106 : Fld Z h106 b106 "java/lang/String" "coder" "B" (.int (0 : Int32)) := D106 (Or.inr (wi hw 21 rfl)) (ty := .byte) (by decide)
  have fV_b104_3_107 := (V_b104_105'.ext E106)
  have shp108 : ∀ c ∈ ([c0] : List Int32), ¬ c < 0 ∧ ¬ (255 : Int32) < c := (own_memS hr0 own_mem0)
  have sA108 : Arv Z h106 b104 k104 .char (1 : Int32) (([c0] : List Int32).map Value.int) (.int (0 : Int32)) := fV_b104_3_107
  obtain ⟨_, _, ⟨T109, L109, k109, n109⟩, -, X109, ⟨Lc109, hQ109, l109, y109, z109⟩, st109⟩ := X106.specialBack hx (y := (⟨"java/lang/String", "<init>", "([C)V"⟩ : MethodName)) rfl hown (mvT hZ (wi hw 8 rfl)) (mvT hZ (wi hw 9 rfl)) (mvT hZ (wi hw 10 rfl)) (by decide) (StrChars.Road.backV (W := 1) hZ (fun d hd => hw d (own_w_backV d hd)) (kI := 4) (wi hw 6 rfl) (cs := ([c0] : List Int32)) (bs := ([c0] : List Int32).map (fun c => c.toInt8.toInt32)) (n := 1) g_b106 (O106.1 ▸ O106.2.1) A106 F_value_b106 F_coder_b106 sA108 (S_CS.ext O106.2) hG1 rfl rfl (by decide) (by decide) shp108 rfl (by decide) (by decide)) (g := (mkF m 105 #[.val (.int p1), .val (.int p2), .val (.int p3), .val (.int p4), .val (.int (p1 &&& (3 : Int32))), .val (.int c0), .val (.int c1), .val (.int c2), .val (.ref b104), .unset, .unset] [(.ref b104), (.ref b106), (.ref b106)])) rfl (by rw [hml]; rfl) (Steps.refl _) (a := b106) (argsL := [(.ref b104)]) (rest := [(.ref b106)]) (lenOf pd_4 rfl) rfl (by show 2 * 0 + _ ≤ _; exact Nat.le_of_eq rfl) (hb hby at_105) (fun _ _ => ⟨rfl, e106, (by decide : 2 + 1 ≤ _), (by decide : 5 + 1 ≤ _)⟩)
  dsimp only [Pt.U, Pt.locs, Pt.cells, Pt.slots] at X109 l109 y109 z109 st109 hQ109
  subst l109 y109 z109
  obtain ⟨rfl, N109q, K109, sE108, sC108, t108, kb108, sg108, ssz108, sne108, sV108, sK108⟩ := hQ109
  obtain ⟨h109, e109⟩ : ∃ z, T109.heap = z := ⟨_, rfl⟩
  rw [e109] at K109 sE108 sC108 sV108 sK108
  have g_t108 : n0 ≤ t108 := Nat.le_trans (O106.1 ▸ O106.2.1) ssz108
  have sz_t108 : h0.size ≤ t108 := Nat.le_trans KK106.1 ssz108
  have O109 := O106.keep K109 (allS g_b106 all0)
  have CS109 := CHr.keep K109 (sfS sf_b106 sf0) CR106.1
  have CR109 := CR106.trans CS109
  have KK109 : Keep h0 h109 [] := KK106.trans K109 (allS (Or.inr sz_b106) all0)
  have N109 := Fr.app N105 N109q
  have scd108 : StrChars.Road.CodA ([c0] : List Int32) 0 (1 : Int32) ((([c0] : List Int32).map (fun c => c.toInt8.toInt32)).map Value.int) := StrChars.Road.codOf (n := 1) rfl (fun c hc => (shp108 c hc).2)
  obtain ⟨_, _, ⟨T110, L110, k110, n110⟩, -, Xr110, hSr110, gr110, ⟨Lc110, hQ110, l110, y110, z110, CSr110⟩, st110⟩ := Jvm.RoadKit.callSS X109 hx (y := (⟨"com/example/plugroot/plugroot/sql/Comparison", "of", "(Ljava/lang/String;)Lcom/example/plugroot/plugroot/sql/Comparison;"⟩ : MethodName)) hown (mvT hZ (wi hw 26 rfl)) (mvT hZ (wi hw 27 rfl)) (mvT hZ (wi hw 28 rfl)) (mvT hZ (wi hw 29 rfl)) (by decide) (backOfSH (W := 0) (rm5 l Z a0 hw [] G1 kV wV w0 w1 w2 w3 w4 w5 s0 s1 s2 s3 s4 s5 b106 ([c0] : List Int32) .null h109 n0 O109 S_CS hG1 S_V A_V E_V M0 M1 M2 M3 M4 M5 T0 T1 T2 T3 T4 T5 ⟨_, _, _, _, sE108, sV108, sC108, sK108, scd108, shp108, (Nat.le_of_ble_eq_true rfl)⟩ hof) hZ (wi hw 29 rfl) (wi hw 28 rfl) (by decide) (by decide) (own_EW hw) CR109.1) (g := (mkF m 112 #[.val (.int p1), .val (.int p2), .val (.int p3), .val (.int p4), .val (.int (p1 &&& (3 : Int32))), .val (.int c0), .val (.int c1), .val (.int c2), .val (.ref b104), .val (.ref b106), .unset] [(.ref b106)])) rfl (by rw [hml]; rfl) (argsL := [(.ref b106)]) (rest := []) (lenOf pd_5 rfl) rfl (by show 2 * 0 + _ ≤ _; exact Nat.le_of_eq rfl) (hb hby at_112) (fun _ _ => ⟨rfl, e109, (by decide : 3 + 5 ≤ _), (by decide : 6 + 30 ≤ _)⟩)
  dsimp only [Pt.U, Pt.locs, Pt.cells, Pt.slots] at Xr110 l110 y110 z110 st110 hQ110 hSr110 gr110 CSr110
  subst l110 y110 z110
  obtain ⟨X110, hS110, hZ110, hown110⟩ := rebS hS0 (by rw [e109]; exact (Nat.le_trans (Nat.le_trans (Nat.le_trans (Nat.le_trans hk0 E104.1) (Keep.of_wr W105).1) E106.1) K109.1)) Xr110 hSr110 gr110 hZ hown
  obtain ⟨rfl, N110q, K110⟩ := hQ110
  obtain ⟨h110, e110⟩ : ∃ z, T110.heap = z := ⟨_, rfl⟩
  rw [e110] at K110
  rw [e110] at CSr110
  have O110 := O109.keep K110 all0
  have CS110 := CSr110
  have CR110 := CR109.trans CS110
  have KK110 : Keep h0 h110 [] := KK109.trans K110 all0
  rw [e110] at hS110
  have N110 := Fr.app N109 N110q
  obtain ⟨_, _, ⟨T111, L111, k111, n111⟩, -, X111, ⟨Lc111, hQ111, l111, y111, z111⟩, st111⟩ := Jvm.LawKit.callS X110 hx (y := (⟨"com/example/plugroot/plugroot/sql/ComparisonOfPinLaw", "expected", "(ICC)Lcom/example/plugroot/plugroot/sql/Comparison;"⟩ : MethodName)) hown110 (mvT hZ110 (wi hw 65 rfl)) (mvT hZ110 (wi hw 66 rfl)) (mvT hZ110 (wi hw 2 rfl)) (mvT hZ110 (wi hw 67 rfl)) (by decide) (backOf (W := 1) (rm9 l Z a0 hw [] w0 w1 w2 w3 w4 w5 (p1 &&& (3 : Int32)) c0 c1 .null h110 n0 O110 S0 S1 S2 S3 S4 S5 hex) hZ110 (wi hw 67 rfl) (wi hw 2 rfl) (by decide) (by decide)) (g := (mkF m 125 #[.val (.int p1), .val (.int p2), .val (.int p3), .val (.int p4), .val (.int (p1 &&& (3 : Int32))), .val (.int c0), .val (.int c1), .val (.int c2), .val (.ref b104), .val (.ref b106), .val .null] [(.int c1), (.int c0), (.int (p1 &&& (3 : Int32))), .null])) rfl (by rw [hml]; rfl) (argsL := [(.int (p1 &&& (3 : Int32))), (.int c0), (.int c1)]) (rest := [.null]) (lenOf pd_6 rfl) rfl (by show 2 * 0 + _ ≤ _; exact Nat.le_of_eq rfl) (hb hby at_125) (fun _ _ => ⟨rfl, e110, (by decide : 8 + 0 ≤ _), (by decide : 36 + 0 ≤ _)⟩)
  dsimp only [Pt.U, Pt.locs, Pt.cells, Pt.slots] at X111 l111 y111 z111 st111 hQ111
  subst l111 y111 z111
  obtain ⟨rfl, N111q, hh111⟩ := hQ111
  have e111 : T111.heap = h110 := hh111
  have N111 := Fr.app N110 N111q
  obtain ⟨fs, hr, hrun, hended, hREW⟩ := X111.leaveW hS110 (by rw [e111]; exact (Nat.le_refl _)) (v := some (.int (1 : Int32))) (fun h => by rw [Bd.returns] at h; cases h)
  refine ⟨_, _, pre0 _ ?_, hrun, hended, _, _, rfl, ?_, (by rw [hh]; show CHr Z consts_1 s.vm h0 T111.vm T111.heap; rw [e111]; exact CR110.trans (CHv.at X111 hZ110 (own_EW hw) CR110.1)), hREW.1, hREW.2.1, hREW.2.2.1, hREW.2.2.2.mono (by decide) (by decide)⟩
  · show Steps p.tables e below (s₁.setTop (mkF m 0 #[.val (.int p1), .val (.int p2), .val (.int p3), .val (.int p4), .unset, .unset, .unset, .unset, .unset, .unset, .unset] [])) _
    refine XS.iloadN X0.here hx rfl (hb hby at_0) rfl ?_
    show Steps p.tables e below (s₁.setTop (mkF m 1 #[.val (.int p1), .val (.int p2), .val (.int p3), .val (.int p4), .unset, .unset, .unset, .unset, .unset, .unset, .unset] [(.int p1)])) _
    refine XS.iconst X0.here hx rfl (hb hby at_1) ?_
    show Steps p.tables e below (s₁.setTop (mkF m 2 #[.val (.int p1), .val (.int p2), .val (.int p3), .val (.int p4), .unset, .unset, .unset, .unset, .unset, .unset, .unset] [(.int (3 : Int32)), (.int p1)])) _
    refine XS.iand X0.here hx rfl (hb hby at_2) rfl ?_
    show Steps p.tables e below (s₁.setTop (mkF m 3 #[.val (.int p1), .val (.int p2), .val (.int p3), .val (.int p4), .unset, .unset, .unset, .unset, .unset, .unset, .unset] [(.int (p1 &&& (3 : Int32)))])) _
    refine XS.istore X0.here hx rfl (hb hby at_3) rfl (l' := #[.val (.int p1), .val (.int p2), .val (.int p3), .val (.int p4), .val (.int (p1 &&& (3 : Int32))), .unset, .unset, .unset, .unset, .unset, .unset]) rfl ?_
    show Steps p.tables e below (s₁.setTop (mkF m 5 #[.val (.int p1), .val (.int p2), .val (.int p3), .val (.int p4), .val (.int (p1 &&& (3 : Int32))), .unset, .unset, .unset, .unset, .unset, .unset] [])) _
    refine XS.iloadN X0.here hx rfl (hb hby at_5) rfl ?_
    show Steps p.tables e below (s₁.setTop (mkF m 6 #[.val (.int p1), .val (.int p2), .val (.int p3), .val (.int p4), .val (.int (p1 &&& (3 : Int32))), .unset, .unset, .unset, .unset, .unset, .unset] [(.int p2)])) _
    refine st101 _ ?_
    show Steps p.tables e below (T101.setTop (mkF m 9 #[.val (.int p1), .val (.int p2), .val (.int p3), .val (.int p4), .val (.int (p1 &&& (3 : Int32))), .unset, .unset, .unset, .unset, .unset, .unset] [(.int c0)])) _
    refine XS.istore X101.here hx rfl (hb hby at_9) rfl (l' := #[.val (.int p1), .val (.int p2), .val (.int p3), .val (.int p4), .val (.int (p1 &&& (3 : Int32))), .val (.int c0), .unset, .unset, .unset, .unset, .unset]) rfl ?_
    show Steps p.tables e below (T101.setTop (mkF m 11 #[.val (.int p1), .val (.int p2), .val (.int p3), .val (.int p4), .val (.int (p1 &&& (3 : Int32))), .val (.int c0), .unset, .unset, .unset, .unset, .unset] [])) _
    refine XS.iloadN X101.here hx rfl (hb hby at_11) rfl ?_
    show Steps p.tables e below (T101.setTop (mkF m 12 #[.val (.int p1), .val (.int p2), .val (.int p3), .val (.int p4), .val (.int (p1 &&& (3 : Int32))), .val (.int c0), .unset, .unset, .unset, .unset, .unset] [(.int p3)])) _
    refine st102 _ ?_
    show Steps p.tables e below (T102.setTop (mkF m 15 #[.val (.int p1), .val (.int p2), .val (.int p3), .val (.int p4), .val (.int (p1 &&& (3 : Int32))), .val (.int c0), .unset, .unset, .unset, .unset, .unset] [(.int c1)])) _
    refine XS.istore X102.here hx rfl (hb hby at_15) rfl (l' := #[.val (.int p1), .val (.int p2), .val (.int p3), .val (.int p4), .val (.int (p1 &&& (3 : Int32))), .val (.int c0), .val (.int c1), .unset, .unset, .unset, .unset]) rfl ?_
    show Steps p.tables e below (T102.setTop (mkF m 17 #[.val (.int p1), .val (.int p2), .val (.int p3), .val (.int p4), .val (.int (p1 &&& (3 : Int32))), .val (.int c0), .val (.int c1), .unset, .unset, .unset, .unset] [])) _
    refine XS.iloadN X102.here hx rfl (hb hby at_17) rfl ?_
    show Steps p.tables e below (T102.setTop (mkF m 18 #[.val (.int p1), .val (.int p2), .val (.int p3), .val (.int p4), .val (.int (p1 &&& (3 : Int32))), .val (.int c0), .val (.int c1), .unset, .unset, .unset, .unset] [(.int p4)])) _
    refine st103 _ ?_
    show Steps p.tables e below (T103.setTop (mkF m 21 #[.val (.int p1), .val (.int p2), .val (.int p3), .val (.int p4), .val (.int (p1 &&& (3 : Int32))), .val (.int c0), .val (.int c1), .unset, .unset, .unset, .unset] [(.int c2)])) _
    refine XS.istore X103.here hx rfl (hb hby at_21) rfl (l' := #[.val (.int p1), .val (.int p2), .val (.int p3), .val (.int p4), .val (.int (p1 &&& (3 : Int32))), .val (.int c0), .val (.int c1), .val (.int c2), .unset, .unset, .unset]) rfl ?_
    show Steps p.tables e below (T103.setTop (mkF m 23 #[.val (.int p1), .val (.int p2), .val (.int p3), .val (.int p4), .val (.int (p1 &&& (3 : Int32))), .val (.int c0), .val (.int c1), .val (.int c2), .unset, .unset, .unset] [])) _
    refine XS.iload X103.here hx rfl (hb hby at_23) rfl ?_
    show Steps p.tables e below (T103.setTop (mkF m 25 #[.val (.int p1), .val (.int p2), .val (.int p3), .val (.int p4), .val (.int (p1 &&& (3 : Int32))), .val (.int c0), .val (.int c1), .val (.int c2), .unset, .unset, .unset] [(.int (p1 &&& (3 : Int32)))])) _
    refine XS.ifYes X103.here hx rfl (pc0 := 25) (pc' := 36) rfl (hb hby at_25) rfl ((if0 _ _).trans (feq k0).2) (by decide) (by decide) ?_
    show Steps p.tables e below (T103.setTop (mkF m 36 #[.val (.int p1), .val (.int p2), .val (.int p3), .val (.int p4), .val (.int (p1 &&& (3 : Int32))), .val (.int c0), .val (.int c1), .val (.int c2), .unset, .unset, .unset] [])) _
    refine XS.iload X103.here hx rfl (hb hby at_36) rfl ?_
    show Steps p.tables e below (T103.setTop (mkF m 38 #[.val (.int p1), .val (.int p2), .val (.int p3), .val (.int p4), .val (.int (p1 &&& (3 : Int32))), .val (.int c0), .val (.int c1), .val (.int c2), .unset, .unset, .unset] [(.int (p1 &&& (3 : Int32)))])) _
    refine XS.iconst X103.here hx rfl (hb hby at_38) ?_
    show Steps p.tables e below (T103.setTop (mkF m 39 #[.val (.int p1), .val (.int p2), .val (.int p3), .val (.int p4), .val (.int (p1 &&& (3 : Int32))), .val (.int c0), .val (.int c1), .val (.int c2), .unset, .unset, .unset] [(.int (1 : Int32)), (.int (p1 &&& (3 : Int32)))])) _
    refine XS.icmpNo X103.here hx rfl (hb hby at_39) rfl (teq k1).2 ?_
    show Steps p.tables e below (T103.setTop (mkF m 42 #[.val (.int p1), .val (.int p2), .val (.int p3), .val (.int p4), .val (.int (p1 &&& (3 : Int32))), .val (.int c0), .val (.int c1), .val (.int c2), .unset, .unset, .unset] [])) _
    refine XS.iconst X103.here hx rfl (hb hby at_42) ?_
    show Steps p.tables e below (T103.setTop (mkF m 43 #[.val (.int p1), .val (.int p2), .val (.int p3), .val (.int p4), .val (.int (p1 &&& (3 : Int32))), .val (.int c0), .val (.int c1), .val (.int c2), .unset, .unset, .unset] [(.int (1 : Int32))])) _
    refine st104 _ ?_
    show Steps p.tables e below (T104.setTop (mkF m 45 #[.val (.int p1), .val (.int p2), .val (.int p3), .val (.int p4), .val (.int (p1 &&& (3 : Int32))), .val (.int c0), .val (.int c1), .val (.int c2), .unset, .unset, .unset] [(.ref b104)])) _
    refine XS.dup X104.here hx rfl (hb hby at_45) rfl rfl ?_
    show Steps p.tables e below (T104.setTop (mkF m 46 #[.val (.int p1), .val (.int p2), .val (.int p3), .val (.int p4), .val (.int (p1 &&& (3 : Int32))), .val (.int c0), .val (.int c1), .val (.int c2), .unset, .unset, .unset] [(.ref b104), (.ref b104)])) _
    refine XS.iconst X104.here hx rfl (hb hby at_46) ?_
    show Steps p.tables e below (T104.setTop (mkF m 47 #[.val (.int p1), .val (.int p2), .val (.int p3), .val (.int p4), .val (.int (p1 &&& (3 : Int32))), .val (.int c0), .val (.int c1), .val (.int c2), .unset, .unset, .unset] [(.int (0 : Int32)), (.ref b104), (.ref b104)])) _
    refine XS.iload X104.here hx rfl (hb hby at_47) rfl ?_
    show Steps p.tables e below (T104.setTop (mkF m 49 #[.val (.int p1), .val (.int p2), .val (.int p3), .val (.int p4), .val (.int (p1 &&& (3 : Int32))), .val (.int c0), .val (.int c1), .val (.int c2), .unset, .unset, .unset] [(.int c0), (.int (0 : Int32)), (.ref b104), (.ref b104)])) _
    refine st105 _ ?_
    show Steps p.tables e below (T105.setTop (mkF m 50 #[.val (.int p1), .val (.int p2), .val (.int p3), .val (.int p4), .val (.int (p1 &&& (3 : Int32))), .val (.int c0), .val (.int c1), .val (.int c2), .unset, .unset, .unset] [(.ref b104)])) _
    refine XS.astore X105.here hx rfl (hb hby at_50) rfl rfl (l' := #[.val (.int p1), .val (.int p2), .val (.int p3), .val (.int p4), .val (.int (p1 &&& (3 : Int32))), .val (.int c0), .val (.int c1), .val (.int c2), .val (.ref b104), .unset, .unset]) rfl ?_
    show Steps p.tables e below (T105.setTop (mkF m 52 #[.val (.int p1), .val (.int p2), .val (.int p3), .val (.int p4), .val (.int (p1 &&& (3 : Int32))), .val (.int c0), .val (.int c1), .val (.int c2), .val (.ref b104), .unset, .unset] [])) _
    refine XS.goto X105.here hx rfl (pc0 := 52) (pc' := 99) rfl (hb hby at_52) (by decide) (by decide) ?_
    show Steps p.tables e below (T105.setTop (mkF m 99 #[.val (.int p1), .val (.int p2), .val (.int p3), .val (.int p4), .val (.int (p1 &&& (3 : Int32))), .val (.int c0), .val (.int c1), .val (.int c2), .val (.ref b104), .unset, .unset] [])) _
    refine st106 _ ?_
    show Steps p.tables e below (T106.setTop (mkF m 102 #[.val (.int p1), .val (.int p2), .val (.int p3), .val (.int p4), .val (.int (p1 &&& (3 : Int32))), .val (.int c0), .val (.int c1), .val (.int c2), .val (.ref b104), .unset, .unset] [(.ref b106)])) _
    refine XS.dup X106.here hx rfl (hb hby at_102) rfl rfl ?_
    show Steps p.tables e below (T106.setTop (mkF m 103 #[.val (.int p1), .val (.int p2), .val (.int p3), .val (.int p4), .val (.int (p1 &&& (3 : Int32))), .val (.int c0), .val (.int c1), .val (.int c2), .val (.ref b104), .unset, .unset] [(.ref b106), (.ref b106)])) _
    refine XS.aload X106.here hx rfl (hb hby at_103) rfl rfl ?_
    show Steps p.tables e below (T106.setTop (mkF m 105 #[.val (.int p1), .val (.int p2), .val (.int p3), .val (.int p4), .val (.int (p1 &&& (3 : Int32))), .val (.int c0), .val (.int c1), .val (.int c2), .val (.ref b104), .unset, .unset] [(.ref b104), (.ref b106), (.ref b106)])) _
    refine st109.trans ?_
    show Steps p.tables e below (T109.setTop (mkF m 108 #[.val (.int p1), .val (.int p2), .val (.int p3), .val (.int p4), .val (.int (p1 &&& (3 : Int32))), .val (.int c0), .val (.int c1), .val (.int c2), .val (.ref b104), .unset, .unset] [(.ref b106)])) _
    refine XS.astore X109.here hx rfl (hb hby at_108) rfl rfl (l' := #[.val (.int p1), .val (.int p2), .val (.int p3), .val (.int p4), .val (.int (p1 &&& (3 : Int32))), .val (.int c0), .val (.int c1), .val (.int c2), .val (.ref b104), .val (.ref b106), .unset]) rfl ?_
    show Steps p.tables e below (T109.setTop (mkF m 110 #[.val (.int p1), .val (.int p2), .val (.int p3), .val (.int p4), .val (.int (p1 &&& (3 : Int32))), .val (.int c0), .val (.int c1), .val (.int c2), .val (.ref b104), .val (.ref b106), .unset] [])) _
    refine XS.aload X109.here hx rfl (hb hby at_110) rfl rfl ?_
    show Steps p.tables e below (T109.setTop (mkF m 112 #[.val (.int p1), .val (.int p2), .val (.int p3), .val (.int p4), .val (.int (p1 &&& (3 : Int32))), .val (.int c0), .val (.int c1), .val (.int c2), .val (.ref b104), .val (.ref b106), .unset] [(.ref b106)])) _
    refine st110.trans ?_
    show Steps p.tables e below (T110.setTop (mkF m 115 #[.val (.int p1), .val (.int p2), .val (.int p3), .val (.int p4), .val (.int (p1 &&& (3 : Int32))), .val (.int c0), .val (.int c1), .val (.int c2), .val (.ref b104), .val (.ref b106), .unset] [.null])) _
    refine XS.astore X110.here hx rfl (hb hby at_115) rfl rfl (l' := #[.val (.int p1), .val (.int p2), .val (.int p3), .val (.int p4), .val (.int (p1 &&& (3 : Int32))), .val (.int c0), .val (.int c1), .val (.int c2), .val (.ref b104), .val (.ref b106), .val .null]) rfl ?_
    show Steps p.tables e below (T110.setTop (mkF m 117 #[.val (.int p1), .val (.int p2), .val (.int p3), .val (.int p4), .val (.int (p1 &&& (3 : Int32))), .val (.int c0), .val (.int c1), .val (.int c2), .val (.ref b104), .val (.ref b106), .val .null] [])) _
    refine XS.aload X110.here hx rfl (hb hby at_117) rfl rfl ?_
    show Steps p.tables e below (T110.setTop (mkF m 119 #[.val (.int p1), .val (.int p2), .val (.int p3), .val (.int p4), .val (.int (p1 &&& (3 : Int32))), .val (.int c0), .val (.int c1), .val (.int c2), .val (.ref b104), .val (.ref b106), .val .null] [.null])) _
    refine XS.iload X110.here hx rfl (hb hby at_119) rfl ?_
    show Steps p.tables e below (T110.setTop (mkF m 121 #[.val (.int p1), .val (.int p2), .val (.int p3), .val (.int p4), .val (.int (p1 &&& (3 : Int32))), .val (.int c0), .val (.int c1), .val (.int c2), .val (.ref b104), .val (.ref b106), .val .null] [(.int (p1 &&& (3 : Int32))), .null])) _
    refine XS.iload X110.here hx rfl (hb hby at_121) rfl ?_
    show Steps p.tables e below (T110.setTop (mkF m 123 #[.val (.int p1), .val (.int p2), .val (.int p3), .val (.int p4), .val (.int (p1 &&& (3 : Int32))), .val (.int c0), .val (.int c1), .val (.int c2), .val (.ref b104), .val (.ref b106), .val .null] [(.int c0), (.int (p1 &&& (3 : Int32))), .null])) _
    refine XS.iload X110.here hx rfl (hb hby at_123) rfl ?_
    show Steps p.tables e below (T110.setTop (mkF m 125 #[.val (.int p1), .val (.int p2), .val (.int p3), .val (.int p4), .val (.int (p1 &&& (3 : Int32))), .val (.int c0), .val (.int c1), .val (.int c2), .val (.ref b104), .val (.ref b106), .val .null] [(.int c1), (.int c0), (.int (p1 &&& (3 : Int32))), .null])) _
    refine st111 _ ?_
    show Steps p.tables e below (T111.setTop (mkF m 128 #[.val (.int p1), .val (.int p2), .val (.int p3), .val (.int p4), .val (.int (p1 &&& (3 : Int32))), .val (.int c0), .val (.int c1), .val (.int c2), .val (.ref b104), .val (.ref b106), .val .null] [.null, .null])) _
    refine Jvm.RoadKit.acmp (g := (mkF m 128 #[.val (.int p1), .val (.int p2), .val (.int p3), .val (.int p4), .val (.int (p1 &&& (3 : Int32))), .val (.int c0), .val (.int c1), .val (.int c2), .val (.ref b104), .val (.ref b106), .val .null] [.null, .null])) X111 hx rfl rfl rfl (pc0 := 128) (pc' := 131) (same := true) rfl (hb hby at_128) rfl (decide_eq_true rfl) (by decide) (by decide) ?_
    show Steps p.tables e below (T111.setTop (mkF m 131 #[.val (.int p1), .val (.int p2), .val (.int p3), .val (.int p4), .val (.int (p1 &&& (3 : Int32))), .val (.int c0), .val (.int c1), .val (.int c2), .val (.ref b104), .val (.ref b106), .val .null] [])) _
    refine XS.iconst X111.here hx rfl (hb hby at_131) ?_
    show Steps p.tables e below (T111.setTop (mkF m 132 #[.val (.int p1), .val (.int p2), .val (.int p3), .val (.int p4), .val (.int (p1 &&& (3 : Int32))), .val (.int c0), .val (.int c1), .val (.int c2), .val (.ref b104), .val (.ref b106), .val .null] [(.int (1 : Int32))])) _
    refine XS.goto X111.here hx rfl (pc0 := 132) (pc' := 136) rfl (hb hby at_132) (by decide) (by decide) ?_
    show Steps p.tables e below (T111.setTop (mkF m 136 #[.val (.int p1), .val (.int p2), .val (.int p3), .val (.int p4), .val (.int (p1 &&& (3 : Int32))), .val (.int c0), .val (.int c1), .val (.int c2), .val (.ref b104), .val (.ref b106), .val .null] [(.int (1 : Int32))])) _
    exact retN X111 hx (t := .boolean) Bd.returns (by simp) (hb hby at_136) hr
  · show Q0 h0 n0 _ T111.heap _
    rw [e111]
    exact ⟨rfl, N111⟩
set_option maxRecDepth 65536 in
set_option maxHeartbeats 40000000 in
theorem rm0_1r (l : Launch) (Z : State) (a0 : Array Value) (hw : ∀ d ∈ tables_1, d.before a0 Z = true) (ws : List Jvm.Cond) (p1 p2 p3 p4 : Int32) (G1 : Int32) (kV : ClassId) (wV w0 w1 w2 w3 w4 w5 : Addr) (s0 s1 s2 s3 s4 s5 : Addr) (c0 c1 c2 : Int32) (wr : Addr) (h0 : Heap) (n0 : Nat) (O0 : Old Z n0 h0) (S_CS : Sta Z Z.heap "java/lang/String" "COMPACT_STRINGS" "Z" (.int G1)) (hG1 : ¬ (G1 = (0 : Int32))) (S_V : Sta Z Z.heap "com/example/plugroot/plugroot/sql/Comparison" "$VALUES" "[Lcom/example/plugroot/plugroot/sql/Comparison;" (.ref wV)) (A_V : Arv Z Z.heap wV kV (.object "com/example/plugroot/plugroot/sql/Comparison") (6 : Int32) [(.ref w0), (.ref w1), (.ref w2), (.ref w3), (.ref w4), (.ref w5)] .null) (E_V : Exa Z Z.heap wV "[Lcom/example/plugroot/plugroot/sql/Comparison;") (M0 : Fld Z Z.heap w0 "com/example/plugroot/plugroot/sql/Comparison" "symbol" "Ljava/lang/String;" (.ref s0)) (M1 : Fld Z Z.heap w1 "com/example/plugroot/plugroot/sql/Comparison" "symbol" "Ljava/lang/String;" (.ref s1)) (M2 : Fld Z Z.heap w2 "com/example/plugroot/plugroot/sql/Comparison" "symbol" "Ljava/lang/String;" (.ref s2)) (M3 : Fld Z Z.heap w3 "com/example/plugroot/plugroot/sql/Comparison" "symbol" "Ljava/lang/String;" (.ref s3)) (M4 : Fld Z Z.heap w4 "com/example/plugroot/plugroot/sql/Comparison" "symbol" "Ljava/lang/String;" (.ref s4)) (M5 : Fld Z Z.heap w5 "com/example/plugroot/plugroot/sql/Comparison" "symbol" "Ljava/lang/String;" (.ref s5)) (T0 : Str Z Z.heap s0 ([(61 : Int32)] : List Int32)) (T1 : Str Z Z.heap s1 ([(60 : Int32), (62 : Int32)] : List Int32)) (T2 : Str Z Z.heap s2 ([(60 : Int32)] : List Int32)) (T3 : Str Z Z.heap s3 ([(62 : Int32)] : List Int32)) (T4 : Str Z Z.heap s4 ([(60 : Int32), (61 : Int32)] : List Int32)) (T5 : Str Z Z.heap s5 ([(62 : Int32), (61 : Int32)] : List Int32)) (S0 : Sta Z Z.heap "com/example/plugroot/plugroot/sql/Comparison" "EQUAL" "Lcom/example/plugroot/plugroot/sql/Comparison;" (.ref w0)) (S1 : Sta Z Z.heap "com/example/plugroot/plugroot/sql/Comparison" "NOT_EQUAL" "Lcom/example/plugroot/plugroot/sql/Comparison;" (.ref w1)) (S2 : Sta Z Z.heap "com/example/plugroot/plugroot/sql/Comparison" "LESS" "Lcom/example/plugroot/plugroot/sql/Comparison;" (.ref w2)) (S3 : Sta Z Z.heap "com/example/plugroot/plugroot/sql/Comparison" "GREATER" "Lcom/example/plugroot/plugroot/sql/Comparison;" (.ref w3)) (S4 : Sta Z Z.heap "com/example/plugroot/plugroot/sql/Comparison" "LESS_OR_EQUAL" "Lcom/example/plugroot/plugroot/sql/Comparison;" (.ref w4)) (S5 : Sta Z Z.heap "com/example/plugroot/plugroot/sql/Comparison" "GREATER_OR_EQUAL" "Lcom/example/plugroot/plugroot/sql/Comparison;" (.ref w5)) (hd0 : c0 = drawF p2) (hd1 : c1 = drawF p3) (hd2 : c2 = drawF p4) (hr0 : ¬ c0 < 0 ∧ ¬ (255 : Int32) < c0) (hr1 : ¬ c1 < 0 ∧ ¬ (255 : Int32) < c1) (hr2 : ¬ c2 < 0 ∧ ¬ (255 : Int32) < c2) (hof : (.ref wr) = specF w0 w1 w2 w3 w4 w5 ([c0] : List Int32)) (hex : (.ref wr) = expF w0 w1 w2 w3 w4 w5 (p1 &&& (3 : Int32)) c0 c1) (k0 : ¬ ((p1 &&& (3 : Int32)) = 0)) (k1 : (p1 &&& (3 : Int32)) = 1) :
    MetFree l x (head1 (Jvm.Cond.code x code maxLocals ret :: ws) room_1) (fun a_ U => a_ = #[(.int p1), (.int p2), (.int p3), (.int p4)] ∧ Z.Warmed39 U.vm ∧ U.heap = h0 ∧ CHv Z consts_1 U.vm h0) (fun _ _ _ _ _ => True) (fun _ U o U' => ∃ v L, o = .returned v ∧ Q0 h0 n0 v U'.heap L ∧ CHr Z consts_1 U.vm U.heap U'.vm U'.heap ∧ ReturnedEndW U o U' L room_1.cells room_1.slots) := by
  refine MetFree.of_bodySF (plainFor_of_name pn_0) hisR ?_
  intro p e s m args below meth c s₁ Bd hml0 hP hK
  obtain ⟨rfl, hZ, hh, hC⟩ := hP
  have hx := Bd.exec
  have hby := Bd.bytes
  have hml : c.maxLocals = 11 := hml0
  have hown : s.vm.findClass "com/example/plugroot/plugroot/sql/ComparisonOfPinLaw" = some m.cls := findClass_of_methodNamed Bd.named
  have hnm := (name_of_methodNamed Bd.named Bd.method).1
  have X0 : Stand p l e room_1 (s.setVm s.vm) m #[(.int p1), (.int p2), (.int p3), (.int p4)] below meth c s₁ [] 0 0 := Stand.of_body Bd
  have e0 : s₁.heap = h0 := by rw [← hh, Bd.state]; rfl
  have N0 := Fr.nil n0
  have pre0 : ∀ tg, Steps p.tables e below (s₁.setTop (mkF m 0 #[.val (.int p1), .val (.int p2), .val (.int p3), .val (.int p4), .unset, .unset, .unset, .unset, .unset, .unset, .unset] [])) tg → Steps p.tables e below (s₁.setTop (entryFrame m #[(.int p1), (.int p2), (.int p3), (.int p4)] maxLocals)) tg := fun tg kq => castTop (ef_IIII_11m m p1 p2 p3 p4) kq
  have hS0 : s.Since s.vm h0.size := (State.WarmedH.refl s).since _
  have hk0 : h0.size ≤ h0.size := Nat.le_refl _
  have CR0 : CHr Z consts_1 s.vm h0 s.vm h0 := CHr.refl hC
  obtain ⟨tm0, kbm0, Nm0, vsm0, sEm0, sVm0, sCm0, sKm0, scdm0, shpm0, shlm0⟩ := id T0
  obtain ⟨tm1, kbm1, Nm1, vsm1, sEm1, sVm1, sCm1, sKm1, scdm1, shpm1, shlm1⟩ := id T1
  obtain ⟨tm2, kbm2, Nm2, vsm2, sEm2, sVm2, sCm2, sKm2, scdm2, shpm2, shlm2⟩ := id T2
  obtain ⟨tm3, kbm3, Nm3, vsm3, sEm3, sVm3, sCm3, sKm3, scdm3, shpm3, shlm3⟩ := id T3
  obtain ⟨tm4, kbm4, Nm4, vsm4, sEm4, sVm4, sCm4, sKm4, scdm4, shpm4, shlm4⟩ := id T4
  obtain ⟨tm5, kbm5, Nm5, vsm5, sEm5, sVm5, sCm5, sKm5, scdm5, shpm5, shlm5⟩ := id T5
  obtain ⟨_, _, ⟨T101, L101, k101, n101⟩, -, X101, ⟨Lc101, hQ101, l101, y101, z101⟩, st101⟩ := Jvm.LawKit.callS X0 hx (y := (⟨"com/example/plugroot/plugroot/sql/ComparisonOfPinLaw", "draw", "(I)C"⟩ : MethodName)) hown (mvT hZ (wi hw 0 rfl)) (mvT hZ (wi hw 1 rfl)) (mvT hZ (wi hw 2 rfl)) (mvT hZ (wi hw 3 rfl)) (by decide) (backOf (W := 0) (rm1 l Z a0 hw [] p2 c0 h0 n0 O0 hd0) hZ (wi hw 3 rfl) (wi hw 2 rfl) (by decide) (by decide)) (g := (mkF m 6 #[.val (.int p1), .val (.int p2), .val (.int p3), .val (.int p4), .val (.int (p1 &&& (3 : Int32))), .unset, .unset, .unset, .unset, .unset, .unset] [(.int p2)])) rfl (by rw [hml]; rfl) (argsL := [(.int p2)]) (rest := []) (lenOf pd_3 rfl) rfl (by show 2 * 0 + _ ≤ _; exact Nat.le_of_eq rfl) (hb hby at_6) (fun _ _ => ⟨rfl, e0, (by decide : 0 + 0 ≤ _), (by decide : 0 + 0 ≤ _)⟩)
  dsimp only [Pt.U, Pt.locs, Pt.cells, Pt.slots] at X101 l101 y101 z101 st101 hQ101
  subst l101 y101 z101
  obtain ⟨rfl, N101q, hh101⟩ := hQ101
  have e101 : T101.heap = h0 := hh101
  have N101 := Fr.app N0 N101q
  obtain ⟨_, _, ⟨T102, L102, k102, n102⟩, -, X102, ⟨Lc102, hQ102, l102, y102, z102⟩, st102⟩ := Jvm.LawKit.callS X101 hx (y := (⟨"com/example/plugroot/plugroot/sql/ComparisonOfPinLaw", "draw", "(I)C"⟩ : MethodName)) hown (mvT hZ (wi hw 0 rfl)) (mvT hZ (wi hw 1 rfl)) (mvT hZ (wi hw 2 rfl)) (mvT hZ (wi hw 3 rfl)) (by decide) (backOf (W := 0) (rm1 l Z a0 hw [] p3 c1 h0 n0 O0 hd1) hZ (wi hw 3 rfl) (wi hw 2 rfl) (by decide) (by decide)) (g := (mkF m 12 #[.val (.int p1), .val (.int p2), .val (.int p3), .val (.int p4), .val (.int (p1 &&& (3 : Int32))), .val (.int c0), .unset, .unset, .unset, .unset, .unset] [(.int p3)])) rfl (by rw [hml]; rfl) (argsL := [(.int p3)]) (rest := []) (lenOf pd_3 rfl) rfl (by show 2 * 0 + _ ≤ _; exact Nat.le_of_eq rfl) (hb hby at_12) (fun _ _ => ⟨rfl, e101, (by decide : 0 + 0 ≤ _), (by decide : 0 + 0 ≤ _)⟩)
  dsimp only [Pt.U, Pt.locs, Pt.cells, Pt.slots] at X102 l102 y102 z102 st102 hQ102
  subst l102 y102 z102
  obtain ⟨rfl, N102q, hh102⟩ := hQ102
  have e102 : T102.heap = h0 := hh102
  have N102 := Fr.app N101 N102q
  obtain ⟨_, _, ⟨T103, L103, k103, n103⟩, -, X103, ⟨Lc103, hQ103, l103, y103, z103⟩, st103⟩ := Jvm.LawKit.callS X102 hx (y := (⟨"com/example/plugroot/plugroot/sql/ComparisonOfPinLaw", "draw", "(I)C"⟩ : MethodName)) hown (mvT hZ (wi hw 0 rfl)) (mvT hZ (wi hw 1 rfl)) (mvT hZ (wi hw 2 rfl)) (mvT hZ (wi hw 3 rfl)) (by decide) (backOf (W := 0) (rm1 l Z a0 hw [] p4 c2 h0 n0 O0 hd2) hZ (wi hw 3 rfl) (wi hw 2 rfl) (by decide) (by decide)) (g := (mkF m 18 #[.val (.int p1), .val (.int p2), .val (.int p3), .val (.int p4), .val (.int (p1 &&& (3 : Int32))), .val (.int c0), .val (.int c1), .unset, .unset, .unset, .unset] [(.int p4)])) rfl (by rw [hml]; rfl) (argsL := [(.int p4)]) (rest := []) (lenOf pd_3 rfl) rfl (by show 2 * 0 + _ ≤ _; exact Nat.le_of_eq rfl) (hb hby at_18) (fun _ _ => ⟨rfl, e102, (by decide : 0 + 0 ≤ _), (by decide : 0 + 0 ≤ _)⟩)
  dsimp only [Pt.U, Pt.locs, Pt.cells, Pt.slots] at X103 l103 y103 z103 st103 hQ103
  subst l103 y103 z103
  obtain ⟨rfl, N103q, hh103⟩ := hQ103
  have e103 : T103.heap = h0 := hh103
  have N103 := Fr.app N102 N103q
  obtain ⟨T104, h104, k104, X104, e104, E104, A104, st104⟩ := newP X103 hx hZ (wi hw 4 rfl) e103 (g := (mkF m 43 #[.val (.int p1), .val (.int p2), .val (.int p3), .val (.int p4), .val (.int (p1 &&& (3 : Int32))), .val (.int c0), .val (.int c1), .val (.int c2), .unset, .unset, .unset] [(.int (1 : Int32))])) rfl (hb hby at_43) rfl (by decide) (cap := 1) (by decide) (by decide) (by decide) (by decide)
  obtain ⟨b104, g104⟩ : ∃ z, z = h0.size := ⟨_, rfl⟩
  rw [← g104] at A104 st104
  have g_b104 : n0 ≤ b104 := Nat.le_trans (O0.1 ▸ O0.2.1) (Nat.le_of_eq g104.symm)
  have sz_b104 : h0.size ≤ b104 := Nat.le_trans (Nat.le_refl _) (Nat.le_of_eq g104.symm)
  have O104 := O0.ext E104
  have CS104 := CHr.ext E104 CR0.1
  have CR104 := CR0.trans CS104
  have KK104 : Keep h0 h104 [] := (Keep.refl h0 []).ext E104
  have V_b104 : Arv Z h104 b104 k104 .char (1 : Int32) [(.int (0 : Int32))] (.int (0 : Int32)) := (Arv.new A104 (by decide)).pad (pad_rep [] (.int (0 : Int32)) 1)
  obtain ⟨cl_b104_47, Ar_b104_47, q_b104_47, S_b104_47, N_b104_47, H_b104_47, G_b104_47⟩ := id (V_b104)
  have hinb104_47 : ¬ ((0 : Int32) < 0 ∨ cl_b104_47.slots.size ≤ ((0 : Int32)).toNatClampNeg) := inb_of S_b104_47 ⟨by decide, by decide⟩
  obtain ⟨T105, h105, X105, e105, W105, st105⟩ := stC X104 hx hZ e104 Ar_b104_47 (j := (0 : Int32)) hinb104_47 (g := (mkF m 49 #[.val (.int p1), .val (.int p2), .val (.int p3), .val (.int p4), .val (.int (p1 &&& (3 : Int32))), .val (.int c0), .val (.int c1), .val (.int c2), .unset, .unset, .unset] [(.int c0), (.int (0 : Int32)), (.ref b104), (.ref b104)])) rfl rfl (hb hby at_49)
  have V_b104_105 : Arv Z h105 b104 k104 .char (1 : Int32) [(.int (nar .char c0))] (.int (0 : Int32)) := Arv.set Ar_b104_47 q_b104_47 S_b104_47 N_b104_47 H_b104_47 G_b104_47 (fits_nar_char _) W105 0 rfl (Nat.le_of_ble_eq_true rfl)
  have V_b104_105' : Arv Z h105 b104 k104 .char (1 : Int32) [(.int c0)] (.int (0 : Int32)) := by have q := V_b104_105; rw [own_nar hr0] at q; exact q
  have O105 := O104.wr W105 g_b104
  have CS105 := CHr.wr W105 (Safe.arv hZ.alike V_b104 (by decide)) CR104.1
  have CR105 := CR104.trans CS105
  have KK105 : Keep h0 h105 [] := KK104.wr W105 (Or.inr sz_b104)
  have N105 := Fr.snoc X105 N103 g_b104
  obtain ⟨T106, h106, X106, e106, E106, A106, D106, -, st106⟩ := newO X105 hx hZ hown (wi hw 5 rfl) (wi hw 6 rfl) (wi hw 7 rfl) e105 (g := (mkF m 99 #[.val (.int p1), .val (.int p2), .val (.int p3), .val (.int p4), .val (.int (p1 &&& (3 : Int32))), .val (.int c0), .val (.int c1), .val (.int c2), .val (.ref b104), .unset, .unset] [])) rfl (hb hby at_99) (by decide) (by decide)
  obtain ⟨b106, g106⟩ : ∃ z, z = h105.size := ⟨_, rfl⟩
  rw [← g106] at A106 D106 st106
  have g_b106 : n0 ≤ b106 := Nat.le_trans (O105.1 ▸ O105.2.1) (Nat.le_of_eq g106.symm)
  have sz_b106 : h0.size ≤ b106 := Nat.le_trans KK105.1 (Nat.le_of_eq g106.symm)
  have O106 := O105.ext E106
  have CS106 := CHr.ext E106 CR105.1
  have CR106 := CR105.trans CS106
  have KK106 : Keep h0 h106 [] := KK105.ext E106
  have sf_b106 : Safe Z consts_1 s.vm h106 b106 := Safe.ext E106 CR105.1 (Safe.new (Nat.le_of_eq g106.symm))
  have F_value_b106 : Fld Z h106 b106 "java/lang/String" "value" "[B" .null := D106 (Or.inr (wi hw 20 rfl)) (ty := (.array .byte)) (by decide)
  have F_coder_b106 : Fld Z h106 b106 "java/lang/String" "coder" "B" (.int (0 : Int32)) := D106 (Or.inr (wi hw 21 rfl)) (ty := .byte) (by decide)
  have fV_b104_3_107 := (V_b104_105'.ext E106)
  have shp108 : ∀ c ∈ ([c0] : List Int32), ¬ c < 0 ∧ ¬ (255 : Int32) < c := (own_memS hr0 own_mem0)
  have sA108 : Arv Z h106 b104 k104 .char (1 : Int32) (([c0] : List Int32).map Value.int) (.int (0 : Int32)) := fV_b104_3_107
  obtain ⟨_, _, ⟨T109, L109, k109, n109⟩, -, X109, ⟨Lc109, hQ109, l109, y109, z109⟩, st109⟩ := X106.specialBack hx (y := (⟨"java/lang/String", "<init>", "([C)V"⟩ : MethodName)) rfl hown (mvT hZ (wi hw 8 rfl)) (mvT hZ (wi hw 9 rfl)) (mvT hZ (wi hw 10 rfl)) (by decide) (StrChars.Road.backV (W := 1) hZ (fun d hd => hw d (own_w_backV d hd)) (kI := 4) (wi hw 6 rfl) (cs := ([c0] : List Int32)) (bs := ([c0] : List Int32).map (fun c => c.toInt8.toInt32)) (n := 1) g_b106 (O106.1 ▸ O106.2.1) A106 F_value_b106 F_coder_b106 sA108 (S_CS.ext O106.2) hG1 rfl rfl (by decide) (by decide) shp108 rfl (by decide) (by decide)) (g := (mkF m 105 #[.val (.int p1), .val (.int p2), .val (.int p3), .val (.int p4), .val (.int (p1 &&& (3 : Int32))), .val (.int c0), .val (.int c1), .val (.int c2), .val (.ref b104), .unset, .unset] [(.ref b104), (.ref b106), (.ref b106)])) rfl (by rw [hml]; rfl) (Steps.refl _) (a := b106) (argsL := [(.ref b104)]) (rest := [(.ref b106)]) (lenOf pd_4 rfl) rfl (by show 2 * 0 + _ ≤ _; exact Nat.le_of_eq rfl) (hb hby at_105) (fun _ _ => ⟨rfl, e106, (by decide : 2 + 1 ≤ _), (by decide : 5 + 1 ≤ _)⟩)
  dsimp only [Pt.U, Pt.locs, Pt.cells, Pt.slots] at X109 l109 y109 z109 st109 hQ109
  subst l109 y109 z109
  obtain ⟨rfl, N109q, K109, sE108, sC108, t108, kb108, sg108, ssz108, sne108, sV108, sK108⟩ := hQ109
  obtain ⟨h109, e109⟩ : ∃ z, T109.heap = z := ⟨_, rfl⟩
  rw [e109] at K109 sE108 sC108 sV108 sK108
  have g_t108 : n0 ≤ t108 := Nat.le_trans (O106.1 ▸ O106.2.1) ssz108
  have sz_t108 : h0.size ≤ t108 := Nat.le_trans KK106.1 ssz108
  have O109 := O106.keep K109 (allS g_b106 all0)
  have CS109 := CHr.keep K109 (sfS sf_b106 sf0) CR106.1
  have CR109 := CR106.trans CS109
  have KK109 : Keep h0 h109 [] := KK106.trans K109 (allS (Or.inr sz_b106) all0)
  have N109 := Fr.app N105 N109q
  have scd108 : StrChars.Road.CodA ([c0] : List Int32) 0 (1 : Int32) ((([c0] : List Int32).map (fun c => c.toInt8.toInt32)).map Value.int) := StrChars.Road.codOf (n := 1) rfl (fun c hc => (shp108 c hc).2)
  obtain ⟨_, _, ⟨T110, L110, k110, n110⟩, -, Xr110, hSr110, gr110, ⟨Lc110, hQ110, l110, y110, z110, CSr110⟩, st110⟩ := Jvm.RoadKit.callSS X109 hx (y := (⟨"com/example/plugroot/plugroot/sql/Comparison", "of", "(Ljava/lang/String;)Lcom/example/plugroot/plugroot/sql/Comparison;"⟩ : MethodName)) hown (mvT hZ (wi hw 26 rfl)) (mvT hZ (wi hw 27 rfl)) (mvT hZ (wi hw 28 rfl)) (mvT hZ (wi hw 29 rfl)) (by decide) (backOfSH (W := 0) (rm5 l Z a0 hw [] G1 kV wV w0 w1 w2 w3 w4 w5 s0 s1 s2 s3 s4 s5 b106 ([c0] : List Int32) (.ref wr) h109 n0 O109 S_CS hG1 S_V A_V E_V M0 M1 M2 M3 M4 M5 T0 T1 T2 T3 T4 T5 ⟨_, _, _, _, sE108, sV108, sC108, sK108, scd108, shp108, (Nat.le_of_ble_eq_true rfl)⟩ hof) hZ (wi hw 29 rfl) (wi hw 28 rfl) (by decide) (by decide) (own_EW hw) CR109.1) (g := (mkF m 112 #[.val (.int p1), .val (.int p2), .val (.int p3), .val (.int p4), .val (.int (p1 &&& (3 : Int32))), .val (.int c0), .val (.int c1), .val (.int c2), .val (.ref b104), .val (.ref b106), .unset] [(.ref b106)])) rfl (by rw [hml]; rfl) (argsL := [(.ref b106)]) (rest := []) (lenOf pd_5 rfl) rfl (by show 2 * 0 + _ ≤ _; exact Nat.le_of_eq rfl) (hb hby at_112) (fun _ _ => ⟨rfl, e109, (by decide : 3 + 5 ≤ _), (by decide : 6 + 30 ≤ _)⟩)
  dsimp only [Pt.U, Pt.locs, Pt.cells, Pt.slots] at Xr110 l110 y110 z110 st110 hQ110 hSr110 gr110 CSr110
  subst l110 y110 z110
  obtain ⟨X110, hS110, hZ110, hown110⟩ := rebS hS0 (by rw [e109]; exact (Nat.le_trans (Nat.le_trans (Nat.le_trans (Nat.le_trans hk0 E104.1) (Keep.of_wr W105).1) E106.1) K109.1)) Xr110 hSr110 gr110 hZ hown
  obtain ⟨rfl, N110q, K110⟩ := hQ110
  obtain ⟨h110, e110⟩ : ∃ z, T110.heap = z := ⟨_, rfl⟩
  rw [e110] at K110
  rw [e110] at CSr110
  have O110 := O109.keep K110 all0
  have CS110 := CSr110
  have CR110 := CR109.trans CS110
  have KK110 : Keep h0 h110 [] := KK109.trans K110 all0
  rw [e110] at hS110
  have N110 := Fr.app N109 N110q
  obtain ⟨_, _, ⟨T111, L111, k111, n111⟩, -, X111, ⟨Lc111, hQ111, l111, y111, z111⟩, st111⟩ := Jvm.LawKit.callS X110 hx (y := (⟨"com/example/plugroot/plugroot/sql/ComparisonOfPinLaw", "expected", "(ICC)Lcom/example/plugroot/plugroot/sql/Comparison;"⟩ : MethodName)) hown110 (mvT hZ110 (wi hw 65 rfl)) (mvT hZ110 (wi hw 66 rfl)) (mvT hZ110 (wi hw 2 rfl)) (mvT hZ110 (wi hw 67 rfl)) (by decide) (backOf (W := 1) (rm9 l Z a0 hw [] w0 w1 w2 w3 w4 w5 (p1 &&& (3 : Int32)) c0 c1 (.ref wr) h110 n0 O110 S0 S1 S2 S3 S4 S5 hex) hZ110 (wi hw 67 rfl) (wi hw 2 rfl) (by decide) (by decide)) (g := (mkF m 125 #[.val (.int p1), .val (.int p2), .val (.int p3), .val (.int p4), .val (.int (p1 &&& (3 : Int32))), .val (.int c0), .val (.int c1), .val (.int c2), .val (.ref b104), .val (.ref b106), .val (.ref wr)] [(.int c1), (.int c0), (.int (p1 &&& (3 : Int32))), (.ref wr)])) rfl (by rw [hml]; rfl) (argsL := [(.int (p1 &&& (3 : Int32))), (.int c0), (.int c1)]) (rest := [(.ref wr)]) (lenOf pd_6 rfl) rfl (by show 2 * 0 + _ ≤ _; exact Nat.le_of_eq rfl) (hb hby at_125) (fun _ _ => ⟨rfl, e110, (by decide : 8 + 0 ≤ _), (by decide : 36 + 0 ≤ _)⟩)
  dsimp only [Pt.U, Pt.locs, Pt.cells, Pt.slots] at X111 l111 y111 z111 st111 hQ111
  subst l111 y111 z111
  obtain ⟨rfl, N111q, hh111⟩ := hQ111
  have e111 : T111.heap = h110 := hh111
  have N111 := Fr.app N110 N111q
  obtain ⟨fs, hr, hrun, hended, hREW⟩ := X111.leaveW hS110 (by rw [e111]; exact (Nat.le_refl _)) (v := some (.int (1 : Int32))) (fun h => by rw [Bd.returns] at h; cases h)
  refine ⟨_, _, pre0 _ ?_, hrun, hended, _, _, rfl, ?_, (by rw [hh]; show CHr Z consts_1 s.vm h0 T111.vm T111.heap; rw [e111]; exact CR110.trans (CHv.at X111 hZ110 (own_EW hw) CR110.1)), hREW.1, hREW.2.1, hREW.2.2.1, hREW.2.2.2.mono (by decide) (by decide)⟩
  · show Steps p.tables e below (s₁.setTop (mkF m 0 #[.val (.int p1), .val (.int p2), .val (.int p3), .val (.int p4), .unset, .unset, .unset, .unset, .unset, .unset, .unset] [])) _
    refine XS.iloadN X0.here hx rfl (hb hby at_0) rfl ?_
    show Steps p.tables e below (s₁.setTop (mkF m 1 #[.val (.int p1), .val (.int p2), .val (.int p3), .val (.int p4), .unset, .unset, .unset, .unset, .unset, .unset, .unset] [(.int p1)])) _
    refine XS.iconst X0.here hx rfl (hb hby at_1) ?_
    show Steps p.tables e below (s₁.setTop (mkF m 2 #[.val (.int p1), .val (.int p2), .val (.int p3), .val (.int p4), .unset, .unset, .unset, .unset, .unset, .unset, .unset] [(.int (3 : Int32)), (.int p1)])) _
    refine XS.iand X0.here hx rfl (hb hby at_2) rfl ?_
    show Steps p.tables e below (s₁.setTop (mkF m 3 #[.val (.int p1), .val (.int p2), .val (.int p3), .val (.int p4), .unset, .unset, .unset, .unset, .unset, .unset, .unset] [(.int (p1 &&& (3 : Int32)))])) _
    refine XS.istore X0.here hx rfl (hb hby at_3) rfl (l' := #[.val (.int p1), .val (.int p2), .val (.int p3), .val (.int p4), .val (.int (p1 &&& (3 : Int32))), .unset, .unset, .unset, .unset, .unset, .unset]) rfl ?_
    show Steps p.tables e below (s₁.setTop (mkF m 5 #[.val (.int p1), .val (.int p2), .val (.int p3), .val (.int p4), .val (.int (p1 &&& (3 : Int32))), .unset, .unset, .unset, .unset, .unset, .unset] [])) _
    refine XS.iloadN X0.here hx rfl (hb hby at_5) rfl ?_
    show Steps p.tables e below (s₁.setTop (mkF m 6 #[.val (.int p1), .val (.int p2), .val (.int p3), .val (.int p4), .val (.int (p1 &&& (3 : Int32))), .unset, .unset, .unset, .unset, .unset, .unset] [(.int p2)])) _
    refine st101 _ ?_
    show Steps p.tables e below (T101.setTop (mkF m 9 #[.val (.int p1), .val (.int p2), .val (.int p3), .val (.int p4), .val (.int (p1 &&& (3 : Int32))), .unset, .unset, .unset, .unset, .unset, .unset] [(.int c0)])) _
    refine XS.istore X101.here hx rfl (hb hby at_9) rfl (l' := #[.val (.int p1), .val (.int p2), .val (.int p3), .val (.int p4), .val (.int (p1 &&& (3 : Int32))), .val (.int c0), .unset, .unset, .unset, .unset, .unset]) rfl ?_
    show Steps p.tables e below (T101.setTop (mkF m 11 #[.val (.int p1), .val (.int p2), .val (.int p3), .val (.int p4), .val (.int (p1 &&& (3 : Int32))), .val (.int c0), .unset, .unset, .unset, .unset, .unset] [])) _
    refine XS.iloadN X101.here hx rfl (hb hby at_11) rfl ?_
    show Steps p.tables e below (T101.setTop (mkF m 12 #[.val (.int p1), .val (.int p2), .val (.int p3), .val (.int p4), .val (.int (p1 &&& (3 : Int32))), .val (.int c0), .unset, .unset, .unset, .unset, .unset] [(.int p3)])) _
    refine st102 _ ?_
    show Steps p.tables e below (T102.setTop (mkF m 15 #[.val (.int p1), .val (.int p2), .val (.int p3), .val (.int p4), .val (.int (p1 &&& (3 : Int32))), .val (.int c0), .unset, .unset, .unset, .unset, .unset] [(.int c1)])) _
    refine XS.istore X102.here hx rfl (hb hby at_15) rfl (l' := #[.val (.int p1), .val (.int p2), .val (.int p3), .val (.int p4), .val (.int (p1 &&& (3 : Int32))), .val (.int c0), .val (.int c1), .unset, .unset, .unset, .unset]) rfl ?_
    show Steps p.tables e below (T102.setTop (mkF m 17 #[.val (.int p1), .val (.int p2), .val (.int p3), .val (.int p4), .val (.int (p1 &&& (3 : Int32))), .val (.int c0), .val (.int c1), .unset, .unset, .unset, .unset] [])) _
    refine XS.iloadN X102.here hx rfl (hb hby at_17) rfl ?_
    show Steps p.tables e below (T102.setTop (mkF m 18 #[.val (.int p1), .val (.int p2), .val (.int p3), .val (.int p4), .val (.int (p1 &&& (3 : Int32))), .val (.int c0), .val (.int c1), .unset, .unset, .unset, .unset] [(.int p4)])) _
    refine st103 _ ?_
    show Steps p.tables e below (T103.setTop (mkF m 21 #[.val (.int p1), .val (.int p2), .val (.int p3), .val (.int p4), .val (.int (p1 &&& (3 : Int32))), .val (.int c0), .val (.int c1), .unset, .unset, .unset, .unset] [(.int c2)])) _
    refine XS.istore X103.here hx rfl (hb hby at_21) rfl (l' := #[.val (.int p1), .val (.int p2), .val (.int p3), .val (.int p4), .val (.int (p1 &&& (3 : Int32))), .val (.int c0), .val (.int c1), .val (.int c2), .unset, .unset, .unset]) rfl ?_
    show Steps p.tables e below (T103.setTop (mkF m 23 #[.val (.int p1), .val (.int p2), .val (.int p3), .val (.int p4), .val (.int (p1 &&& (3 : Int32))), .val (.int c0), .val (.int c1), .val (.int c2), .unset, .unset, .unset] [])) _
    refine XS.iload X103.here hx rfl (hb hby at_23) rfl ?_
    show Steps p.tables e below (T103.setTop (mkF m 25 #[.val (.int p1), .val (.int p2), .val (.int p3), .val (.int p4), .val (.int (p1 &&& (3 : Int32))), .val (.int c0), .val (.int c1), .val (.int c2), .unset, .unset, .unset] [(.int (p1 &&& (3 : Int32)))])) _
    refine XS.ifYes X103.here hx rfl (pc0 := 25) (pc' := 36) rfl (hb hby at_25) rfl ((if0 _ _).trans (feq k0).2) (by decide) (by decide) ?_
    show Steps p.tables e below (T103.setTop (mkF m 36 #[.val (.int p1), .val (.int p2), .val (.int p3), .val (.int p4), .val (.int (p1 &&& (3 : Int32))), .val (.int c0), .val (.int c1), .val (.int c2), .unset, .unset, .unset] [])) _
    refine XS.iload X103.here hx rfl (hb hby at_36) rfl ?_
    show Steps p.tables e below (T103.setTop (mkF m 38 #[.val (.int p1), .val (.int p2), .val (.int p3), .val (.int p4), .val (.int (p1 &&& (3 : Int32))), .val (.int c0), .val (.int c1), .val (.int c2), .unset, .unset, .unset] [(.int (p1 &&& (3 : Int32)))])) _
    refine XS.iconst X103.here hx rfl (hb hby at_38) ?_
    show Steps p.tables e below (T103.setTop (mkF m 39 #[.val (.int p1), .val (.int p2), .val (.int p3), .val (.int p4), .val (.int (p1 &&& (3 : Int32))), .val (.int c0), .val (.int c1), .val (.int c2), .unset, .unset, .unset] [(.int (1 : Int32)), (.int (p1 &&& (3 : Int32)))])) _
    refine XS.icmpNo X103.here hx rfl (hb hby at_39) rfl (teq k1).2 ?_
    show Steps p.tables e below (T103.setTop (mkF m 42 #[.val (.int p1), .val (.int p2), .val (.int p3), .val (.int p4), .val (.int (p1 &&& (3 : Int32))), .val (.int c0), .val (.int c1), .val (.int c2), .unset, .unset, .unset] [])) _
    refine XS.iconst X103.here hx rfl (hb hby at_42) ?_
    show Steps p.tables e below (T103.setTop (mkF m 43 #[.val (.int p1), .val (.int p2), .val (.int p3), .val (.int p4), .val (.int (p1 &&& (3 : Int32))), .val (.int c0), .val (.int c1), .val (.int c2), .unset, .unset, .unset] [(.int (1 : Int32))])) _
    refine st104 _ ?_
    show Steps p.tables e below (T104.setTop (mkF m 45 #[.val (.int p1), .val (.int p2), .val (.int p3), .val (.int p4), .val (.int (p1 &&& (3 : Int32))), .val (.int c0), .val (.int c1), .val (.int c2), .unset, .unset, .unset] [(.ref b104)])) _
    refine XS.dup X104.here hx rfl (hb hby at_45) rfl rfl ?_
    show Steps p.tables e below (T104.setTop (mkF m 46 #[.val (.int p1), .val (.int p2), .val (.int p3), .val (.int p4), .val (.int (p1 &&& (3 : Int32))), .val (.int c0), .val (.int c1), .val (.int c2), .unset, .unset, .unset] [(.ref b104), (.ref b104)])) _
    refine XS.iconst X104.here hx rfl (hb hby at_46) ?_
    show Steps p.tables e below (T104.setTop (mkF m 47 #[.val (.int p1), .val (.int p2), .val (.int p3), .val (.int p4), .val (.int (p1 &&& (3 : Int32))), .val (.int c0), .val (.int c1), .val (.int c2), .unset, .unset, .unset] [(.int (0 : Int32)), (.ref b104), (.ref b104)])) _
    refine XS.iload X104.here hx rfl (hb hby at_47) rfl ?_
    show Steps p.tables e below (T104.setTop (mkF m 49 #[.val (.int p1), .val (.int p2), .val (.int p3), .val (.int p4), .val (.int (p1 &&& (3 : Int32))), .val (.int c0), .val (.int c1), .val (.int c2), .unset, .unset, .unset] [(.int c0), (.int (0 : Int32)), (.ref b104), (.ref b104)])) _
    refine st105 _ ?_
    show Steps p.tables e below (T105.setTop (mkF m 50 #[.val (.int p1), .val (.int p2), .val (.int p3), .val (.int p4), .val (.int (p1 &&& (3 : Int32))), .val (.int c0), .val (.int c1), .val (.int c2), .unset, .unset, .unset] [(.ref b104)])) _
    refine XS.astore X105.here hx rfl (hb hby at_50) rfl rfl (l' := #[.val (.int p1), .val (.int p2), .val (.int p3), .val (.int p4), .val (.int (p1 &&& (3 : Int32))), .val (.int c0), .val (.int c1), .val (.int c2), .val (.ref b104), .unset, .unset]) rfl ?_
    show Steps p.tables e below (T105.setTop (mkF m 52 #[.val (.int p1), .val (.int p2), .val (.int p3), .val (.int p4), .val (.int (p1 &&& (3 : Int32))), .val (.int c0), .val (.int c1), .val (.int c2), .val (.ref b104), .unset, .unset] [])) _
    refine XS.goto X105.here hx rfl (pc0 := 52) (pc' := 99) rfl (hb hby at_52) (by decide) (by decide) ?_
    show Steps p.tables e below (T105.setTop (mkF m 99 #[.val (.int p1), .val (.int p2), .val (.int p3), .val (.int p4), .val (.int (p1 &&& (3 : Int32))), .val (.int c0), .val (.int c1), .val (.int c2), .val (.ref b104), .unset, .unset] [])) _
    refine st106 _ ?_
    show Steps p.tables e below (T106.setTop (mkF m 102 #[.val (.int p1), .val (.int p2), .val (.int p3), .val (.int p4), .val (.int (p1 &&& (3 : Int32))), .val (.int c0), .val (.int c1), .val (.int c2), .val (.ref b104), .unset, .unset] [(.ref b106)])) _
    refine XS.dup X106.here hx rfl (hb hby at_102) rfl rfl ?_
    show Steps p.tables e below (T106.setTop (mkF m 103 #[.val (.int p1), .val (.int p2), .val (.int p3), .val (.int p4), .val (.int (p1 &&& (3 : Int32))), .val (.int c0), .val (.int c1), .val (.int c2), .val (.ref b104), .unset, .unset] [(.ref b106), (.ref b106)])) _
    refine XS.aload X106.here hx rfl (hb hby at_103) rfl rfl ?_
    show Steps p.tables e below (T106.setTop (mkF m 105 #[.val (.int p1), .val (.int p2), .val (.int p3), .val (.int p4), .val (.int (p1 &&& (3 : Int32))), .val (.int c0), .val (.int c1), .val (.int c2), .val (.ref b104), .unset, .unset] [(.ref b104), (.ref b106), (.ref b106)])) _
    refine st109.trans ?_
    show Steps p.tables e below (T109.setTop (mkF m 108 #[.val (.int p1), .val (.int p2), .val (.int p3), .val (.int p4), .val (.int (p1 &&& (3 : Int32))), .val (.int c0), .val (.int c1), .val (.int c2), .val (.ref b104), .unset, .unset] [(.ref b106)])) _
    refine XS.astore X109.here hx rfl (hb hby at_108) rfl rfl (l' := #[.val (.int p1), .val (.int p2), .val (.int p3), .val (.int p4), .val (.int (p1 &&& (3 : Int32))), .val (.int c0), .val (.int c1), .val (.int c2), .val (.ref b104), .val (.ref b106), .unset]) rfl ?_
    show Steps p.tables e below (T109.setTop (mkF m 110 #[.val (.int p1), .val (.int p2), .val (.int p3), .val (.int p4), .val (.int (p1 &&& (3 : Int32))), .val (.int c0), .val (.int c1), .val (.int c2), .val (.ref b104), .val (.ref b106), .unset] [])) _
    refine XS.aload X109.here hx rfl (hb hby at_110) rfl rfl ?_
    show Steps p.tables e below (T109.setTop (mkF m 112 #[.val (.int p1), .val (.int p2), .val (.int p3), .val (.int p4), .val (.int (p1 &&& (3 : Int32))), .val (.int c0), .val (.int c1), .val (.int c2), .val (.ref b104), .val (.ref b106), .unset] [(.ref b106)])) _
    refine st110.trans ?_
    show Steps p.tables e below (T110.setTop (mkF m 115 #[.val (.int p1), .val (.int p2), .val (.int p3), .val (.int p4), .val (.int (p1 &&& (3 : Int32))), .val (.int c0), .val (.int c1), .val (.int c2), .val (.ref b104), .val (.ref b106), .unset] [(.ref wr)])) _
    refine XS.astore X110.here hx rfl (hb hby at_115) rfl rfl (l' := #[.val (.int p1), .val (.int p2), .val (.int p3), .val (.int p4), .val (.int (p1 &&& (3 : Int32))), .val (.int c0), .val (.int c1), .val (.int c2), .val (.ref b104), .val (.ref b106), .val (.ref wr)]) rfl ?_
    show Steps p.tables e below (T110.setTop (mkF m 117 #[.val (.int p1), .val (.int p2), .val (.int p3), .val (.int p4), .val (.int (p1 &&& (3 : Int32))), .val (.int c0), .val (.int c1), .val (.int c2), .val (.ref b104), .val (.ref b106), .val (.ref wr)] [])) _
    refine XS.aload X110.here hx rfl (hb hby at_117) rfl rfl ?_
    show Steps p.tables e below (T110.setTop (mkF m 119 #[.val (.int p1), .val (.int p2), .val (.int p3), .val (.int p4), .val (.int (p1 &&& (3 : Int32))), .val (.int c0), .val (.int c1), .val (.int c2), .val (.ref b104), .val (.ref b106), .val (.ref wr)] [(.ref wr)])) _
    refine XS.iload X110.here hx rfl (hb hby at_119) rfl ?_
    show Steps p.tables e below (T110.setTop (mkF m 121 #[.val (.int p1), .val (.int p2), .val (.int p3), .val (.int p4), .val (.int (p1 &&& (3 : Int32))), .val (.int c0), .val (.int c1), .val (.int c2), .val (.ref b104), .val (.ref b106), .val (.ref wr)] [(.int (p1 &&& (3 : Int32))), (.ref wr)])) _
    refine XS.iload X110.here hx rfl (hb hby at_121) rfl ?_
    show Steps p.tables e below (T110.setTop (mkF m 123 #[.val (.int p1), .val (.int p2), .val (.int p3), .val (.int p4), .val (.int (p1 &&& (3 : Int32))), .val (.int c0), .val (.int c1), .val (.int c2), .val (.ref b104), .val (.ref b106), .val (.ref wr)] [(.int c0), (.int (p1 &&& (3 : Int32))), (.ref wr)])) _
    refine XS.iload X110.here hx rfl (hb hby at_123) rfl ?_
    show Steps p.tables e below (T110.setTop (mkF m 125 #[.val (.int p1), .val (.int p2), .val (.int p3), .val (.int p4), .val (.int (p1 &&& (3 : Int32))), .val (.int c0), .val (.int c1), .val (.int c2), .val (.ref b104), .val (.ref b106), .val (.ref wr)] [(.int c1), (.int c0), (.int (p1 &&& (3 : Int32))), (.ref wr)])) _
    refine st111 _ ?_
    show Steps p.tables e below (T111.setTop (mkF m 128 #[.val (.int p1), .val (.int p2), .val (.int p3), .val (.int p4), .val (.int (p1 &&& (3 : Int32))), .val (.int c0), .val (.int c1), .val (.int c2), .val (.ref b104), .val (.ref b106), .val (.ref wr)] [(.ref wr), (.ref wr)])) _
    refine Jvm.RoadKit.acmp (g := (mkF m 128 #[.val (.int p1), .val (.int p2), .val (.int p3), .val (.int p4), .val (.int (p1 &&& (3 : Int32))), .val (.int c0), .val (.int c1), .val (.int c2), .val (.ref b104), .val (.ref b106), .val (.ref wr)] [(.ref wr), (.ref wr)])) X111 hx rfl rfl rfl (pc0 := 128) (pc' := 131) (same := true) rfl (hb hby at_128) rfl (decide_eq_true rfl) (by decide) (by decide) ?_
    show Steps p.tables e below (T111.setTop (mkF m 131 #[.val (.int p1), .val (.int p2), .val (.int p3), .val (.int p4), .val (.int (p1 &&& (3 : Int32))), .val (.int c0), .val (.int c1), .val (.int c2), .val (.ref b104), .val (.ref b106), .val (.ref wr)] [])) _
    refine XS.iconst X111.here hx rfl (hb hby at_131) ?_
    show Steps p.tables e below (T111.setTop (mkF m 132 #[.val (.int p1), .val (.int p2), .val (.int p3), .val (.int p4), .val (.int (p1 &&& (3 : Int32))), .val (.int c0), .val (.int c1), .val (.int c2), .val (.ref b104), .val (.ref b106), .val (.ref wr)] [(.int (1 : Int32))])) _
    refine XS.goto X111.here hx rfl (pc0 := 132) (pc' := 136) rfl (hb hby at_132) (by decide) (by decide) ?_
    show Steps p.tables e below (T111.setTop (mkF m 136 #[.val (.int p1), .val (.int p2), .val (.int p3), .val (.int p4), .val (.int (p1 &&& (3 : Int32))), .val (.int c0), .val (.int c1), .val (.int c2), .val (.ref b104), .val (.ref b106), .val (.ref wr)] [(.int (1 : Int32))])) _
    exact retN X111 hx (t := .boolean) Bd.returns (by simp) (hb hby at_136) hr
  · show Q0 h0 n0 _ T111.heap _
    rw [e111]
    exact ⟨rfl, N111⟩
set_option maxRecDepth 65536 in
set_option maxHeartbeats 40000000 in
theorem rm0_2n (l : Launch) (Z : State) (a0 : Array Value) (hw : ∀ d ∈ tables_1, d.before a0 Z = true) (ws : List Jvm.Cond) (p1 p2 p3 p4 : Int32) (G1 : Int32) (kV : ClassId) (wV w0 w1 w2 w3 w4 w5 : Addr) (s0 s1 s2 s3 s4 s5 : Addr) (c0 c1 c2 : Int32) (h0 : Heap) (n0 : Nat) (O0 : Old Z n0 h0) (S_CS : Sta Z Z.heap "java/lang/String" "COMPACT_STRINGS" "Z" (.int G1)) (hG1 : ¬ (G1 = (0 : Int32))) (S_V : Sta Z Z.heap "com/example/plugroot/plugroot/sql/Comparison" "$VALUES" "[Lcom/example/plugroot/plugroot/sql/Comparison;" (.ref wV)) (A_V : Arv Z Z.heap wV kV (.object "com/example/plugroot/plugroot/sql/Comparison") (6 : Int32) [(.ref w0), (.ref w1), (.ref w2), (.ref w3), (.ref w4), (.ref w5)] .null) (E_V : Exa Z Z.heap wV "[Lcom/example/plugroot/plugroot/sql/Comparison;") (M0 : Fld Z Z.heap w0 "com/example/plugroot/plugroot/sql/Comparison" "symbol" "Ljava/lang/String;" (.ref s0)) (M1 : Fld Z Z.heap w1 "com/example/plugroot/plugroot/sql/Comparison" "symbol" "Ljava/lang/String;" (.ref s1)) (M2 : Fld Z Z.heap w2 "com/example/plugroot/plugroot/sql/Comparison" "symbol" "Ljava/lang/String;" (.ref s2)) (M3 : Fld Z Z.heap w3 "com/example/plugroot/plugroot/sql/Comparison" "symbol" "Ljava/lang/String;" (.ref s3)) (M4 : Fld Z Z.heap w4 "com/example/plugroot/plugroot/sql/Comparison" "symbol" "Ljava/lang/String;" (.ref s4)) (M5 : Fld Z Z.heap w5 "com/example/plugroot/plugroot/sql/Comparison" "symbol" "Ljava/lang/String;" (.ref s5)) (T0 : Str Z Z.heap s0 ([(61 : Int32)] : List Int32)) (T1 : Str Z Z.heap s1 ([(60 : Int32), (62 : Int32)] : List Int32)) (T2 : Str Z Z.heap s2 ([(60 : Int32)] : List Int32)) (T3 : Str Z Z.heap s3 ([(62 : Int32)] : List Int32)) (T4 : Str Z Z.heap s4 ([(60 : Int32), (61 : Int32)] : List Int32)) (T5 : Str Z Z.heap s5 ([(62 : Int32), (61 : Int32)] : List Int32)) (S0 : Sta Z Z.heap "com/example/plugroot/plugroot/sql/Comparison" "EQUAL" "Lcom/example/plugroot/plugroot/sql/Comparison;" (.ref w0)) (S1 : Sta Z Z.heap "com/example/plugroot/plugroot/sql/Comparison" "NOT_EQUAL" "Lcom/example/plugroot/plugroot/sql/Comparison;" (.ref w1)) (S2 : Sta Z Z.heap "com/example/plugroot/plugroot/sql/Comparison" "LESS" "Lcom/example/plugroot/plugroot/sql/Comparison;" (.ref w2)) (S3 : Sta Z Z.heap "com/example/plugroot/plugroot/sql/Comparison" "GREATER" "Lcom/example/plugroot/plugroot/sql/Comparison;" (.ref w3)) (S4 : Sta Z Z.heap "com/example/plugroot/plugroot/sql/Comparison" "LESS_OR_EQUAL" "Lcom/example/plugroot/plugroot/sql/Comparison;" (.ref w4)) (S5 : Sta Z Z.heap "com/example/plugroot/plugroot/sql/Comparison" "GREATER_OR_EQUAL" "Lcom/example/plugroot/plugroot/sql/Comparison;" (.ref w5)) (hd0 : c0 = drawF p2) (hd1 : c1 = drawF p3) (hd2 : c2 = drawF p4) (hr0 : ¬ c0 < 0 ∧ ¬ (255 : Int32) < c0) (hr1 : ¬ c1 < 0 ∧ ¬ (255 : Int32) < c1) (hr2 : ¬ c2 < 0 ∧ ¬ (255 : Int32) < c2) (hof : .null = specF w0 w1 w2 w3 w4 w5 ([c0, c1] : List Int32)) (hex : .null = expF w0 w1 w2 w3 w4 w5 (p1 &&& (3 : Int32)) c0 c1) (k0 : ¬ ((p1 &&& (3 : Int32)) = 0)) (k1 : ¬ ((p1 &&& (3 : Int32)) = 1)) (k2 : (p1 &&& (3 : Int32)) = 2) :
    MetFree l x (head1 (Jvm.Cond.code x code maxLocals ret :: ws) room_1) (fun a_ U => a_ = #[(.int p1), (.int p2), (.int p3), (.int p4)] ∧ Z.Warmed39 U.vm ∧ U.heap = h0 ∧ CHv Z consts_1 U.vm h0) (fun _ _ _ _ _ => True) (fun _ U o U' => ∃ v L, o = .returned v ∧ Q0 h0 n0 v U'.heap L ∧ CHr Z consts_1 U.vm U.heap U'.vm U'.heap ∧ ReturnedEndW U o U' L room_1.cells room_1.slots) := by
  refine MetFree.of_bodySF (plainFor_of_name pn_0) hisR ?_
  intro p e s m args below meth c s₁ Bd hml0 hP hK
  obtain ⟨rfl, hZ, hh, hC⟩ := hP
  have hx := Bd.exec
  have hby := Bd.bytes
  have hml : c.maxLocals = 11 := hml0
  have hown : s.vm.findClass "com/example/plugroot/plugroot/sql/ComparisonOfPinLaw" = some m.cls := findClass_of_methodNamed Bd.named
  have hnm := (name_of_methodNamed Bd.named Bd.method).1
  have X0 : Stand p l e room_1 (s.setVm s.vm) m #[(.int p1), (.int p2), (.int p3), (.int p4)] below meth c s₁ [] 0 0 := Stand.of_body Bd
  have e0 : s₁.heap = h0 := by rw [← hh, Bd.state]; rfl
  have N0 := Fr.nil n0
  have pre0 : ∀ tg, Steps p.tables e below (s₁.setTop (mkF m 0 #[.val (.int p1), .val (.int p2), .val (.int p3), .val (.int p4), .unset, .unset, .unset, .unset, .unset, .unset, .unset] [])) tg → Steps p.tables e below (s₁.setTop (entryFrame m #[(.int p1), (.int p2), (.int p3), (.int p4)] maxLocals)) tg := fun tg kq => castTop (ef_IIII_11m m p1 p2 p3 p4) kq
  have hS0 : s.Since s.vm h0.size := (State.WarmedH.refl s).since _
  have hk0 : h0.size ≤ h0.size := Nat.le_refl _
  have CR0 : CHr Z consts_1 s.vm h0 s.vm h0 := CHr.refl hC
  obtain ⟨tm0, kbm0, Nm0, vsm0, sEm0, sVm0, sCm0, sKm0, scdm0, shpm0, shlm0⟩ := id T0
  obtain ⟨tm1, kbm1, Nm1, vsm1, sEm1, sVm1, sCm1, sKm1, scdm1, shpm1, shlm1⟩ := id T1
  obtain ⟨tm2, kbm2, Nm2, vsm2, sEm2, sVm2, sCm2, sKm2, scdm2, shpm2, shlm2⟩ := id T2
  obtain ⟨tm3, kbm3, Nm3, vsm3, sEm3, sVm3, sCm3, sKm3, scdm3, shpm3, shlm3⟩ := id T3
  obtain ⟨tm4, kbm4, Nm4, vsm4, sEm4, sVm4, sCm4, sKm4, scdm4, shpm4, shlm4⟩ := id T4
  obtain ⟨tm5, kbm5, Nm5, vsm5, sEm5, sVm5, sCm5, sKm5, scdm5, shpm5, shlm5⟩ := id T5
  obtain ⟨_, _, ⟨T101, L101, k101, n101⟩, -, X101, ⟨Lc101, hQ101, l101, y101, z101⟩, st101⟩ := Jvm.LawKit.callS X0 hx (y := (⟨"com/example/plugroot/plugroot/sql/ComparisonOfPinLaw", "draw", "(I)C"⟩ : MethodName)) hown (mvT hZ (wi hw 0 rfl)) (mvT hZ (wi hw 1 rfl)) (mvT hZ (wi hw 2 rfl)) (mvT hZ (wi hw 3 rfl)) (by decide) (backOf (W := 0) (rm1 l Z a0 hw [] p2 c0 h0 n0 O0 hd0) hZ (wi hw 3 rfl) (wi hw 2 rfl) (by decide) (by decide)) (g := (mkF m 6 #[.val (.int p1), .val (.int p2), .val (.int p3), .val (.int p4), .val (.int (p1 &&& (3 : Int32))), .unset, .unset, .unset, .unset, .unset, .unset] [(.int p2)])) rfl (by rw [hml]; rfl) (argsL := [(.int p2)]) (rest := []) (lenOf pd_3 rfl) rfl (by show 2 * 0 + _ ≤ _; exact Nat.le_of_eq rfl) (hb hby at_6) (fun _ _ => ⟨rfl, e0, (by decide : 0 + 0 ≤ _), (by decide : 0 + 0 ≤ _)⟩)
  dsimp only [Pt.U, Pt.locs, Pt.cells, Pt.slots] at X101 l101 y101 z101 st101 hQ101
  subst l101 y101 z101
  obtain ⟨rfl, N101q, hh101⟩ := hQ101
  have e101 : T101.heap = h0 := hh101
  have N101 := Fr.app N0 N101q
  obtain ⟨_, _, ⟨T102, L102, k102, n102⟩, -, X102, ⟨Lc102, hQ102, l102, y102, z102⟩, st102⟩ := Jvm.LawKit.callS X101 hx (y := (⟨"com/example/plugroot/plugroot/sql/ComparisonOfPinLaw", "draw", "(I)C"⟩ : MethodName)) hown (mvT hZ (wi hw 0 rfl)) (mvT hZ (wi hw 1 rfl)) (mvT hZ (wi hw 2 rfl)) (mvT hZ (wi hw 3 rfl)) (by decide) (backOf (W := 0) (rm1 l Z a0 hw [] p3 c1 h0 n0 O0 hd1) hZ (wi hw 3 rfl) (wi hw 2 rfl) (by decide) (by decide)) (g := (mkF m 12 #[.val (.int p1), .val (.int p2), .val (.int p3), .val (.int p4), .val (.int (p1 &&& (3 : Int32))), .val (.int c0), .unset, .unset, .unset, .unset, .unset] [(.int p3)])) rfl (by rw [hml]; rfl) (argsL := [(.int p3)]) (rest := []) (lenOf pd_3 rfl) rfl (by show 2 * 0 + _ ≤ _; exact Nat.le_of_eq rfl) (hb hby at_12) (fun _ _ => ⟨rfl, e101, (by decide : 0 + 0 ≤ _), (by decide : 0 + 0 ≤ _)⟩)
  dsimp only [Pt.U, Pt.locs, Pt.cells, Pt.slots] at X102 l102 y102 z102 st102 hQ102
  subst l102 y102 z102
  obtain ⟨rfl, N102q, hh102⟩ := hQ102
  have e102 : T102.heap = h0 := hh102
  have N102 := Fr.app N101 N102q
  obtain ⟨_, _, ⟨T103, L103, k103, n103⟩, -, X103, ⟨Lc103, hQ103, l103, y103, z103⟩, st103⟩ := Jvm.LawKit.callS X102 hx (y := (⟨"com/example/plugroot/plugroot/sql/ComparisonOfPinLaw", "draw", "(I)C"⟩ : MethodName)) hown (mvT hZ (wi hw 0 rfl)) (mvT hZ (wi hw 1 rfl)) (mvT hZ (wi hw 2 rfl)) (mvT hZ (wi hw 3 rfl)) (by decide) (backOf (W := 0) (rm1 l Z a0 hw [] p4 c2 h0 n0 O0 hd2) hZ (wi hw 3 rfl) (wi hw 2 rfl) (by decide) (by decide)) (g := (mkF m 18 #[.val (.int p1), .val (.int p2), .val (.int p3), .val (.int p4), .val (.int (p1 &&& (3 : Int32))), .val (.int c0), .val (.int c1), .unset, .unset, .unset, .unset] [(.int p4)])) rfl (by rw [hml]; rfl) (argsL := [(.int p4)]) (rest := []) (lenOf pd_3 rfl) rfl (by show 2 * 0 + _ ≤ _; exact Nat.le_of_eq rfl) (hb hby at_18) (fun _ _ => ⟨rfl, e102, (by decide : 0 + 0 ≤ _), (by decide : 0 + 0 ≤ _)⟩)
  dsimp only [Pt.U, Pt.locs, Pt.cells, Pt.slots] at X103 l103 y103 z103 st103 hQ103
  subst l103 y103 z103
  obtain ⟨rfl, N103q, hh103⟩ := hQ103
  have e103 : T103.heap = h0 := hh103
  have N103 := Fr.app N102 N103q
  obtain ⟨T104, h104, k104, X104, e104, E104, A104, st104⟩ := newP X103 hx hZ (wi hw 4 rfl) e103 (g := (mkF m 62 #[.val (.int p1), .val (.int p2), .val (.int p3), .val (.int p4), .val (.int (p1 &&& (3 : Int32))), .val (.int c0), .val (.int c1), .val (.int c2), .unset, .unset, .unset] [(.int (2 : Int32))])) rfl (hb hby at_62) rfl (by decide) (cap := 2) (by decide) (by decide) (by decide) (by decide)
  obtain ⟨b104, g104⟩ : ∃ z, z = h0.size := ⟨_, rfl⟩
  rw [← g104] at A104 st104
  have g_b104 : n0 ≤ b104 := Nat.le_trans (O0.1 ▸ O0.2.1) (Nat.le_of_eq g104.symm)
  have sz_b104 : h0.size ≤ b104 := Nat.le_trans (Nat.le_refl _) (Nat.le_of_eq g104.symm)
  have O104 := O0.ext E104
  have CS104 := CHr.ext E104 CR0.1
  have CR104 := CR0.trans CS104
  have KK104 : Keep h0 h104 [] := (Keep.refl h0 []).ext E104
  have V_b104 : Arv Z h104 b104 k104 .char (2 : Int32) [(.int (0 : Int32)), (.int (0 : Int32))] (.int (0 : Int32)) := (Arv.new A104 (by decide)).pad (pad_rep [] (.int (0 : Int32)) 2)
  obtain ⟨cl_b104_53, Ar_b104_53, q_b104_53, S_b104_53, N_b104_53, H_b104_53, G_b104_53⟩ := id (V_b104)
  have hinb104_53 : ¬ ((0 : Int32) < 0 ∨ cl_b104_53.slots.size ≤ ((0 : Int32)).toNatClampNeg) := inb_of S_b104_53 ⟨by decide, by decide⟩
  obtain ⟨T105, h105, X105, e105, W105, st105⟩ := stC X104 hx hZ e104 Ar_b104_53 (j := (0 : Int32)) hinb104_53 (g := (mkF m 68 #[.val (.int p1), .val (.int p2), .val (.int p3), .val (.int p4), .val (.int (p1 &&& (3 : Int32))), .val (.int c0), .val (.int c1), .val (.int c2), .unset, .unset, .unset] [(.int c0), (.int (0 : Int32)), (.ref b104), (.ref b104)])) rfl rfl (hb hby at_68)
  have V_b104_105 : Arv Z h105 b104 k104 .char (2 : Int32) [(.int (nar .char c0)), (.int (0 : Int32))] (.int (0 : Int32)) := Arv.set Ar_b104_53 q_b104_53 S_b104_53 N_b104_53 H_b104_53 G_b104_53 (fits_nar_char _) W105 0 rfl (Nat.le_of_ble_eq_true rfl)
  have V_b104_105' : Arv Z h105 b104 k104 .char (2 : Int32) [(.int c0), (.int (0 : Int32))] (.int (0 : Int32)) := by have q := V_b104_105; rw [own_nar hr0] at q; exact q
  have O105 := O104.wr W105 g_b104
  have CS105 := CHr.wr W105 (Safe.arv hZ.alike V_b104 (by decide)) CR104.1
  have CR105 := CR104.trans CS105
  have KK105 : Keep h0 h105 [] := KK104.wr W105 (Or.inr sz_b104)
  have N105 := Fr.snoc X105 N103 g_b104
  obtain ⟨cl_b104_61, Ar_b104_61, q_b104_61, S_b104_61, N_b104_61, H_b104_61, G_b104_61⟩ := id (V_b104_105')
  have hinb104_61 : ¬ ((1 : Int32) < 0 ∨ cl_b104_61.slots.size ≤ ((1 : Int32)).toNatClampNeg) := inb_of S_b104_61 ⟨by decide, by decide⟩
  obtain ⟨T106, h106, X106, e106, W106, st106⟩ := stC X105 hx hZ e105 Ar_b104_61 (j := (1 : Int32)) hinb104_61 (g := (mkF m 73 #[.val (.int p1), .val (.int p2), .val (.int p3), .val (.int p4), .val (.int (p1 &&& (3 : Int32))), .val (.int c0), .val (.int c1), .val (.int c2), .unset, .unset, .unset] [(.int c1), (.int (1 : Int32)), (.ref b104), (.ref b104)])) rfl rfl (hb hby at_73)
  have V_b104_106 : Arv Z h106 b104 k104 .char (2 : Int32) [(.int c0), (.int (nar .char c1))] (.int (0 : Int32)) := Arv.set Ar_b104_61 q_b104_61 S_b104_61 N_b104_61 H_b104_61 G_b104_61 (fits_nar_char _) W106 1 rfl (Nat.le_of_ble_eq_true rfl)
  have V_b104_106' : Arv Z h106 b104 k104 .char (2 : Int32) [(.int c0), (.int c1)] (.int (0 : Int32)) := by have q := V_b104_106; rw [own_nar hr1] at q; exact q
  have O106 := O105.wr W106 g_b104
  have CS106 := CHr.wr W106 (Safe.arv hZ.alike V_b104_105' (by decide)) CR105.1
  have CR106 := CR105.trans CS106
  have KK106 : Keep h0 h106 [] := KK105.wr W106 (Or.inr sz_b104)
  have N106 := Fr.snoc X106 N105 g_b104
  obtain ⟨T107, h107, X107, e107, E107, A107, D107, -, st107⟩ := newO X106 hx hZ hown (wi hw 5 rfl) (wi hw 6 rfl) (wi hw 7 rfl) e106 (g := (mkF m 99 #[.val (.int p1), .val (.int p2), .val (.int p3), .val (.int p4), .val (.int (p1 &&& (3 : Int32))), .val (.int c0), .val (.int c1), .val (.int c2), .val (.ref b104), .unset, .unset] [])) rfl (hb hby at_99) (by decide) (by decide)
  obtain ⟨b107, g107⟩ : ∃ z, z = h106.size := ⟨_, rfl⟩
  rw [← g107] at A107 D107 st107
  have g_b107 : n0 ≤ b107 := Nat.le_trans (O106.1 ▸ O106.2.1) (Nat.le_of_eq g107.symm)
  have sz_b107 : h0.size ≤ b107 := Nat.le_trans KK106.1 (Nat.le_of_eq g107.symm)
  have O107 := O106.ext E107
  have CS107 := CHr.ext E107 CR106.1
  have CR107 := CR106.trans CS107
  have KK107 : Keep h0 h107 [] := KK106.ext E107
  have sf_b107 : Safe Z consts_1 s.vm h107 b107 := Safe.ext E107 CR106.1 (Safe.new (Nat.le_of_eq g107.symm))
  have F_value_b107 : Fld Z h107 b107 "java/lang/String" "value" "[B" .null := D107 (Or.inr (wi hw 20 rfl)) (ty := (.array .byte)) (by decide)
  have F_coder_b107 : Fld Z h107 b107 "java/lang/String" "coder" "B" (.int (0 : Int32)) := D107 (Or.inr (wi hw 21 rfl)) (ty := .byte) (by decide)
  have fV_b104_4_108 := (V_b104_106'.ext E107)
  have shp109 : ∀ c ∈ ([c0, c1] : List Int32), ¬ c < 0 ∧ ¬ (255 : Int32) < c := (own_memS hr0 (own_memS hr1 own_mem0))
  have sA109 : Arv Z h107 b104 k104 .char (2 : Int32) (([c0, c1] : List Int32).map Value.int) (.int (0 : Int32)) := fV_b104_4_108
  obtain ⟨_, _, ⟨T110, L110, k110, n110⟩, -, X110, ⟨Lc110, hQ110, l110, y110, z110⟩, st110⟩ := X107.specialBack hx (y := (⟨"java/lang/String", "<init>", "([C)V"⟩ : MethodName)) rfl hown (mvT hZ (wi hw 8 rfl)) (mvT hZ (wi hw 9 rfl)) (mvT hZ (wi hw 10 rfl)) (by decide) (StrChars.Road.backV (W := 1) hZ (fun d hd => hw d (own_w_backV d hd)) (kI := 4) (wi hw 6 rfl) (cs := ([c0, c1] : List Int32)) (bs := ([c0, c1] : List Int32).map (fun c => c.toInt8.toInt32)) (n := 2) g_b107 (O107.1 ▸ O107.2.1) A107 F_value_b107 F_coder_b107 sA109 (S_CS.ext O107.2) hG1 rfl rfl (by decide) (by decide) shp109 rfl (by decide) (by decide)) (g := (mkF m 105 #[.val (.int p1), .val (.int p2), .val (.int p3), .val (.int p4), .val (.int (p1 &&& (3 : Int32))), .val (.int c0), .val (.int c1), .val (.int c2), .val (.ref b104), .unset, .unset] [(.ref b104), (.ref b107), (.ref b107)])) rfl (by rw [hml]; rfl) (Steps.refl _) (a := b107) (argsL := [(.ref b104)]) (rest := [(.ref b107)]) (lenOf pd_4 rfl) rfl (by show 2 * 0 + _ ≤ _; exact Nat.le_of_eq rfl) (hb hby at_105) (fun _ _ => ⟨rfl, e107, (by decide : 2 + 1 ≤ _), (by decide : 6 + 2 ≤ _)⟩)
  dsimp only [Pt.U, Pt.locs, Pt.cells, Pt.slots] at X110 l110 y110 z110 st110 hQ110
  subst l110 y110 z110
  obtain ⟨rfl, N110q, K110, sE109, sC109, t109, kb109, sg109, ssz109, sne109, sV109, sK109⟩ := hQ110
  obtain ⟨h110, e110⟩ : ∃ z, T110.heap = z := ⟨_, rfl⟩
  rw [e110] at K110 sE109 sC109 sV109 sK109
  have g_t109 : n0 ≤ t109 := Nat.le_trans (O107.1 ▸ O107.2.1) ssz109
  have sz_t109 : h0.size ≤ t109 := Nat.le_trans KK107.1 ssz109
  have O110 := O107.keep K110 (allS g_b107 all0)
  have CS110 := CHr.keep K110 (sfS sf_b107 sf0) CR107.1
  have CR110 := CR107.trans CS110
  have KK110 : Keep h0 h110 [] := KK107.trans K110 (allS (Or.inr sz_b107) all0)
  have N110 := Fr.app N106 N110q
  have scd109 : StrChars.Road.CodA ([c0, c1] : List Int32) 0 (2 : Int32) ((([c0, c1] : List Int32).map (fun c => c.toInt8.toInt32)).map Value.int) := StrChars.Road.codOf (n := 2) rfl (fun c hc => (shp109 c hc).2)
  obtain ⟨_, _, ⟨T111, L111, k111, n111⟩, -, Xr111, hSr111, gr111, ⟨Lc111, hQ111, l111, y111, z111, CSr111⟩, st111⟩ := Jvm.RoadKit.callSS X110 hx (y := (⟨"com/example/plugroot/plugroot/sql/Comparison", "of", "(Ljava/lang/String;)Lcom/example/plugroot/plugroot/sql/Comparison;"⟩ : MethodName)) hown (mvT hZ (wi hw 26 rfl)) (mvT hZ (wi hw 27 rfl)) (mvT hZ (wi hw 28 rfl)) (mvT hZ (wi hw 29 rfl)) (by decide) (backOfSH (W := 0) (rm5 l Z a0 hw [] G1 kV wV w0 w1 w2 w3 w4 w5 s0 s1 s2 s3 s4 s5 b107 ([c0, c1] : List Int32) .null h110 n0 O110 S_CS hG1 S_V A_V E_V M0 M1 M2 M3 M4 M5 T0 T1 T2 T3 T4 T5 ⟨_, _, _, _, sE109, sV109, sC109, sK109, scd109, shp109, (Nat.le_of_ble_eq_true rfl)⟩ hof) hZ (wi hw 29 rfl) (wi hw 28 rfl) (by decide) (by decide) (own_EW hw) CR110.1) (g := (mkF m 112 #[.val (.int p1), .val (.int p2), .val (.int p3), .val (.int p4), .val (.int (p1 &&& (3 : Int32))), .val (.int c0), .val (.int c1), .val (.int c2), .val (.ref b104), .val (.ref b107), .unset] [(.ref b107)])) rfl (by rw [hml]; rfl) (argsL := [(.ref b107)]) (rest := []) (lenOf pd_5 rfl) rfl (by show 2 * 0 + _ ≤ _; exact Nat.le_of_eq rfl) (hb hby at_112) (fun _ _ => ⟨rfl, e110, (by decide : 3 + 5 ≤ _), (by decide : 8 + 30 ≤ _)⟩)
  dsimp only [Pt.U, Pt.locs, Pt.cells, Pt.slots] at Xr111 l111 y111 z111 st111 hQ111 hSr111 gr111 CSr111
  subst l111 y111 z111
  obtain ⟨X111, hS111, hZ111, hown111⟩ := rebS hS0 (by rw [e110]; exact (Nat.le_trans (Nat.le_trans (Nat.le_trans (Nat.le_trans (Nat.le_trans hk0 E104.1) (Keep.of_wr W105).1) (Keep.of_wr W106).1) E107.1) K110.1)) Xr111 hSr111 gr111 hZ hown
  obtain ⟨rfl, N111q, K111⟩ := hQ111
  obtain ⟨h111, e111⟩ : ∃ z, T111.heap = z := ⟨_, rfl⟩
  rw [e111] at K111
  rw [e111] at CSr111
  have O111 := O110.keep K111 all0
  have CS111 := CSr111
  have CR111 := CR110.trans CS111
  have KK111 : Keep h0 h111 [] := KK110.trans K111 all0
  rw [e111] at hS111
  have N111 := Fr.app N110 N111q
  obtain ⟨_, _, ⟨T112, L112, k112, n112⟩, -, X112, ⟨Lc112, hQ112, l112, y112, z112⟩, st112⟩ := Jvm.LawKit.callS X111 hx (y := (⟨"com/example/plugroot/plugroot/sql/ComparisonOfPinLaw", "expected", "(ICC)Lcom/example/plugroot/plugroot/sql/Comparison;"⟩ : MethodName)) hown111 (mvT hZ111 (wi hw 65 rfl)) (mvT hZ111 (wi hw 66 rfl)) (mvT hZ111 (wi hw 2 rfl)) (mvT hZ111 (wi hw 67 rfl)) (by decide) (backOf (W := 1) (rm9 l Z a0 hw [] w0 w1 w2 w3 w4 w5 (p1 &&& (3 : Int32)) c0 c1 .null h111 n0 O111 S0 S1 S2 S3 S4 S5 hex) hZ111 (wi hw 67 rfl) (wi hw 2 rfl) (by decide) (by decide)) (g := (mkF m 125 #[.val (.int p1), .val (.int p2), .val (.int p3), .val (.int p4), .val (.int (p1 &&& (3 : Int32))), .val (.int c0), .val (.int c1), .val (.int c2), .val (.ref b104), .val (.ref b107), .val .null] [(.int c1), (.int c0), (.int (p1 &&& (3 : Int32))), .null])) rfl (by rw [hml]; rfl) (argsL := [(.int (p1 &&& (3 : Int32))), (.int c0), (.int c1)]) (rest := [.null]) (lenOf pd_6 rfl) rfl (by show 2 * 0 + _ ≤ _; exact Nat.le_of_eq rfl) (hb hby at_125) (fun _ _ => ⟨rfl, e111, (by decide : 8 + 0 ≤ _), (by decide : 38 + 0 ≤ _)⟩)
  dsimp only [Pt.U, Pt.locs, Pt.cells, Pt.slots] at X112 l112 y112 z112 st112 hQ112
  subst l112 y112 z112
  obtain ⟨rfl, N112q, hh112⟩ := hQ112
  have e112 : T112.heap = h111 := hh112
  have N112 := Fr.app N111 N112q
  obtain ⟨fs, hr, hrun, hended, hREW⟩ := X112.leaveW hS111 (by rw [e112]; exact (Nat.le_refl _)) (v := some (.int (1 : Int32))) (fun h => by rw [Bd.returns] at h; cases h)
  refine ⟨_, _, pre0 _ ?_, hrun, hended, _, _, rfl, ?_, (by rw [hh]; show CHr Z consts_1 s.vm h0 T112.vm T112.heap; rw [e112]; exact CR111.trans (CHv.at X112 hZ111 (own_EW hw) CR111.1)), hREW.1, hREW.2.1, hREW.2.2.1, hREW.2.2.2.mono (by decide) (by decide)⟩
  · show Steps p.tables e below (s₁.setTop (mkF m 0 #[.val (.int p1), .val (.int p2), .val (.int p3), .val (.int p4), .unset, .unset, .unset, .unset, .unset, .unset, .unset] [])) _
    refine XS.iloadN X0.here hx rfl (hb hby at_0) rfl ?_
    show Steps p.tables e below (s₁.setTop (mkF m 1 #[.val (.int p1), .val (.int p2), .val (.int p3), .val (.int p4), .unset, .unset, .unset, .unset, .unset, .unset, .unset] [(.int p1)])) _
    refine XS.iconst X0.here hx rfl (hb hby at_1) ?_
    show Steps p.tables e below (s₁.setTop (mkF m 2 #[.val (.int p1), .val (.int p2), .val (.int p3), .val (.int p4), .unset, .unset, .unset, .unset, .unset, .unset, .unset] [(.int (3 : Int32)), (.int p1)])) _
    refine XS.iand X0.here hx rfl (hb hby at_2) rfl ?_
    show Steps p.tables e below (s₁.setTop (mkF m 3 #[.val (.int p1), .val (.int p2), .val (.int p3), .val (.int p4), .unset, .unset, .unset, .unset, .unset, .unset, .unset] [(.int (p1 &&& (3 : Int32)))])) _
    refine XS.istore X0.here hx rfl (hb hby at_3) rfl (l' := #[.val (.int p1), .val (.int p2), .val (.int p3), .val (.int p4), .val (.int (p1 &&& (3 : Int32))), .unset, .unset, .unset, .unset, .unset, .unset]) rfl ?_
    show Steps p.tables e below (s₁.setTop (mkF m 5 #[.val (.int p1), .val (.int p2), .val (.int p3), .val (.int p4), .val (.int (p1 &&& (3 : Int32))), .unset, .unset, .unset, .unset, .unset, .unset] [])) _
    refine XS.iloadN X0.here hx rfl (hb hby at_5) rfl ?_
    show Steps p.tables e below (s₁.setTop (mkF m 6 #[.val (.int p1), .val (.int p2), .val (.int p3), .val (.int p4), .val (.int (p1 &&& (3 : Int32))), .unset, .unset, .unset, .unset, .unset, .unset] [(.int p2)])) _
    refine st101 _ ?_
    show Steps p.tables e below (T101.setTop (mkF m 9 #[.val (.int p1), .val (.int p2), .val (.int p3), .val (.int p4), .val (.int (p1 &&& (3 : Int32))), .unset, .unset, .unset, .unset, .unset, .unset] [(.int c0)])) _
    refine XS.istore X101.here hx rfl (hb hby at_9) rfl (l' := #[.val (.int p1), .val (.int p2), .val (.int p3), .val (.int p4), .val (.int (p1 &&& (3 : Int32))), .val (.int c0), .unset, .unset, .unset, .unset, .unset]) rfl ?_
    show Steps p.tables e below (T101.setTop (mkF m 11 #[.val (.int p1), .val (.int p2), .val (.int p3), .val (.int p4), .val (.int (p1 &&& (3 : Int32))), .val (.int c0), .unset, .unset, .unset, .unset, .unset] [])) _
    refine XS.iloadN X101.here hx rfl (hb hby at_11) rfl ?_
    show Steps p.tables e below (T101.setTop (mkF m 12 #[.val (.int p1), .val (.int p2), .val (.int p3), .val (.int p4), .val (.int (p1 &&& (3 : Int32))), .val (.int c0), .unset, .unset, .unset, .unset, .unset] [(.int p3)])) _
    refine st102 _ ?_
    show Steps p.tables e below (T102.setTop (mkF m 15 #[.val (.int p1), .val (.int p2), .val (.int p3), .val (.int p4), .val (.int (p1 &&& (3 : Int32))), .val (.int c0), .unset, .unset, .unset, .unset, .unset] [(.int c1)])) _
    refine XS.istore X102.here hx rfl (hb hby at_15) rfl (l' := #[.val (.int p1), .val (.int p2), .val (.int p3), .val (.int p4), .val (.int (p1 &&& (3 : Int32))), .val (.int c0), .val (.int c1), .unset, .unset, .unset, .unset]) rfl ?_
    show Steps p.tables e below (T102.setTop (mkF m 17 #[.val (.int p1), .val (.int p2), .val (.int p3), .val (.int p4), .val (.int (p1 &&& (3 : Int32))), .val (.int c0), .val (.int c1), .unset, .unset, .unset, .unset] [])) _
    refine XS.iloadN X102.here hx rfl (hb hby at_17) rfl ?_
    show Steps p.tables e below (T102.setTop (mkF m 18 #[.val (.int p1), .val (.int p2), .val (.int p3), .val (.int p4), .val (.int (p1 &&& (3 : Int32))), .val (.int c0), .val (.int c1), .unset, .unset, .unset, .unset] [(.int p4)])) _
    refine st103 _ ?_
    show Steps p.tables e below (T103.setTop (mkF m 21 #[.val (.int p1), .val (.int p2), .val (.int p3), .val (.int p4), .val (.int (p1 &&& (3 : Int32))), .val (.int c0), .val (.int c1), .unset, .unset, .unset, .unset] [(.int c2)])) _
    refine XS.istore X103.here hx rfl (hb hby at_21) rfl (l' := #[.val (.int p1), .val (.int p2), .val (.int p3), .val (.int p4), .val (.int (p1 &&& (3 : Int32))), .val (.int c0), .val (.int c1), .val (.int c2), .unset, .unset, .unset]) rfl ?_
    show Steps p.tables e below (T103.setTop (mkF m 23 #[.val (.int p1), .val (.int p2), .val (.int p3), .val (.int p4), .val (.int (p1 &&& (3 : Int32))), .val (.int c0), .val (.int c1), .val (.int c2), .unset, .unset, .unset] [])) _
    refine XS.iload X103.here hx rfl (hb hby at_23) rfl ?_
    show Steps p.tables e below (T103.setTop (mkF m 25 #[.val (.int p1), .val (.int p2), .val (.int p3), .val (.int p4), .val (.int (p1 &&& (3 : Int32))), .val (.int c0), .val (.int c1), .val (.int c2), .unset, .unset, .unset] [(.int (p1 &&& (3 : Int32)))])) _
    refine XS.ifYes X103.here hx rfl (pc0 := 25) (pc' := 36) rfl (hb hby at_25) rfl ((if0 _ _).trans (feq k0).2) (by decide) (by decide) ?_
    show Steps p.tables e below (T103.setTop (mkF m 36 #[.val (.int p1), .val (.int p2), .val (.int p3), .val (.int p4), .val (.int (p1 &&& (3 : Int32))), .val (.int c0), .val (.int c1), .val (.int c2), .unset, .unset, .unset] [])) _
    refine XS.iload X103.here hx rfl (hb hby at_36) rfl ?_
    show Steps p.tables e below (T103.setTop (mkF m 38 #[.val (.int p1), .val (.int p2), .val (.int p3), .val (.int p4), .val (.int (p1 &&& (3 : Int32))), .val (.int c0), .val (.int c1), .val (.int c2), .unset, .unset, .unset] [(.int (p1 &&& (3 : Int32)))])) _
    refine XS.iconst X103.here hx rfl (hb hby at_38) ?_
    show Steps p.tables e below (T103.setTop (mkF m 39 #[.val (.int p1), .val (.int p2), .val (.int p3), .val (.int p4), .val (.int (p1 &&& (3 : Int32))), .val (.int c0), .val (.int c1), .val (.int c2), .unset, .unset, .unset] [(.int (1 : Int32)), (.int (p1 &&& (3 : Int32)))])) _
    refine XS.icmpYes X103.here hx rfl (pc0 := 39) (pc' := 55) rfl (hb hby at_39) rfl (feq k1).2 (by decide) (by decide) ?_
    show Steps p.tables e below (T103.setTop (mkF m 55 #[.val (.int p1), .val (.int p2), .val (.int p3), .val (.int p4), .val (.int (p1 &&& (3 : Int32))), .val (.int c0), .val (.int c1), .val (.int c2), .unset, .unset, .unset] [])) _
    refine XS.iload X103.here hx rfl (hb hby at_55) rfl ?_
    show Steps p.tables e below (T103.setTop (mkF m 57 #[.val (.int p1), .val (.int p2), .val (.int p3), .val (.int p4), .val (.int (p1 &&& (3 : Int32))), .val (.int c0), .val (.int c1), .val (.int c2), .unset, .unset, .unset] [(.int (p1 &&& (3 : Int32)))])) _
    refine XS.iconst X103.here hx rfl (hb hby at_57) ?_
    show Steps p.tables e below (T103.setTop (mkF m 58 #[.val (.int p1), .val (.int p2), .val (.int p3), .val (.int p4), .val (.int (p1 &&& (3 : Int32))), .val (.int c0), .val (.int c1), .val (.int c2), .unset, .unset, .unset] [(.int (2 : Int32)), (.int (p1 &&& (3 : Int32)))])) _
    refine XS.icmpNo X103.here hx rfl (hb hby at_58) rfl (teq k2).2 ?_
    show Steps p.tables e below (T103.setTop (mkF m 61 #[.val (.int p1), .val (.int p2), .val (.int p3), .val (.int p4), .val (.int (p1 &&& (3 : Int32))), .val (.int c0), .val (.int c1), .val (.int c2), .unset, .unset, .unset] [])) _
    refine XS.iconst X103.here hx rfl (hb hby at_61) ?_
    show Steps p.tables e below (T103.setTop (mkF m 62 #[.val (.int p1), .val (.int p2), .val (.int p3), .val (.int p4), .val (.int (p1 &&& (3 : Int32))), .val (.int c0), .val (.int c1), .val (.int c2), .unset, .unset, .unset] [(.int (2 : Int32))])) _
    refine st104 _ ?_
    show Steps p.tables e below (T104.setTop (mkF m 64 #[.val (.int p1), .val (.int p2), .val (.int p3), .val (.int p4), .val (.int (p1 &&& (3 : Int32))), .val (.int c0), .val (.int c1), .val (.int c2), .unset, .unset, .unset] [(.ref b104)])) _
    refine XS.dup X104.here hx rfl (hb hby at_64) rfl rfl ?_
    show Steps p.tables e below (T104.setTop (mkF m 65 #[.val (.int p1), .val (.int p2), .val (.int p3), .val (.int p4), .val (.int (p1 &&& (3 : Int32))), .val (.int c0), .val (.int c1), .val (.int c2), .unset, .unset, .unset] [(.ref b104), (.ref b104)])) _
    refine XS.iconst X104.here hx rfl (hb hby at_65) ?_
    show Steps p.tables e below (T104.setTop (mkF m 66 #[.val (.int p1), .val (.int p2), .val (.int p3), .val (.int p4), .val (.int (p1 &&& (3 : Int32))), .val (.int c0), .val (.int c1), .val (.int c2), .unset, .unset, .unset] [(.int (0 : Int32)), (.ref b104), (.ref b104)])) _
    refine XS.iload X104.here hx rfl (hb hby at_66) rfl ?_
    show Steps p.tables e below (T104.setTop (mkF m 68 #[.val (.int p1), .val (.int p2), .val (.int p3), .val (.int p4), .val (.int (p1 &&& (3 : Int32))), .val (.int c0), .val (.int c1), .val (.int c2), .unset, .unset, .unset] [(.int c0), (.int (0 : Int32)), (.ref b104), (.ref b104)])) _
    refine st105 _ ?_
    show Steps p.tables e below (T105.setTop (mkF m 69 #[.val (.int p1), .val (.int p2), .val (.int p3), .val (.int p4), .val (.int (p1 &&& (3 : Int32))), .val (.int c0), .val (.int c1), .val (.int c2), .unset, .unset, .unset] [(.ref b104)])) _
    refine XS.dup X105.here hx rfl (hb hby at_69) rfl rfl ?_
    show Steps p.tables e below (T105.setTop (mkF m 70 #[.val (.int p1), .val (.int p2), .val (.int p3), .val (.int p4), .val (.int (p1 &&& (3 : Int32))), .val (.int c0), .val (.int c1), .val (.int c2), .unset, .unset, .unset] [(.ref b104), (.ref b104)])) _
    refine XS.iconst X105.here hx rfl (hb hby at_70) ?_
    show Steps p.tables e below (T105.setTop (mkF m 71 #[.val (.int p1), .val (.int p2), .val (.int p3), .val (.int p4), .val (.int (p1 &&& (3 : Int32))), .val (.int c0), .val (.int c1), .val (.int c2), .unset, .unset, .unset] [(.int (1 : Int32)), (.ref b104), (.ref b104)])) _
    refine XS.iload X105.here hx rfl (hb hby at_71) rfl ?_
    show Steps p.tables e below (T105.setTop (mkF m 73 #[.val (.int p1), .val (.int p2), .val (.int p3), .val (.int p4), .val (.int (p1 &&& (3 : Int32))), .val (.int c0), .val (.int c1), .val (.int c2), .unset, .unset, .unset] [(.int c1), (.int (1 : Int32)), (.ref b104), (.ref b104)])) _
    refine st106 _ ?_
    show Steps p.tables e below (T106.setTop (mkF m 74 #[.val (.int p1), .val (.int p2), .val (.int p3), .val (.int p4), .val (.int (p1 &&& (3 : Int32))), .val (.int c0), .val (.int c1), .val (.int c2), .unset, .unset, .unset] [(.ref b104)])) _
    refine XS.astore X106.here hx rfl (hb hby at_74) rfl rfl (l' := #[.val (.int p1), .val (.int p2), .val (.int p3), .val (.int p4), .val (.int (p1 &&& (3 : Int32))), .val (.int c0), .val (.int c1), .val (.int c2), .val (.ref b104), .unset, .unset]) rfl ?_
    show Steps p.tables e below (T106.setTop (mkF m 76 #[.val (.int p1), .val (.int p2), .val (.int p3), .val (.int p4), .val (.int (p1 &&& (3 : Int32))), .val (.int c0), .val (.int c1), .val (.int c2), .val (.ref b104), .unset, .unset] [])) _
    refine XS.goto X106.here hx rfl (pc0 := 76) (pc' := 99) rfl (hb hby at_76) (by decide) (by decide) ?_
    show Steps p.tables e below (T106.setTop (mkF m 99 #[.val (.int p1), .val (.int p2), .val (.int p3), .val (.int p4), .val (.int (p1 &&& (3 : Int32))), .val (.int c0), .val (.int c1), .val (.int c2), .val (.ref b104), .unset, .unset] [])) _
    refine st107 _ ?_
    show Steps p.tables e below (T107.setTop (mkF m 102 #[.val (.int p1), .val (.int p2), .val (.int p3), .val (.int p4), .val (.int (p1 &&& (3 : Int32))), .val (.int c0), .val (.int c1), .val (.int c2), .val (.ref b104), .unset, .unset] [(.ref b107)])) _
    refine XS.dup X107.here hx rfl (hb hby at_102) rfl rfl ?_
    show Steps p.tables e below (T107.setTop (mkF m 103 #[.val (.int p1), .val (.int p2), .val (.int p3), .val (.int p4), .val (.int (p1 &&& (3 : Int32))), .val (.int c0), .val (.int c1), .val (.int c2), .val (.ref b104), .unset, .unset] [(.ref b107), (.ref b107)])) _
    refine XS.aload X107.here hx rfl (hb hby at_103) rfl rfl ?_
    show Steps p.tables e below (T107.setTop (mkF m 105 #[.val (.int p1), .val (.int p2), .val (.int p3), .val (.int p4), .val (.int (p1 &&& (3 : Int32))), .val (.int c0), .val (.int c1), .val (.int c2), .val (.ref b104), .unset, .unset] [(.ref b104), (.ref b107), (.ref b107)])) _
    refine st110.trans ?_
    show Steps p.tables e below (T110.setTop (mkF m 108 #[.val (.int p1), .val (.int p2), .val (.int p3), .val (.int p4), .val (.int (p1 &&& (3 : Int32))), .val (.int c0), .val (.int c1), .val (.int c2), .val (.ref b104), .unset, .unset] [(.ref b107)])) _
    refine XS.astore X110.here hx rfl (hb hby at_108) rfl rfl (l' := #[.val (.int p1), .val (.int p2), .val (.int p3), .val (.int p4), .val (.int (p1 &&& (3 : Int32))), .val (.int c0), .val (.int c1), .val (.int c2), .val (.ref b104), .val (.ref b107), .unset]) rfl ?_
    show Steps p.tables e below (T110.setTop (mkF m 110 #[.val (.int p1), .val (.int p2), .val (.int p3), .val (.int p4), .val (.int (p1 &&& (3 : Int32))), .val (.int c0), .val (.int c1), .val (.int c2), .val (.ref b104), .val (.ref b107), .unset] [])) _
    refine XS.aload X110.here hx rfl (hb hby at_110) rfl rfl ?_
    show Steps p.tables e below (T110.setTop (mkF m 112 #[.val (.int p1), .val (.int p2), .val (.int p3), .val (.int p4), .val (.int (p1 &&& (3 : Int32))), .val (.int c0), .val (.int c1), .val (.int c2), .val (.ref b104), .val (.ref b107), .unset] [(.ref b107)])) _
    refine st111.trans ?_
    show Steps p.tables e below (T111.setTop (mkF m 115 #[.val (.int p1), .val (.int p2), .val (.int p3), .val (.int p4), .val (.int (p1 &&& (3 : Int32))), .val (.int c0), .val (.int c1), .val (.int c2), .val (.ref b104), .val (.ref b107), .unset] [.null])) _
    refine XS.astore X111.here hx rfl (hb hby at_115) rfl rfl (l' := #[.val (.int p1), .val (.int p2), .val (.int p3), .val (.int p4), .val (.int (p1 &&& (3 : Int32))), .val (.int c0), .val (.int c1), .val (.int c2), .val (.ref b104), .val (.ref b107), .val .null]) rfl ?_
    show Steps p.tables e below (T111.setTop (mkF m 117 #[.val (.int p1), .val (.int p2), .val (.int p3), .val (.int p4), .val (.int (p1 &&& (3 : Int32))), .val (.int c0), .val (.int c1), .val (.int c2), .val (.ref b104), .val (.ref b107), .val .null] [])) _
    refine XS.aload X111.here hx rfl (hb hby at_117) rfl rfl ?_
    show Steps p.tables e below (T111.setTop (mkF m 119 #[.val (.int p1), .val (.int p2), .val (.int p3), .val (.int p4), .val (.int (p1 &&& (3 : Int32))), .val (.int c0), .val (.int c1), .val (.int c2), .val (.ref b104), .val (.ref b107), .val .null] [.null])) _
    refine XS.iload X111.here hx rfl (hb hby at_119) rfl ?_
    show Steps p.tables e below (T111.setTop (mkF m 121 #[.val (.int p1), .val (.int p2), .val (.int p3), .val (.int p4), .val (.int (p1 &&& (3 : Int32))), .val (.int c0), .val (.int c1), .val (.int c2), .val (.ref b104), .val (.ref b107), .val .null] [(.int (p1 &&& (3 : Int32))), .null])) _
    refine XS.iload X111.here hx rfl (hb hby at_121) rfl ?_
    show Steps p.tables e below (T111.setTop (mkF m 123 #[.val (.int p1), .val (.int p2), .val (.int p3), .val (.int p4), .val (.int (p1 &&& (3 : Int32))), .val (.int c0), .val (.int c1), .val (.int c2), .val (.ref b104), .val (.ref b107), .val .null] [(.int c0), (.int (p1 &&& (3 : Int32))), .null])) _
    refine XS.iload X111.here hx rfl (hb hby at_123) rfl ?_
    show Steps p.tables e below (T111.setTop (mkF m 125 #[.val (.int p1), .val (.int p2), .val (.int p3), .val (.int p4), .val (.int (p1 &&& (3 : Int32))), .val (.int c0), .val (.int c1), .val (.int c2), .val (.ref b104), .val (.ref b107), .val .null] [(.int c1), (.int c0), (.int (p1 &&& (3 : Int32))), .null])) _
    refine st112 _ ?_
    show Steps p.tables e below (T112.setTop (mkF m 128 #[.val (.int p1), .val (.int p2), .val (.int p3), .val (.int p4), .val (.int (p1 &&& (3 : Int32))), .val (.int c0), .val (.int c1), .val (.int c2), .val (.ref b104), .val (.ref b107), .val .null] [.null, .null])) _
    refine Jvm.RoadKit.acmp (g := (mkF m 128 #[.val (.int p1), .val (.int p2), .val (.int p3), .val (.int p4), .val (.int (p1 &&& (3 : Int32))), .val (.int c0), .val (.int c1), .val (.int c2), .val (.ref b104), .val (.ref b107), .val .null] [.null, .null])) X112 hx rfl rfl rfl (pc0 := 128) (pc' := 131) (same := true) rfl (hb hby at_128) rfl (decide_eq_true rfl) (by decide) (by decide) ?_
    show Steps p.tables e below (T112.setTop (mkF m 131 #[.val (.int p1), .val (.int p2), .val (.int p3), .val (.int p4), .val (.int (p1 &&& (3 : Int32))), .val (.int c0), .val (.int c1), .val (.int c2), .val (.ref b104), .val (.ref b107), .val .null] [])) _
    refine XS.iconst X112.here hx rfl (hb hby at_131) ?_
    show Steps p.tables e below (T112.setTop (mkF m 132 #[.val (.int p1), .val (.int p2), .val (.int p3), .val (.int p4), .val (.int (p1 &&& (3 : Int32))), .val (.int c0), .val (.int c1), .val (.int c2), .val (.ref b104), .val (.ref b107), .val .null] [(.int (1 : Int32))])) _
    refine XS.goto X112.here hx rfl (pc0 := 132) (pc' := 136) rfl (hb hby at_132) (by decide) (by decide) ?_
    show Steps p.tables e below (T112.setTop (mkF m 136 #[.val (.int p1), .val (.int p2), .val (.int p3), .val (.int p4), .val (.int (p1 &&& (3 : Int32))), .val (.int c0), .val (.int c1), .val (.int c2), .val (.ref b104), .val (.ref b107), .val .null] [(.int (1 : Int32))])) _
    exact retN X112 hx (t := .boolean) Bd.returns (by simp) (hb hby at_136) hr
  · show Q0 h0 n0 _ T112.heap _
    rw [e112]
    exact ⟨rfl, N112⟩
set_option maxRecDepth 65536 in
set_option maxHeartbeats 40000000 in
theorem rm0_2r (l : Launch) (Z : State) (a0 : Array Value) (hw : ∀ d ∈ tables_1, d.before a0 Z = true) (ws : List Jvm.Cond) (p1 p2 p3 p4 : Int32) (G1 : Int32) (kV : ClassId) (wV w0 w1 w2 w3 w4 w5 : Addr) (s0 s1 s2 s3 s4 s5 : Addr) (c0 c1 c2 : Int32) (wr : Addr) (h0 : Heap) (n0 : Nat) (O0 : Old Z n0 h0) (S_CS : Sta Z Z.heap "java/lang/String" "COMPACT_STRINGS" "Z" (.int G1)) (hG1 : ¬ (G1 = (0 : Int32))) (S_V : Sta Z Z.heap "com/example/plugroot/plugroot/sql/Comparison" "$VALUES" "[Lcom/example/plugroot/plugroot/sql/Comparison;" (.ref wV)) (A_V : Arv Z Z.heap wV kV (.object "com/example/plugroot/plugroot/sql/Comparison") (6 : Int32) [(.ref w0), (.ref w1), (.ref w2), (.ref w3), (.ref w4), (.ref w5)] .null) (E_V : Exa Z Z.heap wV "[Lcom/example/plugroot/plugroot/sql/Comparison;") (M0 : Fld Z Z.heap w0 "com/example/plugroot/plugroot/sql/Comparison" "symbol" "Ljava/lang/String;" (.ref s0)) (M1 : Fld Z Z.heap w1 "com/example/plugroot/plugroot/sql/Comparison" "symbol" "Ljava/lang/String;" (.ref s1)) (M2 : Fld Z Z.heap w2 "com/example/plugroot/plugroot/sql/Comparison" "symbol" "Ljava/lang/String;" (.ref s2)) (M3 : Fld Z Z.heap w3 "com/example/plugroot/plugroot/sql/Comparison" "symbol" "Ljava/lang/String;" (.ref s3)) (M4 : Fld Z Z.heap w4 "com/example/plugroot/plugroot/sql/Comparison" "symbol" "Ljava/lang/String;" (.ref s4)) (M5 : Fld Z Z.heap w5 "com/example/plugroot/plugroot/sql/Comparison" "symbol" "Ljava/lang/String;" (.ref s5)) (T0 : Str Z Z.heap s0 ([(61 : Int32)] : List Int32)) (T1 : Str Z Z.heap s1 ([(60 : Int32), (62 : Int32)] : List Int32)) (T2 : Str Z Z.heap s2 ([(60 : Int32)] : List Int32)) (T3 : Str Z Z.heap s3 ([(62 : Int32)] : List Int32)) (T4 : Str Z Z.heap s4 ([(60 : Int32), (61 : Int32)] : List Int32)) (T5 : Str Z Z.heap s5 ([(62 : Int32), (61 : Int32)] : List Int32)) (S0 : Sta Z Z.heap "com/example/plugroot/plugroot/sql/Comparison" "EQUAL" "Lcom/example/plugroot/plugroot/sql/Comparison;" (.ref w0)) (S1 : Sta Z Z.heap "com/example/plugroot/plugroot/sql/Comparison" "NOT_EQUAL" "Lcom/example/plugroot/plugroot/sql/Comparison;" (.ref w1)) (S2 : Sta Z Z.heap "com/example/plugroot/plugroot/sql/Comparison" "LESS" "Lcom/example/plugroot/plugroot/sql/Comparison;" (.ref w2)) (S3 : Sta Z Z.heap "com/example/plugroot/plugroot/sql/Comparison" "GREATER" "Lcom/example/plugroot/plugroot/sql/Comparison;" (.ref w3)) (S4 : Sta Z Z.heap "com/example/plugroot/plugroot/sql/Comparison" "LESS_OR_EQUAL" "Lcom/example/plugroot/plugroot/sql/Comparison;" (.ref w4)) (S5 : Sta Z Z.heap "com/example/plugroot/plugroot/sql/Comparison" "GREATER_OR_EQUAL" "Lcom/example/plugroot/plugroot/sql/Comparison;" (.ref w5)) (hd0 : c0 = drawF p2) (hd1 : c1 = drawF p3) (hd2 : c2 = drawF p4) (hr0 : ¬ c0 < 0 ∧ ¬ (255 : Int32) < c0) (hr1 : ¬ c1 < 0 ∧ ¬ (255 : Int32) < c1) (hr2 : ¬ c2 < 0 ∧ ¬ (255 : Int32) < c2) (hof : (.ref wr) = specF w0 w1 w2 w3 w4 w5 ([c0, c1] : List Int32)) (hex : (.ref wr) = expF w0 w1 w2 w3 w4 w5 (p1 &&& (3 : Int32)) c0 c1) (k0 : ¬ ((p1 &&& (3 : Int32)) = 0)) (k1 : ¬ ((p1 &&& (3 : Int32)) = 1)) (k2 : (p1 &&& (3 : Int32)) = 2) :
    MetFree l x (head1 (Jvm.Cond.code x code maxLocals ret :: ws) room_1) (fun a_ U => a_ = #[(.int p1), (.int p2), (.int p3), (.int p4)] ∧ Z.Warmed39 U.vm ∧ U.heap = h0 ∧ CHv Z consts_1 U.vm h0) (fun _ _ _ _ _ => True) (fun _ U o U' => ∃ v L, o = .returned v ∧ Q0 h0 n0 v U'.heap L ∧ CHr Z consts_1 U.vm U.heap U'.vm U'.heap ∧ ReturnedEndW U o U' L room_1.cells room_1.slots) := by
  refine MetFree.of_bodySF (plainFor_of_name pn_0) hisR ?_
  intro p e s m args below meth c s₁ Bd hml0 hP hK
  obtain ⟨rfl, hZ, hh, hC⟩ := hP
  have hx := Bd.exec
  have hby := Bd.bytes
  have hml : c.maxLocals = 11 := hml0
  have hown : s.vm.findClass "com/example/plugroot/plugroot/sql/ComparisonOfPinLaw" = some m.cls := findClass_of_methodNamed Bd.named
  have hnm := (name_of_methodNamed Bd.named Bd.method).1
  have X0 : Stand p l e room_1 (s.setVm s.vm) m #[(.int p1), (.int p2), (.int p3), (.int p4)] below meth c s₁ [] 0 0 := Stand.of_body Bd
  have e0 : s₁.heap = h0 := by rw [← hh, Bd.state]; rfl
  have N0 := Fr.nil n0
  have pre0 : ∀ tg, Steps p.tables e below (s₁.setTop (mkF m 0 #[.val (.int p1), .val (.int p2), .val (.int p3), .val (.int p4), .unset, .unset, .unset, .unset, .unset, .unset, .unset] [])) tg → Steps p.tables e below (s₁.setTop (entryFrame m #[(.int p1), (.int p2), (.int p3), (.int p4)] maxLocals)) tg := fun tg kq => castTop (ef_IIII_11m m p1 p2 p3 p4) kq
  have hS0 : s.Since s.vm h0.size := (State.WarmedH.refl s).since _
  have hk0 : h0.size ≤ h0.size := Nat.le_refl _
  have CR0 : CHr Z consts_1 s.vm h0 s.vm h0 := CHr.refl hC
  obtain ⟨tm0, kbm0, Nm0, vsm0, sEm0, sVm0, sCm0, sKm0, scdm0, shpm0, shlm0⟩ := id T0
  obtain ⟨tm1, kbm1, Nm1, vsm1, sEm1, sVm1, sCm1, sKm1, scdm1, shpm1, shlm1⟩ := id T1
  obtain ⟨tm2, kbm2, Nm2, vsm2, sEm2, sVm2, sCm2, sKm2, scdm2, shpm2, shlm2⟩ := id T2
  obtain ⟨tm3, kbm3, Nm3, vsm3, sEm3, sVm3, sCm3, sKm3, scdm3, shpm3, shlm3⟩ := id T3
  obtain ⟨tm4, kbm4, Nm4, vsm4, sEm4, sVm4, sCm4, sKm4, scdm4, shpm4, shlm4⟩ := id T4
  obtain ⟨tm5, kbm5, Nm5, vsm5, sEm5, sVm5, sCm5, sKm5, scdm5, shpm5, shlm5⟩ := id T5
  obtain ⟨_, _, ⟨T101, L101, k101, n101⟩, -, X101, ⟨Lc101, hQ101, l101, y101, z101⟩, st101⟩ := Jvm.LawKit.callS X0 hx (y := (⟨"com/example/plugroot/plugroot/sql/ComparisonOfPinLaw", "draw", "(I)C"⟩ : MethodName)) hown (mvT hZ (wi hw 0 rfl)) (mvT hZ (wi hw 1 rfl)) (mvT hZ (wi hw 2 rfl)) (mvT hZ (wi hw 3 rfl)) (by decide) (backOf (W := 0) (rm1 l Z a0 hw [] p2 c0 h0 n0 O0 hd0) hZ (wi hw 3 rfl) (wi hw 2 rfl) (by decide) (by decide)) (g := (mkF m 6 #[.val (.int p1), .val (.int p2), .val (.int p3), .val (.int p4), .val (.int (p1 &&& (3 : Int32))), .unset, .unset, .unset, .unset, .unset, .unset] [(.int p2)])) rfl (by rw [hml]; rfl) (argsL := [(.int p2)]) (rest := []) (lenOf pd_3 rfl) rfl (by show 2 * 0 + _ ≤ _; exact Nat.le_of_eq rfl) (hb hby at_6) (fun _ _ => ⟨rfl, e0, (by decide : 0 + 0 ≤ _), (by decide : 0 + 0 ≤ _)⟩)
  dsimp only [Pt.U, Pt.locs, Pt.cells, Pt.slots] at X101 l101 y101 z101 st101 hQ101
  subst l101 y101 z101
  obtain ⟨rfl, N101q, hh101⟩ := hQ101
  have e101 : T101.heap = h0 := hh101
  have N101 := Fr.app N0 N101q
  obtain ⟨_, _, ⟨T102, L102, k102, n102⟩, -, X102, ⟨Lc102, hQ102, l102, y102, z102⟩, st102⟩ := Jvm.LawKit.callS X101 hx (y := (⟨"com/example/plugroot/plugroot/sql/ComparisonOfPinLaw", "draw", "(I)C"⟩ : MethodName)) hown (mvT hZ (wi hw 0 rfl)) (mvT hZ (wi hw 1 rfl)) (mvT hZ (wi hw 2 rfl)) (mvT hZ (wi hw 3 rfl)) (by decide) (backOf (W := 0) (rm1 l Z a0 hw [] p3 c1 h0 n0 O0 hd1) hZ (wi hw 3 rfl) (wi hw 2 rfl) (by decide) (by decide)) (g := (mkF m 12 #[.val (.int p1), .val (.int p2), .val (.int p3), .val (.int p4), .val (.int (p1 &&& (3 : Int32))), .val (.int c0), .unset, .unset, .unset, .unset, .unset] [(.int p3)])) rfl (by rw [hml]; rfl) (argsL := [(.int p3)]) (rest := []) (lenOf pd_3 rfl) rfl (by show 2 * 0 + _ ≤ _; exact Nat.le_of_eq rfl) (hb hby at_12) (fun _ _ => ⟨rfl, e101, (by decide : 0 + 0 ≤ _), (by decide : 0 + 0 ≤ _)⟩)
  dsimp only [Pt.U, Pt.locs, Pt.cells, Pt.slots] at X102 l102 y102 z102 st102 hQ102
  subst l102 y102 z102
  obtain ⟨rfl, N102q, hh102⟩ := hQ102
  have e102 : T102.heap = h0 := hh102
  have N102 := Fr.app N101 N102q
  obtain ⟨_, _, ⟨T103, L103, k103, n103⟩, -, X103, ⟨Lc103, hQ103, l103, y103, z103⟩, st103⟩ := Jvm.LawKit.callS X102 hx (y := (⟨"com/example/plugroot/plugroot/sql/ComparisonOfPinLaw", "draw", "(I)C"⟩ : MethodName)) hown (mvT hZ (wi hw 0 rfl)) (mvT hZ (wi hw 1 rfl)) (mvT hZ (wi hw 2 rfl)) (mvT hZ (wi hw 3 rfl)) (by decide) (backOf (W := 0) (rm1 l Z a0 hw [] p4 c2 h0 n0 O0 hd2) hZ (wi hw 3 rfl) (wi hw 2 rfl) (by decide) (by decide)) (g := (mkF m 18 #[.val (.int p1), .val (.int p2), .val (.int p3), .val (.int p4), .val (.int (p1 &&& (3 : Int32))), .val (.int c0), .val (.int c1), .unset, .unset, .unset, .unset] [(.int p4)])) rfl (by rw [hml]; rfl) (argsL := [(.int p4)]) (rest := []) (lenOf pd_3 rfl) rfl (by show 2 * 0 + _ ≤ _; exact Nat.le_of_eq rfl) (hb hby at_18) (fun _ _ => ⟨rfl, e102, (by decide : 0 + 0 ≤ _), (by decide : 0 + 0 ≤ _)⟩)
  dsimp only [Pt.U, Pt.locs, Pt.cells, Pt.slots] at X103 l103 y103 z103 st103 hQ103
  subst l103 y103 z103
  obtain ⟨rfl, N103q, hh103⟩ := hQ103
  have e103 : T103.heap = h0 := hh103
  have N103 := Fr.app N102 N103q
  obtain ⟨T104, h104, k104, X104, e104, E104, A104, st104⟩ := newP X103 hx hZ (wi hw 4 rfl) e103 (g := (mkF m 62 #[.val (.int p1), .val (.int p2), .val (.int p3), .val (.int p4), .val (.int (p1 &&& (3 : Int32))), .val (.int c0), .val (.int c1), .val (.int c2), .unset, .unset, .unset] [(.int (2 : Int32))])) rfl (hb hby at_62) rfl (by decide) (cap := 2) (by decide) (by decide) (by decide) (by decide)
  obtain ⟨b104, g104⟩ : ∃ z, z = h0.size := ⟨_, rfl⟩
  rw [← g104] at A104 st104
  have g_b104 : n0 ≤ b104 := Nat.le_trans (O0.1 ▸ O0.2.1) (Nat.le_of_eq g104.symm)
  have sz_b104 : h0.size ≤ b104 := Nat.le_trans (Nat.le_refl _) (Nat.le_of_eq g104.symm)
  have O104 := O0.ext E104
  have CS104 := CHr.ext E104 CR0.1
  have CR104 := CR0.trans CS104
  have KK104 : Keep h0 h104 [] := (Keep.refl h0 []).ext E104
  have V_b104 : Arv Z h104 b104 k104 .char (2 : Int32) [(.int (0 : Int32)), (.int (0 : Int32))] (.int (0 : Int32)) := (Arv.new A104 (by decide)).pad (pad_rep [] (.int (0 : Int32)) 2)
  obtain ⟨cl_b104_53, Ar_b104_53, q_b104_53, S_b104_53, N_b104_53, H_b104_53, G_b104_53⟩ := id (V_b104)
  have hinb104_53 : ¬ ((0 : Int32) < 0 ∨ cl_b104_53.slots.size ≤ ((0 : Int32)).toNatClampNeg) := inb_of S_b104_53 ⟨by decide, by decide⟩
  obtain ⟨T105, h105, X105, e105, W105, st105⟩ := stC X104 hx hZ e104 Ar_b104_53 (j := (0 : Int32)) hinb104_53 (g := (mkF m 68 #[.val (.int p1), .val (.int p2), .val (.int p3), .val (.int p4), .val (.int (p1 &&& (3 : Int32))), .val (.int c0), .val (.int c1), .val (.int c2), .unset, .unset, .unset] [(.int c0), (.int (0 : Int32)), (.ref b104), (.ref b104)])) rfl rfl (hb hby at_68)
  have V_b104_105 : Arv Z h105 b104 k104 .char (2 : Int32) [(.int (nar .char c0)), (.int (0 : Int32))] (.int (0 : Int32)) := Arv.set Ar_b104_53 q_b104_53 S_b104_53 N_b104_53 H_b104_53 G_b104_53 (fits_nar_char _) W105 0 rfl (Nat.le_of_ble_eq_true rfl)
  have V_b104_105' : Arv Z h105 b104 k104 .char (2 : Int32) [(.int c0), (.int (0 : Int32))] (.int (0 : Int32)) := by have q := V_b104_105; rw [own_nar hr0] at q; exact q
  have O105 := O104.wr W105 g_b104
  have CS105 := CHr.wr W105 (Safe.arv hZ.alike V_b104 (by decide)) CR104.1
  have CR105 := CR104.trans CS105
  have KK105 : Keep h0 h105 [] := KK104.wr W105 (Or.inr sz_b104)
  have N105 := Fr.snoc X105 N103 g_b104
  obtain ⟨cl_b104_61, Ar_b104_61, q_b104_61, S_b104_61, N_b104_61, H_b104_61, G_b104_61⟩ := id (V_b104_105')
  have hinb104_61 : ¬ ((1 : Int32) < 0 ∨ cl_b104_61.slots.size ≤ ((1 : Int32)).toNatClampNeg) := inb_of S_b104_61 ⟨by decide, by decide⟩
  obtain ⟨T106, h106, X106, e106, W106, st106⟩ := stC X105 hx hZ e105 Ar_b104_61 (j := (1 : Int32)) hinb104_61 (g := (mkF m 73 #[.val (.int p1), .val (.int p2), .val (.int p3), .val (.int p4), .val (.int (p1 &&& (3 : Int32))), .val (.int c0), .val (.int c1), .val (.int c2), .unset, .unset, .unset] [(.int c1), (.int (1 : Int32)), (.ref b104), (.ref b104)])) rfl rfl (hb hby at_73)
  have V_b104_106 : Arv Z h106 b104 k104 .char (2 : Int32) [(.int c0), (.int (nar .char c1))] (.int (0 : Int32)) := Arv.set Ar_b104_61 q_b104_61 S_b104_61 N_b104_61 H_b104_61 G_b104_61 (fits_nar_char _) W106 1 rfl (Nat.le_of_ble_eq_true rfl)
  have V_b104_106' : Arv Z h106 b104 k104 .char (2 : Int32) [(.int c0), (.int c1)] (.int (0 : Int32)) := by have q := V_b104_106; rw [own_nar hr1] at q; exact q
  have O106 := O105.wr W106 g_b104
  have CS106 := CHr.wr W106 (Safe.arv hZ.alike V_b104_105' (by decide)) CR105.1
  have CR106 := CR105.trans CS106
  have KK106 : Keep h0 h106 [] := KK105.wr W106 (Or.inr sz_b104)
  have N106 := Fr.snoc X106 N105 g_b104
  obtain ⟨T107, h107, X107, e107, E107, A107, D107, -, st107⟩ := newO X106 hx hZ hown (wi hw 5 rfl) (wi hw 6 rfl) (wi hw 7 rfl) e106 (g := (mkF m 99 #[.val (.int p1), .val (.int p2), .val (.int p3), .val (.int p4), .val (.int (p1 &&& (3 : Int32))), .val (.int c0), .val (.int c1), .val (.int c2), .val (.ref b104), .unset, .unset] [])) rfl (hb hby at_99) (by decide) (by decide)
  obtain ⟨b107, g107⟩ : ∃ z, z = h106.size := ⟨_, rfl⟩
  rw [← g107] at A107 D107 st107
  have g_b107 : n0 ≤ b107 := Nat.le_trans (O106.1 ▸ O106.2.1) (Nat.le_of_eq g107.symm)
  have sz_b107 : h0.size ≤ b107 := Nat.le_trans KK106.1 (Nat.le_of_eq g107.symm)
  have O107 := O106.ext E107
  have CS107 := CHr.ext E107 CR106.1
  have CR107 := CR106.trans CS107
  have KK107 : Keep h0 h107 [] := KK106.ext E107
  have sf_b107 : Safe Z consts_1 s.vm h107 b107 := Safe.ext E107 CR106.1 (Safe.new (Nat.le_of_eq g107.symm))
  have F_value_b107 : Fld Z h107 b107 "java/lang/String" "value" "[B" .null := D107 (Or.inr (wi hw 20 rfl)) (ty := (.array .byte)) (by decide)
  have F_coder_b107 : Fld Z h107 b107 "java/lang/String" "coder" "B" (.int (0 : Int32)) := D107 (Or.inr (wi hw 21 rfl)) (ty := .byte) (by decide)
  have fV_b104_4_108 := (V_b104_106'.ext E107)
  have shp109 : ∀ c ∈ ([c0, c1] : List Int32), ¬ c < 0 ∧ ¬ (255 : Int32) < c := (own_memS hr0 (own_memS hr1 own_mem0))
  have sA109 : Arv Z h107 b104 k104 .char (2 : Int32) (([c0, c1] : List Int32).map Value.int) (.int (0 : Int32)) := fV_b104_4_108
  obtain ⟨_, _, ⟨T110, L110, k110, n110⟩, -, X110, ⟨Lc110, hQ110, l110, y110, z110⟩, st110⟩ := X107.specialBack hx (y := (⟨"java/lang/String", "<init>", "([C)V"⟩ : MethodName)) rfl hown (mvT hZ (wi hw 8 rfl)) (mvT hZ (wi hw 9 rfl)) (mvT hZ (wi hw 10 rfl)) (by decide) (StrChars.Road.backV (W := 1) hZ (fun d hd => hw d (own_w_backV d hd)) (kI := 4) (wi hw 6 rfl) (cs := ([c0, c1] : List Int32)) (bs := ([c0, c1] : List Int32).map (fun c => c.toInt8.toInt32)) (n := 2) g_b107 (O107.1 ▸ O107.2.1) A107 F_value_b107 F_coder_b107 sA109 (S_CS.ext O107.2) hG1 rfl rfl (by decide) (by decide) shp109 rfl (by decide) (by decide)) (g := (mkF m 105 #[.val (.int p1), .val (.int p2), .val (.int p3), .val (.int p4), .val (.int (p1 &&& (3 : Int32))), .val (.int c0), .val (.int c1), .val (.int c2), .val (.ref b104), .unset, .unset] [(.ref b104), (.ref b107), (.ref b107)])) rfl (by rw [hml]; rfl) (Steps.refl _) (a := b107) (argsL := [(.ref b104)]) (rest := [(.ref b107)]) (lenOf pd_4 rfl) rfl (by show 2 * 0 + _ ≤ _; exact Nat.le_of_eq rfl) (hb hby at_105) (fun _ _ => ⟨rfl, e107, (by decide : 2 + 1 ≤ _), (by decide : 6 + 2 ≤ _)⟩)
  dsimp only [Pt.U, Pt.locs, Pt.cells, Pt.slots] at X110 l110 y110 z110 st110 hQ110
  subst l110 y110 z110
  obtain ⟨rfl, N110q, K110, sE109, sC109, t109, kb109, sg109, ssz109, sne109, sV109, sK109⟩ := hQ110
  obtain ⟨h110, e110⟩ : ∃ z, T110.heap = z := ⟨_, rfl⟩
  rw [e110] at K110 sE109 sC109 sV109 sK109
  have g_t109 : n0 ≤ t109 := Nat.le_trans (O107.1 ▸ O107.2.1) ssz109
  have sz_t109 : h0.size ≤ t109 := Nat.le_trans KK107.1 ssz109
  have O110 := O107.keep K110 (allS g_b107 all0)
  have CS110 := CHr.keep K110 (sfS sf_b107 sf0) CR107.1
  have CR110 := CR107.trans CS110
  have KK110 : Keep h0 h110 [] := KK107.trans K110 (allS (Or.inr sz_b107) all0)
  have N110 := Fr.app N106 N110q
  have scd109 : StrChars.Road.CodA ([c0, c1] : List Int32) 0 (2 : Int32) ((([c0, c1] : List Int32).map (fun c => c.toInt8.toInt32)).map Value.int) := StrChars.Road.codOf (n := 2) rfl (fun c hc => (shp109 c hc).2)
  obtain ⟨_, _, ⟨T111, L111, k111, n111⟩, -, Xr111, hSr111, gr111, ⟨Lc111, hQ111, l111, y111, z111, CSr111⟩, st111⟩ := Jvm.RoadKit.callSS X110 hx (y := (⟨"com/example/plugroot/plugroot/sql/Comparison", "of", "(Ljava/lang/String;)Lcom/example/plugroot/plugroot/sql/Comparison;"⟩ : MethodName)) hown (mvT hZ (wi hw 26 rfl)) (mvT hZ (wi hw 27 rfl)) (mvT hZ (wi hw 28 rfl)) (mvT hZ (wi hw 29 rfl)) (by decide) (backOfSH (W := 0) (rm5 l Z a0 hw [] G1 kV wV w0 w1 w2 w3 w4 w5 s0 s1 s2 s3 s4 s5 b107 ([c0, c1] : List Int32) (.ref wr) h110 n0 O110 S_CS hG1 S_V A_V E_V M0 M1 M2 M3 M4 M5 T0 T1 T2 T3 T4 T5 ⟨_, _, _, _, sE109, sV109, sC109, sK109, scd109, shp109, (Nat.le_of_ble_eq_true rfl)⟩ hof) hZ (wi hw 29 rfl) (wi hw 28 rfl) (by decide) (by decide) (own_EW hw) CR110.1) (g := (mkF m 112 #[.val (.int p1), .val (.int p2), .val (.int p3), .val (.int p4), .val (.int (p1 &&& (3 : Int32))), .val (.int c0), .val (.int c1), .val (.int c2), .val (.ref b104), .val (.ref b107), .unset] [(.ref b107)])) rfl (by rw [hml]; rfl) (argsL := [(.ref b107)]) (rest := []) (lenOf pd_5 rfl) rfl (by show 2 * 0 + _ ≤ _; exact Nat.le_of_eq rfl) (hb hby at_112) (fun _ _ => ⟨rfl, e110, (by decide : 3 + 5 ≤ _), (by decide : 8 + 30 ≤ _)⟩)
  dsimp only [Pt.U, Pt.locs, Pt.cells, Pt.slots] at Xr111 l111 y111 z111 st111 hQ111 hSr111 gr111 CSr111
  subst l111 y111 z111
  obtain ⟨X111, hS111, hZ111, hown111⟩ := rebS hS0 (by rw [e110]; exact (Nat.le_trans (Nat.le_trans (Nat.le_trans (Nat.le_trans (Nat.le_trans hk0 E104.1) (Keep.of_wr W105).1) (Keep.of_wr W106).1) E107.1) K110.1)) Xr111 hSr111 gr111 hZ hown
  obtain ⟨rfl, N111q, K111⟩ := hQ111
  obtain ⟨h111, e111⟩ : ∃ z, T111.heap = z := ⟨_, rfl⟩
  rw [e111] at K111
  rw [e111] at CSr111
  have O111 := O110.keep K111 all0
  have CS111 := CSr111
  have CR111 := CR110.trans CS111
  have KK111 : Keep h0 h111 [] := KK110.trans K111 all0
  rw [e111] at hS111
  have N111 := Fr.app N110 N111q
  obtain ⟨_, _, ⟨T112, L112, k112, n112⟩, -, X112, ⟨Lc112, hQ112, l112, y112, z112⟩, st112⟩ := Jvm.LawKit.callS X111 hx (y := (⟨"com/example/plugroot/plugroot/sql/ComparisonOfPinLaw", "expected", "(ICC)Lcom/example/plugroot/plugroot/sql/Comparison;"⟩ : MethodName)) hown111 (mvT hZ111 (wi hw 65 rfl)) (mvT hZ111 (wi hw 66 rfl)) (mvT hZ111 (wi hw 2 rfl)) (mvT hZ111 (wi hw 67 rfl)) (by decide) (backOf (W := 1) (rm9 l Z a0 hw [] w0 w1 w2 w3 w4 w5 (p1 &&& (3 : Int32)) c0 c1 (.ref wr) h111 n0 O111 S0 S1 S2 S3 S4 S5 hex) hZ111 (wi hw 67 rfl) (wi hw 2 rfl) (by decide) (by decide)) (g := (mkF m 125 #[.val (.int p1), .val (.int p2), .val (.int p3), .val (.int p4), .val (.int (p1 &&& (3 : Int32))), .val (.int c0), .val (.int c1), .val (.int c2), .val (.ref b104), .val (.ref b107), .val (.ref wr)] [(.int c1), (.int c0), (.int (p1 &&& (3 : Int32))), (.ref wr)])) rfl (by rw [hml]; rfl) (argsL := [(.int (p1 &&& (3 : Int32))), (.int c0), (.int c1)]) (rest := [(.ref wr)]) (lenOf pd_6 rfl) rfl (by show 2 * 0 + _ ≤ _; exact Nat.le_of_eq rfl) (hb hby at_125) (fun _ _ => ⟨rfl, e111, (by decide : 8 + 0 ≤ _), (by decide : 38 + 0 ≤ _)⟩)
  dsimp only [Pt.U, Pt.locs, Pt.cells, Pt.slots] at X112 l112 y112 z112 st112 hQ112
  subst l112 y112 z112
  obtain ⟨rfl, N112q, hh112⟩ := hQ112
  have e112 : T112.heap = h111 := hh112
  have N112 := Fr.app N111 N112q
  obtain ⟨fs, hr, hrun, hended, hREW⟩ := X112.leaveW hS111 (by rw [e112]; exact (Nat.le_refl _)) (v := some (.int (1 : Int32))) (fun h => by rw [Bd.returns] at h; cases h)
  refine ⟨_, _, pre0 _ ?_, hrun, hended, _, _, rfl, ?_, (by rw [hh]; show CHr Z consts_1 s.vm h0 T112.vm T112.heap; rw [e112]; exact CR111.trans (CHv.at X112 hZ111 (own_EW hw) CR111.1)), hREW.1, hREW.2.1, hREW.2.2.1, hREW.2.2.2.mono (by decide) (by decide)⟩
  · show Steps p.tables e below (s₁.setTop (mkF m 0 #[.val (.int p1), .val (.int p2), .val (.int p3), .val (.int p4), .unset, .unset, .unset, .unset, .unset, .unset, .unset] [])) _
    refine XS.iloadN X0.here hx rfl (hb hby at_0) rfl ?_
    show Steps p.tables e below (s₁.setTop (mkF m 1 #[.val (.int p1), .val (.int p2), .val (.int p3), .val (.int p4), .unset, .unset, .unset, .unset, .unset, .unset, .unset] [(.int p1)])) _
    refine XS.iconst X0.here hx rfl (hb hby at_1) ?_
    show Steps p.tables e below (s₁.setTop (mkF m 2 #[.val (.int p1), .val (.int p2), .val (.int p3), .val (.int p4), .unset, .unset, .unset, .unset, .unset, .unset, .unset] [(.int (3 : Int32)), (.int p1)])) _
    refine XS.iand X0.here hx rfl (hb hby at_2) rfl ?_
    show Steps p.tables e below (s₁.setTop (mkF m 3 #[.val (.int p1), .val (.int p2), .val (.int p3), .val (.int p4), .unset, .unset, .unset, .unset, .unset, .unset, .unset] [(.int (p1 &&& (3 : Int32)))])) _
    refine XS.istore X0.here hx rfl (hb hby at_3) rfl (l' := #[.val (.int p1), .val (.int p2), .val (.int p3), .val (.int p4), .val (.int (p1 &&& (3 : Int32))), .unset, .unset, .unset, .unset, .unset, .unset]) rfl ?_
    show Steps p.tables e below (s₁.setTop (mkF m 5 #[.val (.int p1), .val (.int p2), .val (.int p3), .val (.int p4), .val (.int (p1 &&& (3 : Int32))), .unset, .unset, .unset, .unset, .unset, .unset] [])) _
    refine XS.iloadN X0.here hx rfl (hb hby at_5) rfl ?_
    show Steps p.tables e below (s₁.setTop (mkF m 6 #[.val (.int p1), .val (.int p2), .val (.int p3), .val (.int p4), .val (.int (p1 &&& (3 : Int32))), .unset, .unset, .unset, .unset, .unset, .unset] [(.int p2)])) _
    refine st101 _ ?_
    show Steps p.tables e below (T101.setTop (mkF m 9 #[.val (.int p1), .val (.int p2), .val (.int p3), .val (.int p4), .val (.int (p1 &&& (3 : Int32))), .unset, .unset, .unset, .unset, .unset, .unset] [(.int c0)])) _
    refine XS.istore X101.here hx rfl (hb hby at_9) rfl (l' := #[.val (.int p1), .val (.int p2), .val (.int p3), .val (.int p4), .val (.int (p1 &&& (3 : Int32))), .val (.int c0), .unset, .unset, .unset, .unset, .unset]) rfl ?_
    show Steps p.tables e below (T101.setTop (mkF m 11 #[.val (.int p1), .val (.int p2), .val (.int p3), .val (.int p4), .val (.int (p1 &&& (3 : Int32))), .val (.int c0), .unset, .unset, .unset, .unset, .unset] [])) _
    refine XS.iloadN X101.here hx rfl (hb hby at_11) rfl ?_
    show Steps p.tables e below (T101.setTop (mkF m 12 #[.val (.int p1), .val (.int p2), .val (.int p3), .val (.int p4), .val (.int (p1 &&& (3 : Int32))), .val (.int c0), .unset, .unset, .unset, .unset, .unset] [(.int p3)])) _
    refine st102 _ ?_
    show Steps p.tables e below (T102.setTop (mkF m 15 #[.val (.int p1), .val (.int p2), .val (.int p3), .val (.int p4), .val (.int (p1 &&& (3 : Int32))), .val (.int c0), .unset, .unset, .unset, .unset, .unset] [(.int c1)])) _
    refine XS.istore X102.here hx rfl (hb hby at_15) rfl (l' := #[.val (.int p1), .val (.int p2), .val (.int p3), .val (.int p4), .val (.int (p1 &&& (3 : Int32))), .val (.int c0), .val (.int c1), .unset, .unset, .unset, .unset]) rfl ?_
    show Steps p.tables e below (T102.setTop (mkF m 17 #[.val (.int p1), .val (.int p2), .val (.int p3), .val (.int p4), .val (.int (p1 &&& (3 : Int32))), .val (.int c0), .val (.int c1), .unset, .unset, .unset, .unset] [])) _
    refine XS.iloadN X102.here hx rfl (hb hby at_17) rfl ?_
    show Steps p.tables e below (T102.setTop (mkF m 18 #[.val (.int p1), .val (.int p2), .val (.int p3), .val (.int p4), .val (.int (p1 &&& (3 : Int32))), .val (.int c0), .val (.int c1), .unset, .unset, .unset, .unset] [(.int p4)])) _
    refine st103 _ ?_
    show Steps p.tables e below (T103.setTop (mkF m 21 #[.val (.int p1), .val (.int p2), .val (.int p3), .val (.int p4), .val (.int (p1 &&& (3 : Int32))), .val (.int c0), .val (.int c1), .unset, .unset, .unset, .unset] [(.int c2)])) _
    refine XS.istore X103.here hx rfl (hb hby at_21) rfl (l' := #[.val (.int p1), .val (.int p2), .val (.int p3), .val (.int p4), .val (.int (p1 &&& (3 : Int32))), .val (.int c0), .val (.int c1), .val (.int c2), .unset, .unset, .unset]) rfl ?_
    show Steps p.tables e below (T103.setTop (mkF m 23 #[.val (.int p1), .val (.int p2), .val (.int p3), .val (.int p4), .val (.int (p1 &&& (3 : Int32))), .val (.int c0), .val (.int c1), .val (.int c2), .unset, .unset, .unset] [])) _
    refine XS.iload X103.here hx rfl (hb hby at_23) rfl ?_
    show Steps p.tables e below (T103.setTop (mkF m 25 #[.val (.int p1), .val (.int p2), .val (.int p3), .val (.int p4), .val (.int (p1 &&& (3 : Int32))), .val (.int c0), .val (.int c1), .val (.int c2), .unset, .unset, .unset] [(.int (p1 &&& (3 : Int32)))])) _
    refine XS.ifYes X103.here hx rfl (pc0 := 25) (pc' := 36) rfl (hb hby at_25) rfl ((if0 _ _).trans (feq k0).2) (by decide) (by decide) ?_
    show Steps p.tables e below (T103.setTop (mkF m 36 #[.val (.int p1), .val (.int p2), .val (.int p3), .val (.int p4), .val (.int (p1 &&& (3 : Int32))), .val (.int c0), .val (.int c1), .val (.int c2), .unset, .unset, .unset] [])) _
    refine XS.iload X103.here hx rfl (hb hby at_36) rfl ?_
    show Steps p.tables e below (T103.setTop (mkF m 38 #[.val (.int p1), .val (.int p2), .val (.int p3), .val (.int p4), .val (.int (p1 &&& (3 : Int32))), .val (.int c0), .val (.int c1), .val (.int c2), .unset, .unset, .unset] [(.int (p1 &&& (3 : Int32)))])) _
    refine XS.iconst X103.here hx rfl (hb hby at_38) ?_
    show Steps p.tables e below (T103.setTop (mkF m 39 #[.val (.int p1), .val (.int p2), .val (.int p3), .val (.int p4), .val (.int (p1 &&& (3 : Int32))), .val (.int c0), .val (.int c1), .val (.int c2), .unset, .unset, .unset] [(.int (1 : Int32)), (.int (p1 &&& (3 : Int32)))])) _
    refine XS.icmpYes X103.here hx rfl (pc0 := 39) (pc' := 55) rfl (hb hby at_39) rfl (feq k1).2 (by decide) (by decide) ?_
    show Steps p.tables e below (T103.setTop (mkF m 55 #[.val (.int p1), .val (.int p2), .val (.int p3), .val (.int p4), .val (.int (p1 &&& (3 : Int32))), .val (.int c0), .val (.int c1), .val (.int c2), .unset, .unset, .unset] [])) _
    refine XS.iload X103.here hx rfl (hb hby at_55) rfl ?_
    show Steps p.tables e below (T103.setTop (mkF m 57 #[.val (.int p1), .val (.int p2), .val (.int p3), .val (.int p4), .val (.int (p1 &&& (3 : Int32))), .val (.int c0), .val (.int c1), .val (.int c2), .unset, .unset, .unset] [(.int (p1 &&& (3 : Int32)))])) _
    refine XS.iconst X103.here hx rfl (hb hby at_57) ?_
    show Steps p.tables e below (T103.setTop (mkF m 58 #[.val (.int p1), .val (.int p2), .val (.int p3), .val (.int p4), .val (.int (p1 &&& (3 : Int32))), .val (.int c0), .val (.int c1), .val (.int c2), .unset, .unset, .unset] [(.int (2 : Int32)), (.int (p1 &&& (3 : Int32)))])) _
    refine XS.icmpNo X103.here hx rfl (hb hby at_58) rfl (teq k2).2 ?_
    show Steps p.tables e below (T103.setTop (mkF m 61 #[.val (.int p1), .val (.int p2), .val (.int p3), .val (.int p4), .val (.int (p1 &&& (3 : Int32))), .val (.int c0), .val (.int c1), .val (.int c2), .unset, .unset, .unset] [])) _
    refine XS.iconst X103.here hx rfl (hb hby at_61) ?_
    show Steps p.tables e below (T103.setTop (mkF m 62 #[.val (.int p1), .val (.int p2), .val (.int p3), .val (.int p4), .val (.int (p1 &&& (3 : Int32))), .val (.int c0), .val (.int c1), .val (.int c2), .unset, .unset, .unset] [(.int (2 : Int32))])) _
    refine st104 _ ?_
    show Steps p.tables e below (T104.setTop (mkF m 64 #[.val (.int p1), .val (.int p2), .val (.int p3), .val (.int p4), .val (.int (p1 &&& (3 : Int32))), .val (.int c0), .val (.int c1), .val (.int c2), .unset, .unset, .unset] [(.ref b104)])) _
    refine XS.dup X104.here hx rfl (hb hby at_64) rfl rfl ?_
    show Steps p.tables e below (T104.setTop (mkF m 65 #[.val (.int p1), .val (.int p2), .val (.int p3), .val (.int p4), .val (.int (p1 &&& (3 : Int32))), .val (.int c0), .val (.int c1), .val (.int c2), .unset, .unset, .unset] [(.ref b104), (.ref b104)])) _
    refine XS.iconst X104.here hx rfl (hb hby at_65) ?_
    show Steps p.tables e below (T104.setTop (mkF m 66 #[.val (.int p1), .val (.int p2), .val (.int p3), .val (.int p4), .val (.int (p1 &&& (3 : Int32))), .val (.int c0), .val (.int c1), .val (.int c2), .unset, .unset, .unset] [(.int (0 : Int32)), (.ref b104), (.ref b104)])) _
    refine XS.iload X104.here hx rfl (hb hby at_66) rfl ?_
    show Steps p.tables e below (T104.setTop (mkF m 68 #[.val (.int p1), .val (.int p2), .val (.int p3), .val (.int p4), .val (.int (p1 &&& (3 : Int32))), .val (.int c0), .val (.int c1), .val (.int c2), .unset, .unset, .unset] [(.int c0), (.int (0 : Int32)), (.ref b104), (.ref b104)])) _
    refine st105 _ ?_
    show Steps p.tables e below (T105.setTop (mkF m 69 #[.val (.int p1), .val (.int p2), .val (.int p3), .val (.int p4), .val (.int (p1 &&& (3 : Int32))), .val (.int c0), .val (.int c1), .val (.int c2), .unset, .unset, .unset] [(.ref b104)])) _
    refine XS.dup X105.here hx rfl (hb hby at_69) rfl rfl ?_
    show Steps p.tables e below (T105.setTop (mkF m 70 #[.val (.int p1), .val (.int p2), .val (.int p3), .val (.int p4), .val (.int (p1 &&& (3 : Int32))), .val (.int c0), .val (.int c1), .val (.int c2), .unset, .unset, .unset] [(.ref b104), (.ref b104)])) _
    refine XS.iconst X105.here hx rfl (hb hby at_70) ?_
    show Steps p.tables e below (T105.setTop (mkF m 71 #[.val (.int p1), .val (.int p2), .val (.int p3), .val (.int p4), .val (.int (p1 &&& (3 : Int32))), .val (.int c0), .val (.int c1), .val (.int c2), .unset, .unset, .unset] [(.int (1 : Int32)), (.ref b104), (.ref b104)])) _
    refine XS.iload X105.here hx rfl (hb hby at_71) rfl ?_
    show Steps p.tables e below (T105.setTop (mkF m 73 #[.val (.int p1), .val (.int p2), .val (.int p3), .val (.int p4), .val (.int (p1 &&& (3 : Int32))), .val (.int c0), .val (.int c1), .val (.int c2), .unset, .unset, .unset] [(.int c1), (.int (1 : Int32)), (.ref b104), (.ref b104)])) _
    refine st106 _ ?_
    show Steps p.tables e below (T106.setTop (mkF m 74 #[.val (.int p1), .val (.int p2), .val (.int p3), .val (.int p4), .val (.int (p1 &&& (3 : Int32))), .val (.int c0), .val (.int c1), .val (.int c2), .unset, .unset, .unset] [(.ref b104)])) _
    refine XS.astore X106.here hx rfl (hb hby at_74) rfl rfl (l' := #[.val (.int p1), .val (.int p2), .val (.int p3), .val (.int p4), .val (.int (p1 &&& (3 : Int32))), .val (.int c0), .val (.int c1), .val (.int c2), .val (.ref b104), .unset, .unset]) rfl ?_
    show Steps p.tables e below (T106.setTop (mkF m 76 #[.val (.int p1), .val (.int p2), .val (.int p3), .val (.int p4), .val (.int (p1 &&& (3 : Int32))), .val (.int c0), .val (.int c1), .val (.int c2), .val (.ref b104), .unset, .unset] [])) _
    refine XS.goto X106.here hx rfl (pc0 := 76) (pc' := 99) rfl (hb hby at_76) (by decide) (by decide) ?_
    show Steps p.tables e below (T106.setTop (mkF m 99 #[.val (.int p1), .val (.int p2), .val (.int p3), .val (.int p4), .val (.int (p1 &&& (3 : Int32))), .val (.int c0), .val (.int c1), .val (.int c2), .val (.ref b104), .unset, .unset] [])) _
    refine st107 _ ?_
    show Steps p.tables e below (T107.setTop (mkF m 102 #[.val (.int p1), .val (.int p2), .val (.int p3), .val (.int p4), .val (.int (p1 &&& (3 : Int32))), .val (.int c0), .val (.int c1), .val (.int c2), .val (.ref b104), .unset, .unset] [(.ref b107)])) _
    refine XS.dup X107.here hx rfl (hb hby at_102) rfl rfl ?_
    show Steps p.tables e below (T107.setTop (mkF m 103 #[.val (.int p1), .val (.int p2), .val (.int p3), .val (.int p4), .val (.int (p1 &&& (3 : Int32))), .val (.int c0), .val (.int c1), .val (.int c2), .val (.ref b104), .unset, .unset] [(.ref b107), (.ref b107)])) _
    refine XS.aload X107.here hx rfl (hb hby at_103) rfl rfl ?_
    show Steps p.tables e below (T107.setTop (mkF m 105 #[.val (.int p1), .val (.int p2), .val (.int p3), .val (.int p4), .val (.int (p1 &&& (3 : Int32))), .val (.int c0), .val (.int c1), .val (.int c2), .val (.ref b104), .unset, .unset] [(.ref b104), (.ref b107), (.ref b107)])) _
    refine st110.trans ?_
    show Steps p.tables e below (T110.setTop (mkF m 108 #[.val (.int p1), .val (.int p2), .val (.int p3), .val (.int p4), .val (.int (p1 &&& (3 : Int32))), .val (.int c0), .val (.int c1), .val (.int c2), .val (.ref b104), .unset, .unset] [(.ref b107)])) _
    refine XS.astore X110.here hx rfl (hb hby at_108) rfl rfl (l' := #[.val (.int p1), .val (.int p2), .val (.int p3), .val (.int p4), .val (.int (p1 &&& (3 : Int32))), .val (.int c0), .val (.int c1), .val (.int c2), .val (.ref b104), .val (.ref b107), .unset]) rfl ?_
    show Steps p.tables e below (T110.setTop (mkF m 110 #[.val (.int p1), .val (.int p2), .val (.int p3), .val (.int p4), .val (.int (p1 &&& (3 : Int32))), .val (.int c0), .val (.int c1), .val (.int c2), .val (.ref b104), .val (.ref b107), .unset] [])) _
    refine XS.aload X110.here hx rfl (hb hby at_110) rfl rfl ?_
    show Steps p.tables e below (T110.setTop (mkF m 112 #[.val (.int p1), .val (.int p2), .val (.int p3), .val (.int p4), .val (.int (p1 &&& (3 : Int32))), .val (.int c0), .val (.int c1), .val (.int c2), .val (.ref b104), .val (.ref b107), .unset] [(.ref b107)])) _
    refine st111.trans ?_
    show Steps p.tables e below (T111.setTop (mkF m 115 #[.val (.int p1), .val (.int p2), .val (.int p3), .val (.int p4), .val (.int (p1 &&& (3 : Int32))), .val (.int c0), .val (.int c1), .val (.int c2), .val (.ref b104), .val (.ref b107), .unset] [(.ref wr)])) _
    refine XS.astore X111.here hx rfl (hb hby at_115) rfl rfl (l' := #[.val (.int p1), .val (.int p2), .val (.int p3), .val (.int p4), .val (.int (p1 &&& (3 : Int32))), .val (.int c0), .val (.int c1), .val (.int c2), .val (.ref b104), .val (.ref b107), .val (.ref wr)]) rfl ?_
    show Steps p.tables e below (T111.setTop (mkF m 117 #[.val (.int p1), .val (.int p2), .val (.int p3), .val (.int p4), .val (.int (p1 &&& (3 : Int32))), .val (.int c0), .val (.int c1), .val (.int c2), .val (.ref b104), .val (.ref b107), .val (.ref wr)] [])) _
    refine XS.aload X111.here hx rfl (hb hby at_117) rfl rfl ?_
    show Steps p.tables e below (T111.setTop (mkF m 119 #[.val (.int p1), .val (.int p2), .val (.int p3), .val (.int p4), .val (.int (p1 &&& (3 : Int32))), .val (.int c0), .val (.int c1), .val (.int c2), .val (.ref b104), .val (.ref b107), .val (.ref wr)] [(.ref wr)])) _
    refine XS.iload X111.here hx rfl (hb hby at_119) rfl ?_
    show Steps p.tables e below (T111.setTop (mkF m 121 #[.val (.int p1), .val (.int p2), .val (.int p3), .val (.int p4), .val (.int (p1 &&& (3 : Int32))), .val (.int c0), .val (.int c1), .val (.int c2), .val (.ref b104), .val (.ref b107), .val (.ref wr)] [(.int (p1 &&& (3 : Int32))), (.ref wr)])) _
    refine XS.iload X111.here hx rfl (hb hby at_121) rfl ?_
    show Steps p.tables e below (T111.setTop (mkF m 123 #[.val (.int p1), .val (.int p2), .val (.int p3), .val (.int p4), .val (.int (p1 &&& (3 : Int32))), .val (.int c0), .val (.int c1), .val (.int c2), .val (.ref b104), .val (.ref b107), .val (.ref wr)] [(.int c0), (.int (p1 &&& (3 : Int32))), (.ref wr)])) _
    refine XS.iload X111.here hx rfl (hb hby at_123) rfl ?_
    show Steps p.tables e below (T111.setTop (mkF m 125 #[.val (.int p1), .val (.int p2), .val (.int p3), .val (.int p4), .val (.int (p1 &&& (3 : Int32))), .val (.int c0), .val (.int c1), .val (.int c2), .val (.ref b104), .val (.ref b107), .val (.ref wr)] [(.int c1), (.int c0), (.int (p1 &&& (3 : Int32))), (.ref wr)])) _
    refine st112 _ ?_
    show Steps p.tables e below (T112.setTop (mkF m 128 #[.val (.int p1), .val (.int p2), .val (.int p3), .val (.int p4), .val (.int (p1 &&& (3 : Int32))), .val (.int c0), .val (.int c1), .val (.int c2), .val (.ref b104), .val (.ref b107), .val (.ref wr)] [(.ref wr), (.ref wr)])) _
    refine Jvm.RoadKit.acmp (g := (mkF m 128 #[.val (.int p1), .val (.int p2), .val (.int p3), .val (.int p4), .val (.int (p1 &&& (3 : Int32))), .val (.int c0), .val (.int c1), .val (.int c2), .val (.ref b104), .val (.ref b107), .val (.ref wr)] [(.ref wr), (.ref wr)])) X112 hx rfl rfl rfl (pc0 := 128) (pc' := 131) (same := true) rfl (hb hby at_128) rfl (decide_eq_true rfl) (by decide) (by decide) ?_
    show Steps p.tables e below (T112.setTop (mkF m 131 #[.val (.int p1), .val (.int p2), .val (.int p3), .val (.int p4), .val (.int (p1 &&& (3 : Int32))), .val (.int c0), .val (.int c1), .val (.int c2), .val (.ref b104), .val (.ref b107), .val (.ref wr)] [])) _
    refine XS.iconst X112.here hx rfl (hb hby at_131) ?_
    show Steps p.tables e below (T112.setTop (mkF m 132 #[.val (.int p1), .val (.int p2), .val (.int p3), .val (.int p4), .val (.int (p1 &&& (3 : Int32))), .val (.int c0), .val (.int c1), .val (.int c2), .val (.ref b104), .val (.ref b107), .val (.ref wr)] [(.int (1 : Int32))])) _
    refine XS.goto X112.here hx rfl (pc0 := 132) (pc' := 136) rfl (hb hby at_132) (by decide) (by decide) ?_
    show Steps p.tables e below (T112.setTop (mkF m 136 #[.val (.int p1), .val (.int p2), .val (.int p3), .val (.int p4), .val (.int (p1 &&& (3 : Int32))), .val (.int c0), .val (.int c1), .val (.int c2), .val (.ref b104), .val (.ref b107), .val (.ref wr)] [(.int (1 : Int32))])) _
    exact retN X112 hx (t := .boolean) Bd.returns (by simp) (hb hby at_136) hr
  · show Q0 h0 n0 _ T112.heap _
    rw [e112]
    exact ⟨rfl, N112⟩
set_option maxRecDepth 65536 in
set_option maxHeartbeats 40000000 in
theorem rm0_3n (l : Launch) (Z : State) (a0 : Array Value) (hw : ∀ d ∈ tables_1, d.before a0 Z = true) (ws : List Jvm.Cond) (p1 p2 p3 p4 : Int32) (G1 : Int32) (kV : ClassId) (wV w0 w1 w2 w3 w4 w5 : Addr) (s0 s1 s2 s3 s4 s5 : Addr) (c0 c1 c2 : Int32) (h0 : Heap) (n0 : Nat) (O0 : Old Z n0 h0) (S_CS : Sta Z Z.heap "java/lang/String" "COMPACT_STRINGS" "Z" (.int G1)) (hG1 : ¬ (G1 = (0 : Int32))) (S_V : Sta Z Z.heap "com/example/plugroot/plugroot/sql/Comparison" "$VALUES" "[Lcom/example/plugroot/plugroot/sql/Comparison;" (.ref wV)) (A_V : Arv Z Z.heap wV kV (.object "com/example/plugroot/plugroot/sql/Comparison") (6 : Int32) [(.ref w0), (.ref w1), (.ref w2), (.ref w3), (.ref w4), (.ref w5)] .null) (E_V : Exa Z Z.heap wV "[Lcom/example/plugroot/plugroot/sql/Comparison;") (M0 : Fld Z Z.heap w0 "com/example/plugroot/plugroot/sql/Comparison" "symbol" "Ljava/lang/String;" (.ref s0)) (M1 : Fld Z Z.heap w1 "com/example/plugroot/plugroot/sql/Comparison" "symbol" "Ljava/lang/String;" (.ref s1)) (M2 : Fld Z Z.heap w2 "com/example/plugroot/plugroot/sql/Comparison" "symbol" "Ljava/lang/String;" (.ref s2)) (M3 : Fld Z Z.heap w3 "com/example/plugroot/plugroot/sql/Comparison" "symbol" "Ljava/lang/String;" (.ref s3)) (M4 : Fld Z Z.heap w4 "com/example/plugroot/plugroot/sql/Comparison" "symbol" "Ljava/lang/String;" (.ref s4)) (M5 : Fld Z Z.heap w5 "com/example/plugroot/plugroot/sql/Comparison" "symbol" "Ljava/lang/String;" (.ref s5)) (T0 : Str Z Z.heap s0 ([(61 : Int32)] : List Int32)) (T1 : Str Z Z.heap s1 ([(60 : Int32), (62 : Int32)] : List Int32)) (T2 : Str Z Z.heap s2 ([(60 : Int32)] : List Int32)) (T3 : Str Z Z.heap s3 ([(62 : Int32)] : List Int32)) (T4 : Str Z Z.heap s4 ([(60 : Int32), (61 : Int32)] : List Int32)) (T5 : Str Z Z.heap s5 ([(62 : Int32), (61 : Int32)] : List Int32)) (S0 : Sta Z Z.heap "com/example/plugroot/plugroot/sql/Comparison" "EQUAL" "Lcom/example/plugroot/plugroot/sql/Comparison;" (.ref w0)) (S1 : Sta Z Z.heap "com/example/plugroot/plugroot/sql/Comparison" "NOT_EQUAL" "Lcom/example/plugroot/plugroot/sql/Comparison;" (.ref w1)) (S2 : Sta Z Z.heap "com/example/plugroot/plugroot/sql/Comparison" "LESS" "Lcom/example/plugroot/plugroot/sql/Comparison;" (.ref w2)) (S3 : Sta Z Z.heap "com/example/plugroot/plugroot/sql/Comparison" "GREATER" "Lcom/example/plugroot/plugroot/sql/Comparison;" (.ref w3)) (S4 : Sta Z Z.heap "com/example/plugroot/plugroot/sql/Comparison" "LESS_OR_EQUAL" "Lcom/example/plugroot/plugroot/sql/Comparison;" (.ref w4)) (S5 : Sta Z Z.heap "com/example/plugroot/plugroot/sql/Comparison" "GREATER_OR_EQUAL" "Lcom/example/plugroot/plugroot/sql/Comparison;" (.ref w5)) (hd0 : c0 = drawF p2) (hd1 : c1 = drawF p3) (hd2 : c2 = drawF p4) (hr0 : ¬ c0 < 0 ∧ ¬ (255 : Int32) < c0) (hr1 : ¬ c1 < 0 ∧ ¬ (255 : Int32) < c1) (hr2 : ¬ c2 < 0 ∧ ¬ (255 : Int32) < c2) (hof : .null = specF w0 w1 w2 w3 w4 w5 ([c0, c1, c2] : List Int32)) (hex : .null = expF w0 w1 w2 w3 w4 w5 (p1 &&& (3 : Int32)) c0 c1) (k0 : ¬ ((p1 &&& (3 : Int32)) = 0)) (k1 : ¬ ((p1 &&& (3 : Int32)) = 1)) (k2 : ¬ ((p1 &&& (3 : Int32)) = 2)) :
    MetFree l x (head1 (Jvm.Cond.code x code maxLocals ret :: ws) room_1) (fun a_ U => a_ = #[(.int p1), (.int p2), (.int p3), (.int p4)] ∧ Z.Warmed39 U.vm ∧ U.heap = h0 ∧ CHv Z consts_1 U.vm h0) (fun _ _ _ _ _ => True) (fun _ U o U' => ∃ v L, o = .returned v ∧ Q0 h0 n0 v U'.heap L ∧ CHr Z consts_1 U.vm U.heap U'.vm U'.heap ∧ ReturnedEndW U o U' L room_1.cells room_1.slots) := by
  refine MetFree.of_bodySF (plainFor_of_name pn_0) hisR ?_
  intro p e s m args below meth c s₁ Bd hml0 hP hK
  obtain ⟨rfl, hZ, hh, hC⟩ := hP
  have hx := Bd.exec
  have hby := Bd.bytes
  have hml : c.maxLocals = 11 := hml0
  have hown : s.vm.findClass "com/example/plugroot/plugroot/sql/ComparisonOfPinLaw" = some m.cls := findClass_of_methodNamed Bd.named
  have hnm := (name_of_methodNamed Bd.named Bd.method).1
  have X0 : Stand p l e room_1 (s.setVm s.vm) m #[(.int p1), (.int p2), (.int p3), (.int p4)] below meth c s₁ [] 0 0 := Stand.of_body Bd
  have e0 : s₁.heap = h0 := by rw [← hh, Bd.state]; rfl
  have N0 := Fr.nil n0
  have pre0 : ∀ tg, Steps p.tables e below (s₁.setTop (mkF m 0 #[.val (.int p1), .val (.int p2), .val (.int p3), .val (.int p4), .unset, .unset, .unset, .unset, .unset, .unset, .unset] [])) tg → Steps p.tables e below (s₁.setTop (entryFrame m #[(.int p1), (.int p2), (.int p3), (.int p4)] maxLocals)) tg := fun tg kq => castTop (ef_IIII_11m m p1 p2 p3 p4) kq
  have hS0 : s.Since s.vm h0.size := (State.WarmedH.refl s).since _
  have hk0 : h0.size ≤ h0.size := Nat.le_refl _
  have CR0 : CHr Z consts_1 s.vm h0 s.vm h0 := CHr.refl hC
  obtain ⟨tm0, kbm0, Nm0, vsm0, sEm0, sVm0, sCm0, sKm0, scdm0, shpm0, shlm0⟩ := id T0
  obtain ⟨tm1, kbm1, Nm1, vsm1, sEm1, sVm1, sCm1, sKm1, scdm1, shpm1, shlm1⟩ := id T1
  obtain ⟨tm2, kbm2, Nm2, vsm2, sEm2, sVm2, sCm2, sKm2, scdm2, shpm2, shlm2⟩ := id T2
  obtain ⟨tm3, kbm3, Nm3, vsm3, sEm3, sVm3, sCm3, sKm3, scdm3, shpm3, shlm3⟩ := id T3
  obtain ⟨tm4, kbm4, Nm4, vsm4, sEm4, sVm4, sCm4, sKm4, scdm4, shpm4, shlm4⟩ := id T4
  obtain ⟨tm5, kbm5, Nm5, vsm5, sEm5, sVm5, sCm5, sKm5, scdm5, shpm5, shlm5⟩ := id T5
  obtain ⟨_, _, ⟨T101, L101, k101, n101⟩, -, X101, ⟨Lc101, hQ101, l101, y101, z101⟩, st101⟩ := Jvm.LawKit.callS X0 hx (y := (⟨"com/example/plugroot/plugroot/sql/ComparisonOfPinLaw", "draw", "(I)C"⟩ : MethodName)) hown (mvT hZ (wi hw 0 rfl)) (mvT hZ (wi hw 1 rfl)) (mvT hZ (wi hw 2 rfl)) (mvT hZ (wi hw 3 rfl)) (by decide) (backOf (W := 0) (rm1 l Z a0 hw [] p2 c0 h0 n0 O0 hd0) hZ (wi hw 3 rfl) (wi hw 2 rfl) (by decide) (by decide)) (g := (mkF m 6 #[.val (.int p1), .val (.int p2), .val (.int p3), .val (.int p4), .val (.int (p1 &&& (3 : Int32))), .unset, .unset, .unset, .unset, .unset, .unset] [(.int p2)])) rfl (by rw [hml]; rfl) (argsL := [(.int p2)]) (rest := []) (lenOf pd_3 rfl) rfl (by show 2 * 0 + _ ≤ _; exact Nat.le_of_eq rfl) (hb hby at_6) (fun _ _ => ⟨rfl, e0, (by decide : 0 + 0 ≤ _), (by decide : 0 + 0 ≤ _)⟩)
  dsimp only [Pt.U, Pt.locs, Pt.cells, Pt.slots] at X101 l101 y101 z101 st101 hQ101
  subst l101 y101 z101
  obtain ⟨rfl, N101q, hh101⟩ := hQ101
  have e101 : T101.heap = h0 := hh101
  have N101 := Fr.app N0 N101q
  obtain ⟨_, _, ⟨T102, L102, k102, n102⟩, -, X102, ⟨Lc102, hQ102, l102, y102, z102⟩, st102⟩ := Jvm.LawKit.callS X101 hx (y := (⟨"com/example/plugroot/plugroot/sql/ComparisonOfPinLaw", "draw", "(I)C"⟩ : MethodName)) hown (mvT hZ (wi hw 0 rfl)) (mvT hZ (wi hw 1 rfl)) (mvT hZ (wi hw 2 rfl)) (mvT hZ (wi hw 3 rfl)) (by decide) (backOf (W := 0) (rm1 l Z a0 hw [] p3 c1 h0 n0 O0 hd1) hZ (wi hw 3 rfl) (wi hw 2 rfl) (by decide) (by decide)) (g := (mkF m 12 #[.val (.int p1), .val (.int p2), .val (.int p3), .val (.int p4), .val (.int (p1 &&& (3 : Int32))), .val (.int c0), .unset, .unset, .unset, .unset, .unset] [(.int p3)])) rfl (by rw [hml]; rfl) (argsL := [(.int p3)]) (rest := []) (lenOf pd_3 rfl) rfl (by show 2 * 0 + _ ≤ _; exact Nat.le_of_eq rfl) (hb hby at_12) (fun _ _ => ⟨rfl, e101, (by decide : 0 + 0 ≤ _), (by decide : 0 + 0 ≤ _)⟩)
  dsimp only [Pt.U, Pt.locs, Pt.cells, Pt.slots] at X102 l102 y102 z102 st102 hQ102
  subst l102 y102 z102
  obtain ⟨rfl, N102q, hh102⟩ := hQ102
  have e102 : T102.heap = h0 := hh102
  have N102 := Fr.app N101 N102q
  obtain ⟨_, _, ⟨T103, L103, k103, n103⟩, -, X103, ⟨Lc103, hQ103, l103, y103, z103⟩, st103⟩ := Jvm.LawKit.callS X102 hx (y := (⟨"com/example/plugroot/plugroot/sql/ComparisonOfPinLaw", "draw", "(I)C"⟩ : MethodName)) hown (mvT hZ (wi hw 0 rfl)) (mvT hZ (wi hw 1 rfl)) (mvT hZ (wi hw 2 rfl)) (mvT hZ (wi hw 3 rfl)) (by decide) (backOf (W := 0) (rm1 l Z a0 hw [] p4 c2 h0 n0 O0 hd2) hZ (wi hw 3 rfl) (wi hw 2 rfl) (by decide) (by decide)) (g := (mkF m 18 #[.val (.int p1), .val (.int p2), .val (.int p3), .val (.int p4), .val (.int (p1 &&& (3 : Int32))), .val (.int c0), .val (.int c1), .unset, .unset, .unset, .unset] [(.int p4)])) rfl (by rw [hml]; rfl) (argsL := [(.int p4)]) (rest := []) (lenOf pd_3 rfl) rfl (by show 2 * 0 + _ ≤ _; exact Nat.le_of_eq rfl) (hb hby at_18) (fun _ _ => ⟨rfl, e102, (by decide : 0 + 0 ≤ _), (by decide : 0 + 0 ≤ _)⟩)
  dsimp only [Pt.U, Pt.locs, Pt.cells, Pt.slots] at X103 l103 y103 z103 st103 hQ103
  subst l103 y103 z103
  obtain ⟨rfl, N103q, hh103⟩ := hQ103
  have e103 : T103.heap = h0 := hh103
  have N103 := Fr.app N102 N103q
  obtain ⟨T104, h104, k104, X104, e104, E104, A104, st104⟩ := newP X103 hx hZ (wi hw 4 rfl) e103 (g := (mkF m 80 #[.val (.int p1), .val (.int p2), .val (.int p3), .val (.int p4), .val (.int (p1 &&& (3 : Int32))), .val (.int c0), .val (.int c1), .val (.int c2), .unset, .unset, .unset] [(.int (3 : Int32))])) rfl (hb hby at_80) rfl (by decide) (cap := 3) (by decide) (by decide) (by decide) (by decide)
  obtain ⟨b104, g104⟩ : ∃ z, z = h0.size := ⟨_, rfl⟩
  rw [← g104] at A104 st104
  have g_b104 : n0 ≤ b104 := Nat.le_trans (O0.1 ▸ O0.2.1) (Nat.le_of_eq g104.symm)
  have sz_b104 : h0.size ≤ b104 := Nat.le_trans (Nat.le_refl _) (Nat.le_of_eq g104.symm)
  have O104 := O0.ext E104
  have CS104 := CHr.ext E104 CR0.1
  have CR104 := CR0.trans CS104
  have KK104 : Keep h0 h104 [] := (Keep.refl h0 []).ext E104
  have V_b104 : Arv Z h104 b104 k104 .char (3 : Int32) [(.int (0 : Int32)), (.int (0 : Int32)), (.int (0 : Int32))] (.int (0 : Int32)) := (Arv.new A104 (by decide)).pad (pad_rep [] (.int (0 : Int32)) 3)
  obtain ⟨cl_b104_53, Ar_b104_53, q_b104_53, S_b104_53, N_b104_53, H_b104_53, G_b104_53⟩ := id (V_b104)
  have hinb104_53 : ¬ ((0 : Int32) < 0 ∨ cl_b104_53.slots.size ≤ ((0 : Int32)).toNatClampNeg) := inb_of S_b104_53 ⟨by decide, by decide⟩
  obtain ⟨T105, h105, X105, e105, W105, st105⟩ := stC X104 hx hZ e104 Ar_b104_53 (j := (0 : Int32)) hinb104_53 (g := (mkF m 86 #[.val (.int p1), .val (.int p2), .val (.int p3), .val (.int p4), .val (.int (p1 &&& (3 : Int32))), .val (.int c0), .val (.int c1), .val (.int c2), .unset, .unset, .unset] [(.int c0), (.int (0 : Int32)), (.ref b104), (.ref b104)])) rfl rfl (hb hby at_86)
  have V_b104_105 : Arv Z h105 b104 k104 .char (3 : Int32) [(.int (nar .char c0)), (.int (0 : Int32)), (.int (0 : Int32))] (.int (0 : Int32)) := Arv.set Ar_b104_53 q_b104_53 S_b104_53 N_b104_53 H_b104_53 G_b104_53 (fits_nar_char _) W105 0 rfl (Nat.le_of_ble_eq_true rfl)
  have V_b104_105' : Arv Z h105 b104 k104 .char (3 : Int32) [(.int c0), (.int (0 : Int32)), (.int (0 : Int32))] (.int (0 : Int32)) := by have q := V_b104_105; rw [own_nar hr0] at q; exact q
  have O105 := O104.wr W105 g_b104
  have CS105 := CHr.wr W105 (Safe.arv hZ.alike V_b104 (by decide)) CR104.1
  have CR105 := CR104.trans CS105
  have KK105 : Keep h0 h105 [] := KK104.wr W105 (Or.inr sz_b104)
  have N105 := Fr.snoc X105 N103 g_b104
  obtain ⟨cl_b104_61, Ar_b104_61, q_b104_61, S_b104_61, N_b104_61, H_b104_61, G_b104_61⟩ := id (V_b104_105')
  have hinb104_61 : ¬ ((1 : Int32) < 0 ∨ cl_b104_61.slots.size ≤ ((1 : Int32)).toNatClampNeg) := inb_of S_b104_61 ⟨by decide, by decide⟩
  obtain ⟨T106, h106, X106, e106, W106, st106⟩ := stC X105 hx hZ e105 Ar_b104_61 (j := (1 : Int32)) hinb104_61 (g := (mkF m 91 #[.val (.int p1), .val (.int p2), .val (.int p3), .val (.int p4), .val (.int (p1 &&& (3 : Int32))), .val (.int c0), .val (.int c1), .val (.int c2), .unset, .unset, .unset] [(.int c1), (.int (1 : Int32)), (.ref b104), (.ref b104)])) rfl rfl (hb hby at_91)
  have V_b104_106 : Arv Z h106 b104 k104 .char (3 : Int32) [(.int c0), (.int (nar .char c1)), (.int (0 : Int32))] (.int (0 : Int32)) := Arv.set Ar_b104_61 q_b104_61 S_b104_61 N_b104_61 H_b104_61 G_b104_61 (fits_nar_char _) W106 1 rfl (Nat.le_of_ble_eq_true rfl)
  have V_b104_106' : Arv Z h106 b104 k104 .char (3 : Int32) [(.int c0), (.int c1), (.int (0 : Int32))] (.int (0 : Int32)) := by have q := V_b104_106; rw [own_nar hr1] at q; exact q
  have O106 := O105.wr W106 g_b104
  have CS106 := CHr.wr W106 (Safe.arv hZ.alike V_b104_105' (by decide)) CR105.1
  have CR106 := CR105.trans CS106
  have KK106 : Keep h0 h106 [] := KK105.wr W106 (Or.inr sz_b104)
  have N106 := Fr.snoc X106 N105 g_b104
  obtain ⟨cl_b104_69, Ar_b104_69, q_b104_69, S_b104_69, N_b104_69, H_b104_69, G_b104_69⟩ := id (V_b104_106')
  have hinb104_69 : ¬ ((2 : Int32) < 0 ∨ cl_b104_69.slots.size ≤ ((2 : Int32)).toNatClampNeg) := inb_of S_b104_69 ⟨by decide, by decide⟩
  obtain ⟨T107, h107, X107, e107, W107, st107⟩ := stC X106 hx hZ e106 Ar_b104_69 (j := (2 : Int32)) hinb104_69 (g := (mkF m 96 #[.val (.int p1), .val (.int p2), .val (.int p3), .val (.int p4), .val (.int (p1 &&& (3 : Int32))), .val (.int c0), .val (.int c1), .val (.int c2), .unset, .unset, .unset] [(.int c2), (.int (2 : Int32)), (.ref b104), (.ref b104)])) rfl rfl (hb hby at_96)
  have V_b104_107 : Arv Z h107 b104 k104 .char (3 : Int32) [(.int c0), (.int c1), (.int (nar .char c2))] (.int (0 : Int32)) := Arv.set Ar_b104_69 q_b104_69 S_b104_69 N_b104_69 H_b104_69 G_b104_69 (fits_nar_char _) W107 2 rfl (Nat.le_of_ble_eq_true rfl)
  have V_b104_107' : Arv Z h107 b104 k104 .char (3 : Int32) [(.int c0), (.int c1), (.int c2)] (.int (0 : Int32)) := by have q := V_b104_107; rw [own_nar hr2] at q; exact q
  have O107 := O106.wr W107 g_b104
  have CS107 := CHr.wr W107 (Safe.arv hZ.alike V_b104_106' (by decide)) CR106.1
  have CR107 := CR106.trans CS107
  have KK107 : Keep h0 h107 [] := KK106.wr W107 (Or.inr sz_b104)
  have N107 := Fr.snoc X107 N106 g_b104
  obtain ⟨T108, h108, X108, e108, E108, A108, D108, -, st108⟩ := newO X107 hx hZ hown (wi hw 5 rfl) (wi hw 6 rfl) (wi hw 7 rfl) e107 (g := (mkF m 99 #[.val (.int p1), .val (.int p2), .val (.int p3), .val (.int p4), .val (.int (p1 &&& (3 : Int32))), .val (.int c0), .val (.int c1), .val (.int c2), .val (.ref b104), .unset, .unset] [])) rfl (hb hby at_99) (by decide) (by decide)
  obtain ⟨b108, g108⟩ : ∃ z, z = h107.size := ⟨_, rfl⟩
  rw [← g108] at A108 D108 st108
  have g_b108 : n0 ≤ b108 := Nat.le_trans (O107.1 ▸ O107.2.1) (Nat.le_of_eq g108.symm)
  have sz_b108 : h0.size ≤ b108 := Nat.le_trans KK107.1 (Nat.le_of_eq g108.symm)
  have O108 := O107.ext E108
  have CS108 := CHr.ext E108 CR107.1
  have CR108 := CR107.trans CS108
  have KK108 : Keep h0 h108 [] := KK107.ext E108
  have sf_b108 : Safe Z consts_1 s.vm h108 b108 := Safe.ext E108 CR107.1 (Safe.new (Nat.le_of_eq g108.symm))
  have F_value_b108 : Fld Z h108 b108 "java/lang/String" "value" "[B" .null := D108 (Or.inr (wi hw 20 rfl)) (ty := (.array .byte)) (by decide)
  have F_coder_b108 : Fld Z h108 b108 "java/lang/String" "coder" "B" (.int (0 : Int32)) := D108 (Or.inr (wi hw 21 rfl)) (ty := .byte) (by decide)
  have fV_b104_5_109 := (V_b104_107'.ext E108)
  have shp110 : ∀ c ∈ ([c0, c1, c2] : List Int32), ¬ c < 0 ∧ ¬ (255 : Int32) < c := (own_memS hr0 (own_memS hr1 (own_memS hr2 own_mem0)))
  have sA110 : Arv Z h108 b104 k104 .char (3 : Int32) (([c0, c1, c2] : List Int32).map Value.int) (.int (0 : Int32)) := fV_b104_5_109
  obtain ⟨_, _, ⟨T111, L111, k111, n111⟩, -, X111, ⟨Lc111, hQ111, l111, y111, z111⟩, st111⟩ := X108.specialBack hx (y := (⟨"java/lang/String", "<init>", "([C)V"⟩ : MethodName)) rfl hown (mvT hZ (wi hw 8 rfl)) (mvT hZ (wi hw 9 rfl)) (mvT hZ (wi hw 10 rfl)) (by decide) (StrChars.Road.backV (W := 1) hZ (fun d hd => hw d (own_w_backV d hd)) (kI := 4) (wi hw 6 rfl) (cs := ([c0, c1, c2] : List Int32)) (bs := ([c0, c1, c2] : List Int32).map (fun c => c.toInt8.toInt32)) (n := 3) g_b108 (O108.1 ▸ O108.2.1) A108 F_value_b108 F_coder_b108 sA110 (S_CS.ext O108.2) hG1 rfl rfl (by decide) (by decide) shp110 rfl (by decide) (by decide)) (g := (mkF m 105 #[.val (.int p1), .val (.int p2), .val (.int p3), .val (.int p4), .val (.int (p1 &&& (3 : Int32))), .val (.int c0), .val (.int c1), .val (.int c2), .val (.ref b104), .unset, .unset] [(.ref b104), (.ref b108), (.ref b108)])) rfl (by rw [hml]; rfl) (Steps.refl _) (a := b108) (argsL := [(.ref b104)]) (rest := [(.ref b108)]) (lenOf pd_4 rfl) rfl (by show 2 * 0 + _ ≤ _; exact Nat.le_of_eq rfl) (hb hby at_105) (fun _ _ => ⟨rfl, e108, (by decide : 2 + 1 ≤ _), (by decide : 7 + 3 ≤ _)⟩)
  dsimp only [Pt.U, Pt.locs, Pt.cells, Pt.slots] at X111 l111 y111 z111 st111 hQ111
  subst l111 y111 z111
  obtain ⟨rfl, N111q, K111, sE110, sC110, t110, kb110, sg110, ssz110, sne110, sV110, sK110⟩ := hQ111
  obtain ⟨h111, e111⟩ : ∃ z, T111.heap = z := ⟨_, rfl⟩
  rw [e111] at K111 sE110 sC110 sV110 sK110
  have g_t110 : n0 ≤ t110 := Nat.le_trans (O108.1 ▸ O108.2.1) ssz110
  have sz_t110 : h0.size ≤ t110 := Nat.le_trans KK108.1 ssz110
  have O111 := O108.keep K111 (allS g_b108 all0)
  have CS111 := CHr.keep K111 (sfS sf_b108 sf0) CR108.1
  have CR111 := CR108.trans CS111
  have KK111 : Keep h0 h111 [] := KK108.trans K111 (allS (Or.inr sz_b108) all0)
  have N111 := Fr.app N107 N111q
  have scd110 : StrChars.Road.CodA ([c0, c1, c2] : List Int32) 0 (3 : Int32) ((([c0, c1, c2] : List Int32).map (fun c => c.toInt8.toInt32)).map Value.int) := StrChars.Road.codOf (n := 3) rfl (fun c hc => (shp110 c hc).2)
  obtain ⟨_, _, ⟨T112, L112, k112, n112⟩, -, Xr112, hSr112, gr112, ⟨Lc112, hQ112, l112, y112, z112, CSr112⟩, st112⟩ := Jvm.RoadKit.callSS X111 hx (y := (⟨"com/example/plugroot/plugroot/sql/Comparison", "of", "(Ljava/lang/String;)Lcom/example/plugroot/plugroot/sql/Comparison;"⟩ : MethodName)) hown (mvT hZ (wi hw 26 rfl)) (mvT hZ (wi hw 27 rfl)) (mvT hZ (wi hw 28 rfl)) (mvT hZ (wi hw 29 rfl)) (by decide) (backOfSH (W := 0) (rm5 l Z a0 hw [] G1 kV wV w0 w1 w2 w3 w4 w5 s0 s1 s2 s3 s4 s5 b108 ([c0, c1, c2] : List Int32) .null h111 n0 O111 S_CS hG1 S_V A_V E_V M0 M1 M2 M3 M4 M5 T0 T1 T2 T3 T4 T5 ⟨_, _, _, _, sE110, sV110, sC110, sK110, scd110, shp110, (Nat.le_of_ble_eq_true rfl)⟩ hof) hZ (wi hw 29 rfl) (wi hw 28 rfl) (by decide) (by decide) (own_EW hw) CR111.1) (g := (mkF m 112 #[.val (.int p1), .val (.int p2), .val (.int p3), .val (.int p4), .val (.int (p1 &&& (3 : Int32))), .val (.int c0), .val (.int c1), .val (.int c2), .val (.ref b104), .val (.ref b108), .unset] [(.ref b108)])) rfl (by rw [hml]; rfl) (argsL := [(.ref b108)]) (rest := []) (lenOf pd_5 rfl) rfl (by show 2 * 0 + _ ≤ _; exact Nat.le_of_eq rfl) (hb hby at_112) (fun _ _ => ⟨rfl, e111, (by decide : 3 + 5 ≤ _), (by decide : 10 + 30 ≤ _)⟩)
  dsimp only [Pt.U, Pt.locs, Pt.cells, Pt.slots] at Xr112 l112 y112 z112 st112 hQ112 hSr112 gr112 CSr112
  subst l112 y112 z112
  obtain ⟨X112, hS112, hZ112, hown112⟩ := rebS hS0 (by rw [e111]; exact (Nat.le_trans (Nat.le_trans (Nat.le_trans (Nat.le_trans (Nat.le_trans (Nat.le_trans hk0 E104.1) (Keep.of_wr W105).1) (Keep.of_wr W106).1) (Keep.of_wr W107).1) E108.1) K111.1)) Xr112 hSr112 gr112 hZ hown
  obtain ⟨rfl, N112q, K112⟩ := hQ112
  obtain ⟨h112, e112⟩ : ∃ z, T112.heap = z := ⟨_, rfl⟩
  rw [e112] at K112
  rw [e112] at CSr112
  have O112 := O111.keep K112 all0
  have CS112 := CSr112
  have CR112 := CR111.trans CS112
  have KK112 : Keep h0 h112 [] := KK111.trans K112 all0
  rw [e112] at hS112
  have N112 := Fr.app N111 N112q
  obtain ⟨_, _, ⟨T113, L113, k113, n113⟩, -, X113, ⟨Lc113, hQ113, l113, y113, z113⟩, st113⟩ := Jvm.LawKit.callS X112 hx (y := (⟨"com/example/plugroot/plugroot/sql/ComparisonOfPinLaw", "expected", "(ICC)Lcom/example/plugroot/plugroot/sql/Comparison;"⟩ : MethodName)) hown112 (mvT hZ112 (wi hw 65 rfl)) (mvT hZ112 (wi hw 66 rfl)) (mvT hZ112 (wi hw 2 rfl)) (mvT hZ112 (wi hw 67 rfl)) (by decide) (backOf (W := 1) (rm9 l Z a0 hw [] w0 w1 w2 w3 w4 w5 (p1 &&& (3 : Int32)) c0 c1 .null h112 n0 O112 S0 S1 S2 S3 S4 S5 hex) hZ112 (wi hw 67 rfl) (wi hw 2 rfl) (by decide) (by decide)) (g := (mkF m 125 #[.val (.int p1), .val (.int p2), .val (.int p3), .val (.int p4), .val (.int (p1 &&& (3 : Int32))), .val (.int c0), .val (.int c1), .val (.int c2), .val (.ref b104), .val (.ref b108), .val .null] [(.int c1), (.int c0), (.int (p1 &&& (3 : Int32))), .null])) rfl (by rw [hml]; rfl) (argsL := [(.int (p1 &&& (3 : Int32))), (.int c0), (.int c1)]) (rest := [.null]) (lenOf pd_6 rfl) rfl (by show 2 * 0 + _ ≤ _; exact Nat.le_of_eq rfl) (hb hby at_125) (fun _ _ => ⟨rfl, e112, (by decide : 8 + 0 ≤ _), (by decide : 40 + 0 ≤ _)⟩)
  dsimp only [Pt.U, Pt.locs, Pt.cells, Pt.slots] at X113 l113 y113 z113 st113 hQ113
  subst l113 y113 z113
  obtain ⟨rfl, N113q, hh113⟩ := hQ113
  have e113 : T113.heap = h112 := hh113
  have N113 := Fr.app N112 N113q
  obtain ⟨fs, hr, hrun, hended, hREW⟩ := X113.leaveW hS112 (by rw [e113]; exact (Nat.le_refl _)) (v := some (.int (1 : Int32))) (fun h => by rw [Bd.returns] at h; cases h)
  refine ⟨_, _, pre0 _ ?_, hrun, hended, _, _, rfl, ?_, (by rw [hh]; show CHr Z consts_1 s.vm h0 T113.vm T113.heap; rw [e113]; exact CR112.trans (CHv.at X113 hZ112 (own_EW hw) CR112.1)), hREW.1, hREW.2.1, hREW.2.2.1, hREW.2.2.2.mono (by decide) (by decide)⟩
  · show Steps p.tables e below (s₁.setTop (mkF m 0 #[.val (.int p1), .val (.int p2), .val (.int p3), .val (.int p4), .unset, .unset, .unset, .unset, .unset, .unset, .unset] [])) _
    refine XS.iloadN X0.here hx rfl (hb hby at_0) rfl ?_
    show Steps p.tables e below (s₁.setTop (mkF m 1 #[.val (.int p1), .val (.int p2), .val (.int p3), .val (.int p4), .unset, .unset, .unset, .unset, .unset, .unset, .unset] [(.int p1)])) _
    refine XS.iconst X0.here hx rfl (hb hby at_1) ?_
    show Steps p.tables e below (s₁.setTop (mkF m 2 #[.val (.int p1), .val (.int p2), .val (.int p3), .val (.int p4), .unset, .unset, .unset, .unset, .unset, .unset, .unset] [(.int (3 : Int32)), (.int p1)])) _
    refine XS.iand X0.here hx rfl (hb hby at_2) rfl ?_
    show Steps p.tables e below (s₁.setTop (mkF m 3 #[.val (.int p1), .val (.int p2), .val (.int p3), .val (.int p4), .unset, .unset, .unset, .unset, .unset, .unset, .unset] [(.int (p1 &&& (3 : Int32)))])) _
    refine XS.istore X0.here hx rfl (hb hby at_3) rfl (l' := #[.val (.int p1), .val (.int p2), .val (.int p3), .val (.int p4), .val (.int (p1 &&& (3 : Int32))), .unset, .unset, .unset, .unset, .unset, .unset]) rfl ?_
    show Steps p.tables e below (s₁.setTop (mkF m 5 #[.val (.int p1), .val (.int p2), .val (.int p3), .val (.int p4), .val (.int (p1 &&& (3 : Int32))), .unset, .unset, .unset, .unset, .unset, .unset] [])) _
    refine XS.iloadN X0.here hx rfl (hb hby at_5) rfl ?_
    show Steps p.tables e below (s₁.setTop (mkF m 6 #[.val (.int p1), .val (.int p2), .val (.int p3), .val (.int p4), .val (.int (p1 &&& (3 : Int32))), .unset, .unset, .unset, .unset, .unset, .unset] [(.int p2)])) _
    refine st101 _ ?_
    show Steps p.tables e below (T101.setTop (mkF m 9 #[.val (.int p1), .val (.int p2), .val (.int p3), .val (.int p4), .val (.int (p1 &&& (3 : Int32))), .unset, .unset, .unset, .unset, .unset, .unset] [(.int c0)])) _
    refine XS.istore X101.here hx rfl (hb hby at_9) rfl (l' := #[.val (.int p1), .val (.int p2), .val (.int p3), .val (.int p4), .val (.int (p1 &&& (3 : Int32))), .val (.int c0), .unset, .unset, .unset, .unset, .unset]) rfl ?_
    show Steps p.tables e below (T101.setTop (mkF m 11 #[.val (.int p1), .val (.int p2), .val (.int p3), .val (.int p4), .val (.int (p1 &&& (3 : Int32))), .val (.int c0), .unset, .unset, .unset, .unset, .unset] [])) _
    refine XS.iloadN X101.here hx rfl (hb hby at_11) rfl ?_
    show Steps p.tables e below (T101.setTop (mkF m 12 #[.val (.int p1), .val (.int p2), .val (.int p3), .val (.int p4), .val (.int (p1 &&& (3 : Int32))), .val (.int c0), .unset, .unset, .unset, .unset, .unset] [(.int p3)])) _
    refine st102 _ ?_
    show Steps p.tables e below (T102.setTop (mkF m 15 #[.val (.int p1), .val (.int p2), .val (.int p3), .val (.int p4), .val (.int (p1 &&& (3 : Int32))), .val (.int c0), .unset, .unset, .unset, .unset, .unset] [(.int c1)])) _
    refine XS.istore X102.here hx rfl (hb hby at_15) rfl (l' := #[.val (.int p1), .val (.int p2), .val (.int p3), .val (.int p4), .val (.int (p1 &&& (3 : Int32))), .val (.int c0), .val (.int c1), .unset, .unset, .unset, .unset]) rfl ?_
    show Steps p.tables e below (T102.setTop (mkF m 17 #[.val (.int p1), .val (.int p2), .val (.int p3), .val (.int p4), .val (.int (p1 &&& (3 : Int32))), .val (.int c0), .val (.int c1), .unset, .unset, .unset, .unset] [])) _
    refine XS.iloadN X102.here hx rfl (hb hby at_17) rfl ?_
    show Steps p.tables e below (T102.setTop (mkF m 18 #[.val (.int p1), .val (.int p2), .val (.int p3), .val (.int p4), .val (.int (p1 &&& (3 : Int32))), .val (.int c0), .val (.int c1), .unset, .unset, .unset, .unset] [(.int p4)])) _
    refine st103 _ ?_
    show Steps p.tables e below (T103.setTop (mkF m 21 #[.val (.int p1), .val (.int p2), .val (.int p3), .val (.int p4), .val (.int (p1 &&& (3 : Int32))), .val (.int c0), .val (.int c1), .unset, .unset, .unset, .unset] [(.int c2)])) _
    refine XS.istore X103.here hx rfl (hb hby at_21) rfl (l' := #[.val (.int p1), .val (.int p2), .val (.int p3), .val (.int p4), .val (.int (p1 &&& (3 : Int32))), .val (.int c0), .val (.int c1), .val (.int c2), .unset, .unset, .unset]) rfl ?_
    show Steps p.tables e below (T103.setTop (mkF m 23 #[.val (.int p1), .val (.int p2), .val (.int p3), .val (.int p4), .val (.int (p1 &&& (3 : Int32))), .val (.int c0), .val (.int c1), .val (.int c2), .unset, .unset, .unset] [])) _
    refine XS.iload X103.here hx rfl (hb hby at_23) rfl ?_
    show Steps p.tables e below (T103.setTop (mkF m 25 #[.val (.int p1), .val (.int p2), .val (.int p3), .val (.int p4), .val (.int (p1 &&& (3 : Int32))), .val (.int c0), .val (.int c1), .val (.int c2), .unset, .unset, .unset] [(.int (p1 &&& (3 : Int32)))])) _
    refine XS.ifYes X103.here hx rfl (pc0 := 25) (pc' := 36) rfl (hb hby at_25) rfl ((if0 _ _).trans (feq k0).2) (by decide) (by decide) ?_
    show Steps p.tables e below (T103.setTop (mkF m 36 #[.val (.int p1), .val (.int p2), .val (.int p3), .val (.int p4), .val (.int (p1 &&& (3 : Int32))), .val (.int c0), .val (.int c1), .val (.int c2), .unset, .unset, .unset] [])) _
    refine XS.iload X103.here hx rfl (hb hby at_36) rfl ?_
    show Steps p.tables e below (T103.setTop (mkF m 38 #[.val (.int p1), .val (.int p2), .val (.int p3), .val (.int p4), .val (.int (p1 &&& (3 : Int32))), .val (.int c0), .val (.int c1), .val (.int c2), .unset, .unset, .unset] [(.int (p1 &&& (3 : Int32)))])) _
    refine XS.iconst X103.here hx rfl (hb hby at_38) ?_
    show Steps p.tables e below (T103.setTop (mkF m 39 #[.val (.int p1), .val (.int p2), .val (.int p3), .val (.int p4), .val (.int (p1 &&& (3 : Int32))), .val (.int c0), .val (.int c1), .val (.int c2), .unset, .unset, .unset] [(.int (1 : Int32)), (.int (p1 &&& (3 : Int32)))])) _
    refine XS.icmpYes X103.here hx rfl (pc0 := 39) (pc' := 55) rfl (hb hby at_39) rfl (feq k1).2 (by decide) (by decide) ?_
    show Steps p.tables e below (T103.setTop (mkF m 55 #[.val (.int p1), .val (.int p2), .val (.int p3), .val (.int p4), .val (.int (p1 &&& (3 : Int32))), .val (.int c0), .val (.int c1), .val (.int c2), .unset, .unset, .unset] [])) _
    refine XS.iload X103.here hx rfl (hb hby at_55) rfl ?_
    show Steps p.tables e below (T103.setTop (mkF m 57 #[.val (.int p1), .val (.int p2), .val (.int p3), .val (.int p4), .val (.int (p1 &&& (3 : Int32))), .val (.int c0), .val (.int c1), .val (.int c2), .unset, .unset, .unset] [(.int (p1 &&& (3 : Int32)))])) _
    refine XS.iconst X103.here hx rfl (hb hby at_57) ?_
    show Steps p.tables e below (T103.setTop (mkF m 58 #[.val (.int p1), .val (.int p2), .val (.int p3), .val (.int p4), .val (.int (p1 &&& (3 : Int32))), .val (.int c0), .val (.int c1), .val (.int c2), .unset, .unset, .unset] [(.int (2 : Int32)), (.int (p1 &&& (3 : Int32)))])) _
    refine XS.icmpYes X103.here hx rfl (pc0 := 58) (pc' := 79) rfl (hb hby at_58) rfl (feq k2).2 (by decide) (by decide) ?_
    show Steps p.tables e below (T103.setTop (mkF m 79 #[.val (.int p1), .val (.int p2), .val (.int p3), .val (.int p4), .val (.int (p1 &&& (3 : Int32))), .val (.int c0), .val (.int c1), .val (.int c2), .unset, .unset, .unset] [])) _
    refine XS.iconst X103.here hx rfl (hb hby at_79) ?_
    show Steps p.tables e below (T103.setTop (mkF m 80 #[.val (.int p1), .val (.int p2), .val (.int p3), .val (.int p4), .val (.int (p1 &&& (3 : Int32))), .val (.int c0), .val (.int c1), .val (.int c2), .unset, .unset, .unset] [(.int (3 : Int32))])) _
    refine st104 _ ?_
    show Steps p.tables e below (T104.setTop (mkF m 82 #[.val (.int p1), .val (.int p2), .val (.int p3), .val (.int p4), .val (.int (p1 &&& (3 : Int32))), .val (.int c0), .val (.int c1), .val (.int c2), .unset, .unset, .unset] [(.ref b104)])) _
    refine XS.dup X104.here hx rfl (hb hby at_82) rfl rfl ?_
    show Steps p.tables e below (T104.setTop (mkF m 83 #[.val (.int p1), .val (.int p2), .val (.int p3), .val (.int p4), .val (.int (p1 &&& (3 : Int32))), .val (.int c0), .val (.int c1), .val (.int c2), .unset, .unset, .unset] [(.ref b104), (.ref b104)])) _
    refine XS.iconst X104.here hx rfl (hb hby at_83) ?_
    show Steps p.tables e below (T104.setTop (mkF m 84 #[.val (.int p1), .val (.int p2), .val (.int p3), .val (.int p4), .val (.int (p1 &&& (3 : Int32))), .val (.int c0), .val (.int c1), .val (.int c2), .unset, .unset, .unset] [(.int (0 : Int32)), (.ref b104), (.ref b104)])) _
    refine XS.iload X104.here hx rfl (hb hby at_84) rfl ?_
    show Steps p.tables e below (T104.setTop (mkF m 86 #[.val (.int p1), .val (.int p2), .val (.int p3), .val (.int p4), .val (.int (p1 &&& (3 : Int32))), .val (.int c0), .val (.int c1), .val (.int c2), .unset, .unset, .unset] [(.int c0), (.int (0 : Int32)), (.ref b104), (.ref b104)])) _
    refine st105 _ ?_
    show Steps p.tables e below (T105.setTop (mkF m 87 #[.val (.int p1), .val (.int p2), .val (.int p3), .val (.int p4), .val (.int (p1 &&& (3 : Int32))), .val (.int c0), .val (.int c1), .val (.int c2), .unset, .unset, .unset] [(.ref b104)])) _
    refine XS.dup X105.here hx rfl (hb hby at_87) rfl rfl ?_
    show Steps p.tables e below (T105.setTop (mkF m 88 #[.val (.int p1), .val (.int p2), .val (.int p3), .val (.int p4), .val (.int (p1 &&& (3 : Int32))), .val (.int c0), .val (.int c1), .val (.int c2), .unset, .unset, .unset] [(.ref b104), (.ref b104)])) _
    refine XS.iconst X105.here hx rfl (hb hby at_88) ?_
    show Steps p.tables e below (T105.setTop (mkF m 89 #[.val (.int p1), .val (.int p2), .val (.int p3), .val (.int p4), .val (.int (p1 &&& (3 : Int32))), .val (.int c0), .val (.int c1), .val (.int c2), .unset, .unset, .unset] [(.int (1 : Int32)), (.ref b104), (.ref b104)])) _
    refine XS.iload X105.here hx rfl (hb hby at_89) rfl ?_
    show Steps p.tables e below (T105.setTop (mkF m 91 #[.val (.int p1), .val (.int p2), .val (.int p3), .val (.int p4), .val (.int (p1 &&& (3 : Int32))), .val (.int c0), .val (.int c1), .val (.int c2), .unset, .unset, .unset] [(.int c1), (.int (1 : Int32)), (.ref b104), (.ref b104)])) _
    refine st106 _ ?_
    show Steps p.tables e below (T106.setTop (mkF m 92 #[.val (.int p1), .val (.int p2), .val (.int p3), .val (.int p4), .val (.int (p1 &&& (3 : Int32))), .val (.int c0), .val (.int c1), .val (.int c2), .unset, .unset, .unset] [(.ref b104)])) _
    refine XS.dup X106.here hx rfl (hb hby at_92) rfl rfl ?_
    show Steps p.tables e below (T106.setTop (mkF m 93 #[.val (.int p1), .val (.int p2), .val (.int p3), .val (.int p4), .val (.int (p1 &&& (3 : Int32))), .val (.int c0), .val (.int c1), .val (.int c2), .unset, .unset, .unset] [(.ref b104), (.ref b104)])) _
    refine XS.iconst X106.here hx rfl (hb hby at_93) ?_
    show Steps p.tables e below (T106.setTop (mkF m 94 #[.val (.int p1), .val (.int p2), .val (.int p3), .val (.int p4), .val (.int (p1 &&& (3 : Int32))), .val (.int c0), .val (.int c1), .val (.int c2), .unset, .unset, .unset] [(.int (2 : Int32)), (.ref b104), (.ref b104)])) _
    refine XS.iload X106.here hx rfl (hb hby at_94) rfl ?_
    show Steps p.tables e below (T106.setTop (mkF m 96 #[.val (.int p1), .val (.int p2), .val (.int p3), .val (.int p4), .val (.int (p1 &&& (3 : Int32))), .val (.int c0), .val (.int c1), .val (.int c2), .unset, .unset, .unset] [(.int c2), (.int (2 : Int32)), (.ref b104), (.ref b104)])) _
    refine st107 _ ?_
    show Steps p.tables e below (T107.setTop (mkF m 97 #[.val (.int p1), .val (.int p2), .val (.int p3), .val (.int p4), .val (.int (p1 &&& (3 : Int32))), .val (.int c0), .val (.int c1), .val (.int c2), .unset, .unset, .unset] [(.ref b104)])) _
    refine XS.astore X107.here hx rfl (hb hby at_97) rfl rfl (l' := #[.val (.int p1), .val (.int p2), .val (.int p3), .val (.int p4), .val (.int (p1 &&& (3 : Int32))), .val (.int c0), .val (.int c1), .val (.int c2), .val (.ref b104), .unset, .unset]) rfl ?_
    show Steps p.tables e below (T107.setTop (mkF m 99 #[.val (.int p1), .val (.int p2), .val (.int p3), .val (.int p4), .val (.int (p1 &&& (3 : Int32))), .val (.int c0), .val (.int c1), .val (.int c2), .val (.ref b104), .unset, .unset] [])) _
    refine st108 _ ?_
    show Steps p.tables e below (T108.setTop (mkF m 102 #[.val (.int p1), .val (.int p2), .val (.int p3), .val (.int p4), .val (.int (p1 &&& (3 : Int32))), .val (.int c0), .val (.int c1), .val (.int c2), .val (.ref b104), .unset, .unset] [(.ref b108)])) _
    refine XS.dup X108.here hx rfl (hb hby at_102) rfl rfl ?_
    show Steps p.tables e below (T108.setTop (mkF m 103 #[.val (.int p1), .val (.int p2), .val (.int p3), .val (.int p4), .val (.int (p1 &&& (3 : Int32))), .val (.int c0), .val (.int c1), .val (.int c2), .val (.ref b104), .unset, .unset] [(.ref b108), (.ref b108)])) _
    refine XS.aload X108.here hx rfl (hb hby at_103) rfl rfl ?_
    show Steps p.tables e below (T108.setTop (mkF m 105 #[.val (.int p1), .val (.int p2), .val (.int p3), .val (.int p4), .val (.int (p1 &&& (3 : Int32))), .val (.int c0), .val (.int c1), .val (.int c2), .val (.ref b104), .unset, .unset] [(.ref b104), (.ref b108), (.ref b108)])) _
    refine st111.trans ?_
    show Steps p.tables e below (T111.setTop (mkF m 108 #[.val (.int p1), .val (.int p2), .val (.int p3), .val (.int p4), .val (.int (p1 &&& (3 : Int32))), .val (.int c0), .val (.int c1), .val (.int c2), .val (.ref b104), .unset, .unset] [(.ref b108)])) _
    refine XS.astore X111.here hx rfl (hb hby at_108) rfl rfl (l' := #[.val (.int p1), .val (.int p2), .val (.int p3), .val (.int p4), .val (.int (p1 &&& (3 : Int32))), .val (.int c0), .val (.int c1), .val (.int c2), .val (.ref b104), .val (.ref b108), .unset]) rfl ?_
    show Steps p.tables e below (T111.setTop (mkF m 110 #[.val (.int p1), .val (.int p2), .val (.int p3), .val (.int p4), .val (.int (p1 &&& (3 : Int32))), .val (.int c0), .val (.int c1), .val (.int c2), .val (.ref b104), .val (.ref b108), .unset] [])) _
    refine XS.aload X111.here hx rfl (hb hby at_110) rfl rfl ?_
    show Steps p.tables e below (T111.setTop (mkF m 112 #[.val (.int p1), .val (.int p2), .val (.int p3), .val (.int p4), .val (.int (p1 &&& (3 : Int32))), .val (.int c0), .val (.int c1), .val (.int c2), .val (.ref b104), .val (.ref b108), .unset] [(.ref b108)])) _
    refine st112.trans ?_
    show Steps p.tables e below (T112.setTop (mkF m 115 #[.val (.int p1), .val (.int p2), .val (.int p3), .val (.int p4), .val (.int (p1 &&& (3 : Int32))), .val (.int c0), .val (.int c1), .val (.int c2), .val (.ref b104), .val (.ref b108), .unset] [.null])) _
    refine XS.astore X112.here hx rfl (hb hby at_115) rfl rfl (l' := #[.val (.int p1), .val (.int p2), .val (.int p3), .val (.int p4), .val (.int (p1 &&& (3 : Int32))), .val (.int c0), .val (.int c1), .val (.int c2), .val (.ref b104), .val (.ref b108), .val .null]) rfl ?_
    show Steps p.tables e below (T112.setTop (mkF m 117 #[.val (.int p1), .val (.int p2), .val (.int p3), .val (.int p4), .val (.int (p1 &&& (3 : Int32))), .val (.int c0), .val (.int c1), .val (.int c2), .val (.ref b104), .val (.ref b108), .val .null] [])) _
    refine XS.aload X112.here hx rfl (hb hby at_117) rfl rfl ?_
    show Steps p.tables e below (T112.setTop (mkF m 119 #[.val (.int p1), .val (.int p2), .val (.int p3), .val (.int p4), .val (.int (p1 &&& (3 : Int32))), .val (.int c0), .val (.int c1), .val (.int c2), .val (.ref b104), .val (.ref b108), .val .null] [.null])) _
    refine XS.iload X112.here hx rfl (hb hby at_119) rfl ?_
    show Steps p.tables e below (T112.setTop (mkF m 121 #[.val (.int p1), .val (.int p2), .val (.int p3), .val (.int p4), .val (.int (p1 &&& (3 : Int32))), .val (.int c0), .val (.int c1), .val (.int c2), .val (.ref b104), .val (.ref b108), .val .null] [(.int (p1 &&& (3 : Int32))), .null])) _
    refine XS.iload X112.here hx rfl (hb hby at_121) rfl ?_
    show Steps p.tables e below (T112.setTop (mkF m 123 #[.val (.int p1), .val (.int p2), .val (.int p3), .val (.int p4), .val (.int (p1 &&& (3 : Int32))), .val (.int c0), .val (.int c1), .val (.int c2), .val (.ref b104), .val (.ref b108), .val .null] [(.int c0), (.int (p1 &&& (3 : Int32))), .null])) _
    refine XS.iload X112.here hx rfl (hb hby at_123) rfl ?_
    show Steps p.tables e below (T112.setTop (mkF m 125 #[.val (.int p1), .val (.int p2), .val (.int p3), .val (.int p4), .val (.int (p1 &&& (3 : Int32))), .val (.int c0), .val (.int c1), .val (.int c2), .val (.ref b104), .val (.ref b108), .val .null] [(.int c1), (.int c0), (.int (p1 &&& (3 : Int32))), .null])) _
    refine st113 _ ?_
    show Steps p.tables e below (T113.setTop (mkF m 128 #[.val (.int p1), .val (.int p2), .val (.int p3), .val (.int p4), .val (.int (p1 &&& (3 : Int32))), .val (.int c0), .val (.int c1), .val (.int c2), .val (.ref b104), .val (.ref b108), .val .null] [.null, .null])) _
    refine Jvm.RoadKit.acmp (g := (mkF m 128 #[.val (.int p1), .val (.int p2), .val (.int p3), .val (.int p4), .val (.int (p1 &&& (3 : Int32))), .val (.int c0), .val (.int c1), .val (.int c2), .val (.ref b104), .val (.ref b108), .val .null] [.null, .null])) X113 hx rfl rfl rfl (pc0 := 128) (pc' := 131) (same := true) rfl (hb hby at_128) rfl (decide_eq_true rfl) (by decide) (by decide) ?_
    show Steps p.tables e below (T113.setTop (mkF m 131 #[.val (.int p1), .val (.int p2), .val (.int p3), .val (.int p4), .val (.int (p1 &&& (3 : Int32))), .val (.int c0), .val (.int c1), .val (.int c2), .val (.ref b104), .val (.ref b108), .val .null] [])) _
    refine XS.iconst X113.here hx rfl (hb hby at_131) ?_
    show Steps p.tables e below (T113.setTop (mkF m 132 #[.val (.int p1), .val (.int p2), .val (.int p3), .val (.int p4), .val (.int (p1 &&& (3 : Int32))), .val (.int c0), .val (.int c1), .val (.int c2), .val (.ref b104), .val (.ref b108), .val .null] [(.int (1 : Int32))])) _
    refine XS.goto X113.here hx rfl (pc0 := 132) (pc' := 136) rfl (hb hby at_132) (by decide) (by decide) ?_
    show Steps p.tables e below (T113.setTop (mkF m 136 #[.val (.int p1), .val (.int p2), .val (.int p3), .val (.int p4), .val (.int (p1 &&& (3 : Int32))), .val (.int c0), .val (.int c1), .val (.int c2), .val (.ref b104), .val (.ref b108), .val .null] [(.int (1 : Int32))])) _
    exact retN X113 hx (t := .boolean) Bd.returns (by simp) (hb hby at_136) hr
  · show Q0 h0 n0 _ T113.heap _
    rw [e113]
    exact ⟨rfl, N113⟩
theorem own_s0 (w0 w1 w2 w3 w4 w5 : Addr) : specF w0 w1 w2 w3 w4 w5 [] = .null := by simp [specF]
theorem own_s1 (w0 w1 w2 w3 w4 w5 : Addr) (c0 c1 : Int32) : specF w0 w1 w2 w3 w4 w5 [c0] = expF w0 w1 w2 w3 w4 w5 1 c0 c1 := by simp [specF, expF]
theorem own_s2 (w0 w1 w2 w3 w4 w5 : Addr) (c0 c1 : Int32) : specF w0 w1 w2 w3 w4 w5 [c0, c1] = expF w0 w1 w2 w3 w4 w5 2 c0 c1 := by
  by_cases h1 : c0 = 60
  · subst h1; simp [specF, expF]
  · by_cases h2 : c0 = 33
    · subst h2; simp [specF, expF]
    · simp [specF, expF, h1, h2]
theorem own_s3 (w0 w1 w2 w3 w4 w5 : Addr) (c0 c1 c2 : Int32) : specF w0 w1 w2 w3 w4 w5 [c0, c1, c2] = .null := by simp [specF]
theorem own_sr (w0 w1 w2 w3 w4 w5 : Addr) (cs : List Int32) : (specF w0 w1 w2 w3 w4 w5 cs).isRef = true := by
  unfold specF
  repeat' split
  all_goals rfl
theorem own_e0 (w0 w1 w2 w3 w4 w5 : Addr) (q c0 c1 : Int32) (h1 : ¬ q = 1) (h2 : ¬ q = 2) : expF w0 w1 w2 w3 w4 w5 q c0 c1 = .null := by unfold expF; rw [if_neg h1, if_neg h2]
set_option maxRecDepth 65536 in
set_option maxHeartbeats 40000000 in
theorem comes_1 {Post : Tables → Env → Array Value → State → Outcome → State → Prop} (hpost : ∀ tb e args s v u, (limb_1_1.after args s (.returned v) u = true ∧ limb_1_2.after args s (.returned v) u = true ∧ True) → ReturnedEndW s (.returned v) u (Jvm.fieldLocs frame_1_writes args s ++ Jvm.arrayLocs frame_1_arrays args s ++ Jvm.staticLocs frame_1_statics s) 24 3200 → Post tb e args s (.returned v) u) :
    ArmFor flags0 classFile x code maxLocals ret World_1 tables_1 room_1 Calls_1 rest_1 Pre_1 Post := by
  intro l hfl _ _ p e ha hc hk s m args below hf hA hF happ hP
  obtain ⟨hcalls, hrest, hpre⟩ := hP
  obtain ⟨-, -, -, hnamed, -, -, -, hat⟩ := (Spec.applies_iff hf).mp happ
  obtain ⟨hg, hn⟩ := and_e (Cond.before_iff.mp (show (Jvm.Cond.and given_1 narrow_1).before args s = true from hpre))
  obtain ⟨hcnt, hi0⟩ := and_e hg
  obtain ⟨ha0, hb0⟩ := and_e hi0
  obtain ⟨ha1, hb1⟩ := and_e hb0
  obtain ⟨ha2, hb2⟩ := and_e hb1
  obtain ⟨w0, w1, w2, w3, rfl⟩ : ∃ w0 w1 w2 w3 : Value, args = #[w0, w1, w2, w3] := by
    have hs : args.size = 4 := by simpa [Cond.value, given_1] using hcnt
    obtain ⟨L⟩ := args
    match L, hs with
    | [w0, w1, w2, w3], _ => exact ⟨w0, w1, w2, w3, rfl⟩
  have hw := fun d (hd : d ∈ tables_1) => atoms_spec (ws := Jvm.Cond.code x code maxLocals ret :: tables_1) hat d (List.mem_cons_of_mem _ hd)
  have hfit : Fit s := fun {y c} hc i hi => by
    obtain ⟨ha, rfl⟩ := Array.getElem?_eq_some_iff.mp hc
    have q := List.all_eq_true.mp ((Array.all_eq_true_iff_forall_mem.mp hF) _ (Array.getElem_mem ha)) i (List.mem_range.mpr hi)
    simpa [Array.getElem?_eq_getElem hi] using q
  obtain ⟨i0, ei0⟩ := is_v ha0
  obtain rfl : w0 = (.int i0) := Option.some.inj ei0
  obtain ⟨i1, ei1⟩ := is_v ha1
  obtain rfl : w1 = (.int i1) := Option.some.inj ei1
  obtain ⟨i2, ei2⟩ := is_v ha2
  obtain rfl : w2 = (.int i2) := Option.some.inj ei2
  obtain ⟨i3, ei3⟩ := is_v hb2
  obtain rfl : w3 = (.int i3) := Option.some.inj ei3
  obtain ⟨hsets, hown0⟩ := atoms_of _ (rest_1_c_eq ▸ (show rest_1_c.before _ s = true from hrest))
  obtain ⟨i_CS, ev_CS⟩ := is_v (Cond.before_iff.mp (hsets _ (List.mem_of_getElem? (i := 1) rfl)))
  have S_CS : Sta s s.heap "java/lang/String" "COMPACT_STRINGS" "Z" (.int i_CS) := Sta.start ev_CS (Or.inl (hsets _ (List.mem_of_getElem? (i := 0) rfl)))
  have hCS : ¬ (i_CS = (0 : Int32)) := gotF (Cond.eq_ints ev_CS (Term.int_eval (0))) (not_v (Cond.before_iff.mp (hsets _ (List.mem_of_getElem? (i := 2) rfl))))
  obtain ⟨l1, r1⟩ := and_e hn
  obtain ⟨l2, r2⟩ := and_e r1
  obtain ⟨l3, r3⟩ := and_e r2
  obtain ⟨l4, r4⟩ := and_e r3
  obtain ⟨l5, r5⟩ := and_e r4
  obtain ⟨l6, r6⟩ := and_e r5
  obtain ⟨l7, r7⟩ := and_e r6
  obtain ⟨l8, r8⟩ := and_e r7
  obtain ⟨l9, r9⟩ := and_e r8
  obtain ⟨l10, r10⟩ := and_e r9
  obtain ⟨l11, r11⟩ := and_e r10
  obtain ⟨l12, r12⟩ := and_e r11
  obtain ⟨l13, r13⟩ := and_e r12
  obtain ⟨l14, r14⟩ := and_e r13
  obtain ⟨l15, r15⟩ := and_e r14
  obtain ⟨l16, r16⟩ := and_e r15
  obtain ⟨l17, r17⟩ := and_e r16
  obtain ⟨l18, r18⟩ := and_e r17
  obtain ⟨l19, r19⟩ := and_e r18
  obtain ⟨l20, r20⟩ := and_e r19
  obtain ⟨l21, r21⟩ := and_e r20
  obtain ⟨l22, r22⟩ := and_e r21
  obtain ⟨l23, r23⟩ := and_e r22
  obtain ⟨l24, r24⟩ := and_e r23
  obtain ⟨l25, r25⟩ := and_e r24
  obtain ⟨l26, r26⟩ := and_e r25
  obtain ⟨l27, r27⟩ := and_e r26
  obtain ⟨l28, r28⟩ := and_e r27
  obtain ⟨l29, r29⟩ := and_e r28
  obtain ⟨l30, r30⟩ := and_e r29
  obtain ⟨l31, r31⟩ := and_e r30
  obtain ⟨l32, r32⟩ := and_e r31
  obtain ⟨l33, r33⟩ := and_e r32
  obtain ⟨l34, r34⟩ := and_e r33
  obtain ⟨l35, r35⟩ := and_e r34
  obtain ⟨l36, r36⟩ := and_e r35
  obtain ⟨l37, r37⟩ := and_e r36
  obtain ⟨l38, r38⟩ := and_e r37
  obtain ⟨l39, r39⟩ := and_e r38
  obtain ⟨l40, r40⟩ := and_e r39
  obtain ⟨l41, r41⟩ := and_e r40
  obtain ⟨l42, r42⟩ := and_e r41
  obtain ⟨l43, r43⟩ := and_e r42
  obtain ⟨l44, r44⟩ := and_e r43
  obtain ⟨l45, r45⟩ := and_e r44
  obtain ⟨l46, r46⟩ := and_e r45
  obtain ⟨l47, r47⟩ := and_e r46
  obtain ⟨w_VALUES, ev_VALUES⟩ := arr_v l1
  have S_VALUES := Sta.start ev_VALUES (Or.inr ⟨(wi hw 28 rfl), (wi hw 46 rfl)⟩)
  obtain ⟨cl_VALUES, A_VALUES⟩ := Arr.start ev_VALUES l1
  have E_VALUES := Exa.start ev_VALUES l2
  obtain ⟨lz_VALUES, le_VALUES⟩ := own_len ev_VALUES A_VALUES l3
  obtain ⟨w_EQUAL, ev_EQUAL⟩ := exa_v l4
  have S_EQUAL := Sta.start ev_EQUAL (Or.inr ⟨(wi hw 28 rfl), (wi hw 54 rfl)⟩)
  have E_EQUAL := Exa.start ev_EQUAL l4
  have el_VALUES_0 := own_elR ev_VALUES A_VALUES ev_EQUAL l5
  obtain ⟨w_NOT_EQUAL, ev_NOT_EQUAL⟩ := exa_v l6
  have S_NOT_EQUAL := Sta.start ev_NOT_EQUAL (Or.inr ⟨(wi hw 28 rfl), (wi hw 55 rfl)⟩)
  have E_NOT_EQUAL := Exa.start ev_NOT_EQUAL l6
  have el_VALUES_1 := own_elR ev_VALUES A_VALUES ev_NOT_EQUAL l7
  obtain ⟨w_LESS, ev_LESS⟩ := exa_v l8
  have S_LESS := Sta.start ev_LESS (Or.inr ⟨(wi hw 28 rfl), (wi hw 56 rfl)⟩)
  have E_LESS := Exa.start ev_LESS l8
  have el_VALUES_2 := own_elR ev_VALUES A_VALUES ev_LESS l9
  obtain ⟨w_GREATER, ev_GREATER⟩ := exa_v l10
  have S_GREATER := Sta.start ev_GREATER (Or.inr ⟨(wi hw 28 rfl), (wi hw 57 rfl)⟩)
  have E_GREATER := Exa.start ev_GREATER l10
  have el_VALUES_3 := own_elR ev_VALUES A_VALUES ev_GREATER l11
  obtain ⟨w_LESS_OR_EQUAL, ev_LESS_OR_EQUAL⟩ := exa_v l12
  have S_LESS_OR_EQUAL := Sta.start ev_LESS_OR_EQUAL (Or.inr ⟨(wi hw 28 rfl), (wi hw 58 rfl)⟩)
  have E_LESS_OR_EQUAL := Exa.start ev_LESS_OR_EQUAL l12
  have el_VALUES_4 := own_elR ev_VALUES A_VALUES ev_LESS_OR_EQUAL l13
  obtain ⟨w_GREATER_OR_EQUAL, ev_GREATER_OR_EQUAL⟩ := exa_v l14
  have S_GREATER_OR_EQUAL := Sta.start ev_GREATER_OR_EQUAL (Or.inr ⟨(wi hw 28 rfl), (wi hw 59 rfl)⟩)
  have E_GREATER_OR_EQUAL := Exa.start ev_GREATER_OR_EQUAL l14
  have el_VALUES_5 := own_elR ev_VALUES A_VALUES ev_GREATER_OR_EQUAL l15
  obtain ⟨w_EQUAL_symbol, ev_EQUAL_symbol⟩ := exa_v l16
  have P_EQUAL_symbol := Fld.start ((fld_at ev_EQUAL).symm.trans ev_EQUAL_symbol)
  have E_EQUAL_symbol := Exa.start ev_EQUAL_symbol l16
  have F_coder_EQUAL_symbol := own_fldI ev_EQUAL_symbol l17
  obtain ⟨w_EQUAL_symbol_value, ev_EQUAL_symbol_value⟩ := arr_v l18
  have P_EQUAL_symbol_value := Fld.start ((fld_at ev_EQUAL_symbol).symm.trans ev_EQUAL_symbol_value)
  obtain ⟨cl_EQUAL_symbol_value, A_EQUAL_symbol_value⟩ := Arr.start ev_EQUAL_symbol_value l18
  obtain ⟨lz_EQUAL_symbol_value, le_EQUAL_symbol_value⟩ := own_len ev_EQUAL_symbol_value A_EQUAL_symbol_value l19
  obtain ⟨w_NOT_EQUAL_symbol, ev_NOT_EQUAL_symbol⟩ := exa_v l20
  have P_NOT_EQUAL_symbol := Fld.start ((fld_at ev_NOT_EQUAL).symm.trans ev_NOT_EQUAL_symbol)
  have E_NOT_EQUAL_symbol := Exa.start ev_NOT_EQUAL_symbol l20
  have F_coder_NOT_EQUAL_symbol := own_fldI ev_NOT_EQUAL_symbol l21
  obtain ⟨w_NOT_EQUAL_symbol_value, ev_NOT_EQUAL_symbol_value⟩ := arr_v l22
  have P_NOT_EQUAL_symbol_value := Fld.start ((fld_at ev_NOT_EQUAL_symbol).symm.trans ev_NOT_EQUAL_symbol_value)
  obtain ⟨cl_NOT_EQUAL_symbol_value, A_NOT_EQUAL_symbol_value⟩ := Arr.start ev_NOT_EQUAL_symbol_value l22
  obtain ⟨lz_NOT_EQUAL_symbol_value, le_NOT_EQUAL_symbol_value⟩ := own_len ev_NOT_EQUAL_symbol_value A_NOT_EQUAL_symbol_value l23
  obtain ⟨w_LESS_symbol, ev_LESS_symbol⟩ := exa_v l24
  have P_LESS_symbol := Fld.start ((fld_at ev_LESS).symm.trans ev_LESS_symbol)
  have E_LESS_symbol := Exa.start ev_LESS_symbol l24
  have F_coder_LESS_symbol := own_fldI ev_LESS_symbol l25
  obtain ⟨w_LESS_symbol_value, ev_LESS_symbol_value⟩ := arr_v l26
  have P_LESS_symbol_value := Fld.start ((fld_at ev_LESS_symbol).symm.trans ev_LESS_symbol_value)
  obtain ⟨cl_LESS_symbol_value, A_LESS_symbol_value⟩ := Arr.start ev_LESS_symbol_value l26
  obtain ⟨lz_LESS_symbol_value, le_LESS_symbol_value⟩ := own_len ev_LESS_symbol_value A_LESS_symbol_value l27
  obtain ⟨w_GREATER_symbol, ev_GREATER_symbol⟩ := exa_v l28
  have P_GREATER_symbol := Fld.start ((fld_at ev_GREATER).symm.trans ev_GREATER_symbol)
  have E_GREATER_symbol := Exa.start ev_GREATER_symbol l28
  have F_coder_GREATER_symbol := own_fldI ev_GREATER_symbol l29
  obtain ⟨w_GREATER_symbol_value, ev_GREATER_symbol_value⟩ := arr_v l30
  have P_GREATER_symbol_value := Fld.start ((fld_at ev_GREATER_symbol).symm.trans ev_GREATER_symbol_value)
  obtain ⟨cl_GREATER_symbol_value, A_GREATER_symbol_value⟩ := Arr.start ev_GREATER_symbol_value l30
  obtain ⟨lz_GREATER_symbol_value, le_GREATER_symbol_value⟩ := own_len ev_GREATER_symbol_value A_GREATER_symbol_value l31
  obtain ⟨w_LESS_OR_EQUAL_symbol, ev_LESS_OR_EQUAL_symbol⟩ := exa_v l32
  have P_LESS_OR_EQUAL_symbol := Fld.start ((fld_at ev_LESS_OR_EQUAL).symm.trans ev_LESS_OR_EQUAL_symbol)
  have E_LESS_OR_EQUAL_symbol := Exa.start ev_LESS_OR_EQUAL_symbol l32
  have F_coder_LESS_OR_EQUAL_symbol := own_fldI ev_LESS_OR_EQUAL_symbol l33
  obtain ⟨w_LESS_OR_EQUAL_symbol_value, ev_LESS_OR_EQUAL_symbol_value⟩ := arr_v l34
  have P_LESS_OR_EQUAL_symbol_value := Fld.start ((fld_at ev_LESS_OR_EQUAL_symbol).symm.trans ev_LESS_OR_EQUAL_symbol_value)
  obtain ⟨cl_LESS_OR_EQUAL_symbol_value, A_LESS_OR_EQUAL_symbol_value⟩ := Arr.start ev_LESS_OR_EQUAL_symbol_value l34
  obtain ⟨lz_LESS_OR_EQUAL_symbol_value, le_LESS_OR_EQUAL_symbol_value⟩ := own_len ev_LESS_OR_EQUAL_symbol_value A_LESS_OR_EQUAL_symbol_value l35
  obtain ⟨w_GREATER_OR_EQUAL_symbol, ev_GREATER_OR_EQUAL_symbol⟩ := exa_v l36
  have P_GREATER_OR_EQUAL_symbol := Fld.start ((fld_at ev_GREATER_OR_EQUAL).symm.trans ev_GREATER_OR_EQUAL_symbol)
  have E_GREATER_OR_EQUAL_symbol := Exa.start ev_GREATER_OR_EQUAL_symbol l36
  have F_coder_GREATER_OR_EQUAL_symbol := own_fldI ev_GREATER_OR_EQUAL_symbol l37
  obtain ⟨w_GREATER_OR_EQUAL_symbol_value, ev_GREATER_OR_EQUAL_symbol_value⟩ := arr_v l38
  have P_GREATER_OR_EQUAL_symbol_value := Fld.start ((fld_at ev_GREATER_OR_EQUAL_symbol).symm.trans ev_GREATER_OR_EQUAL_symbol_value)
  obtain ⟨cl_GREATER_OR_EQUAL_symbol_value, A_GREATER_OR_EQUAL_symbol_value⟩ := Arr.start ev_GREATER_OR_EQUAL_symbol_value l38
  obtain ⟨lz_GREATER_OR_EQUAL_symbol_value, le_GREATER_OR_EQUAL_symbol_value⟩ := own_len ev_GREATER_OR_EQUAL_symbol_value A_GREATER_OR_EQUAL_symbol_value l39
  have el_NOT_EQUAL_symbol_value_0 := own_elI ev_NOT_EQUAL_symbol_value A_NOT_EQUAL_symbol_value l40
  have el_LESS_OR_EQUAL_symbol_value_0 := own_elI ev_LESS_OR_EQUAL_symbol_value A_LESS_OR_EQUAL_symbol_value l41
  have el_GREATER_OR_EQUAL_symbol_value_0 := own_elI ev_GREATER_OR_EQUAL_symbol_value A_GREATER_OR_EQUAL_symbol_value l42
  have el_EQUAL_symbol_value_0 := own_elI ev_EQUAL_symbol_value A_EQUAL_symbol_value l43
  have el_LESS_symbol_value_0 := own_elI ev_LESS_symbol_value A_LESS_symbol_value l44
  have el_GREATER_symbol_value_0 := own_elI ev_GREATER_symbol_value A_GREATER_symbol_value l45
  have el_NOT_EQUAL_symbol_value_1 := own_elI ev_NOT_EQUAL_symbol_value A_NOT_EQUAL_symbol_value l46
  have el_LESS_OR_EQUAL_symbol_value_1 := own_elI ev_LESS_OR_EQUAL_symbol_value A_LESS_OR_EQUAL_symbol_value l47
  have el_GREATER_OR_EQUAL_symbol_value_1 := own_elI ev_GREATER_OR_EQUAL_symbol_value A_GREATER_OR_EQUAL_symbol_value r47
  have V_VALUES : Arv s s.heap w_VALUES cl_VALUES.cls (.object "com/example/plugroot/plugroot/sql/Comparison") (6 : Int32) [(.ref w_EQUAL), (.ref w_NOT_EQUAL), (.ref w_LESS), (.ref w_GREATER), (.ref w_LESS_OR_EQUAL), (.ref w_GREATER_OR_EQUAL)] .null := Arv.start hfit A_VALUES lz_VALUES le_VALUES (by decide) rfl ⟨el_VALUES_0, el_VALUES_1, el_VALUES_2, el_VALUES_3, el_VALUES_4, el_VALUES_5, trivial⟩
  have V_EQUAL_symbol_value : Arv s s.heap w_EQUAL_symbol_value cl_EQUAL_symbol_value.cls .byte (1 : Int32) [(.int (61 : Int32))] (.int (0 : Int32)) := Arv.start hfit A_EQUAL_symbol_value lz_EQUAL_symbol_value le_EQUAL_symbol_value (by decide) rfl ⟨el_EQUAL_symbol_value_0, trivial⟩
  have V_NOT_EQUAL_symbol_value : Arv s s.heap w_NOT_EQUAL_symbol_value cl_NOT_EQUAL_symbol_value.cls .byte (2 : Int32) [(.int (60 : Int32)), (.int (62 : Int32))] (.int (0 : Int32)) := Arv.start hfit A_NOT_EQUAL_symbol_value lz_NOT_EQUAL_symbol_value le_NOT_EQUAL_symbol_value (by decide) rfl ⟨el_NOT_EQUAL_symbol_value_0, el_NOT_EQUAL_symbol_value_1, trivial⟩
  have V_LESS_symbol_value : Arv s s.heap w_LESS_symbol_value cl_LESS_symbol_value.cls .byte (1 : Int32) [(.int (60 : Int32))] (.int (0 : Int32)) := Arv.start hfit A_LESS_symbol_value lz_LESS_symbol_value le_LESS_symbol_value (by decide) rfl ⟨el_LESS_symbol_value_0, trivial⟩
  have V_GREATER_symbol_value : Arv s s.heap w_GREATER_symbol_value cl_GREATER_symbol_value.cls .byte (1 : Int32) [(.int (62 : Int32))] (.int (0 : Int32)) := Arv.start hfit A_GREATER_symbol_value lz_GREATER_symbol_value le_GREATER_symbol_value (by decide) rfl ⟨el_GREATER_symbol_value_0, trivial⟩
  have V_LESS_OR_EQUAL_symbol_value : Arv s s.heap w_LESS_OR_EQUAL_symbol_value cl_LESS_OR_EQUAL_symbol_value.cls .byte (2 : Int32) [(.int (60 : Int32)), (.int (61 : Int32))] (.int (0 : Int32)) := Arv.start hfit A_LESS_OR_EQUAL_symbol_value lz_LESS_OR_EQUAL_symbol_value le_LESS_OR_EQUAL_symbol_value (by decide) rfl ⟨el_LESS_OR_EQUAL_symbol_value_0, el_LESS_OR_EQUAL_symbol_value_1, trivial⟩
  have V_GREATER_OR_EQUAL_symbol_value : Arv s s.heap w_GREATER_OR_EQUAL_symbol_value cl_GREATER_OR_EQUAL_symbol_value.cls .byte (2 : Int32) [(.int (62 : Int32)), (.int (61 : Int32))] (.int (0 : Int32)) := Arv.start hfit A_GREATER_OR_EQUAL_symbol_value lz_GREATER_OR_EQUAL_symbol_value le_GREATER_OR_EQUAL_symbol_value (by decide) rfl ⟨el_GREATER_OR_EQUAL_symbol_value_0, el_GREATER_OR_EQUAL_symbol_value_1, trivial⟩
  have T_EQUAL_symbol : Str s s.heap w_EQUAL_symbol ([(61 : Int32)] : List Int32) := ⟨_, _, _, _, E_EQUAL_symbol, P_EQUAL_symbol_value, F_coder_EQUAL_symbol, V_EQUAL_symbol_value, Or.inl ⟨rfl, rfl, rfl, by decide⟩, by decide, by decide⟩
  have T_NOT_EQUAL_symbol : Str s s.heap w_NOT_EQUAL_symbol ([(60 : Int32), (62 : Int32)] : List Int32) := ⟨_, _, _, _, E_NOT_EQUAL_symbol, P_NOT_EQUAL_symbol_value, F_coder_NOT_EQUAL_symbol, V_NOT_EQUAL_symbol_value, Or.inl ⟨rfl, rfl, rfl, by decide⟩, by decide, by decide⟩
  have T_LESS_symbol : Str s s.heap w_LESS_symbol ([(60 : Int32)] : List Int32) := ⟨_, _, _, _, E_LESS_symbol, P_LESS_symbol_value, F_coder_LESS_symbol, V_LESS_symbol_value, Or.inl ⟨rfl, rfl, rfl, by decide⟩, by decide, by decide⟩
  have T_GREATER_symbol : Str s s.heap w_GREATER_symbol ([(62 : Int32)] : List Int32) := ⟨_, _, _, _, E_GREATER_symbol, P_GREATER_symbol_value, F_coder_GREATER_symbol, V_GREATER_symbol_value, Or.inl ⟨rfl, rfl, rfl, by decide⟩, by decide, by decide⟩
  have T_LESS_OR_EQUAL_symbol : Str s s.heap w_LESS_OR_EQUAL_symbol ([(60 : Int32), (61 : Int32)] : List Int32) := ⟨_, _, _, _, E_LESS_OR_EQUAL_symbol, P_LESS_OR_EQUAL_symbol_value, F_coder_LESS_OR_EQUAL_symbol, V_LESS_OR_EQUAL_symbol_value, Or.inl ⟨rfl, rfl, rfl, by decide⟩, by decide, by decide⟩
  have T_GREATER_OR_EQUAL_symbol : Str s s.heap w_GREATER_OR_EQUAL_symbol ([(62 : Int32), (61 : Int32)] : List Int32) := ⟨_, _, _, _, E_GREATER_OR_EQUAL_symbol, P_GREATER_OR_EQUAL_symbol_value, F_coder_GREATER_OR_EQUAL_symbol, V_GREATER_OR_EQUAL_symbol_value, Or.inl ⟨rfl, rfl, rfl, by decide⟩, by decide, by decide⟩
  have hC : CHv s consts_1 s.vm s.heap := CHv.start (own_EW hw) (fun q hq => hcalls.1 q hq) (show Jvm.Lit.compactW.before _ s = true from hsets _ (List.mem_of_getElem? (i := 2) rfl)) (wi hw 19 rfl) (wi hw 6 rfl)
  have key : MetFree l x (head1 (Jvm.Cond.code x code maxLocals ret :: tables_1) room_1) (fun a U => a = #[(.int i0), (.int i1), (.int i2), (.int i3)] ∧ s.Warmed39 U.vm ∧ U.heap = s.heap ∧ CHv s consts_1 U.vm s.heap) (fun _ _ _ _ _ => True) (fun _ U o U' => ∃ v L, o = .returned v ∧ Q0 s.heap s.heap.size v U'.heap L ∧ CHr s consts_1 U.vm U.heap U'.vm U'.heap ∧ ReturnedEndW U o U' L room_1.cells room_1.slots) := by
    by_cases k0 : (i0 &&& (3 : Int32)) = 0
    · exact rm0_0n l s _ hw tables_1 i0 i1 i2 i3 i_CS cl_VALUES.cls w_VALUES w_EQUAL w_NOT_EQUAL w_LESS w_GREATER w_LESS_OR_EQUAL w_GREATER_OR_EQUAL w_EQUAL_symbol w_NOT_EQUAL_symbol w_LESS_symbol w_GREATER_symbol w_LESS_OR_EQUAL_symbol w_GREATER_OR_EQUAL_symbol (drawF i1) (drawF i2) (drawF i3) s.heap s.heap.size (Old.start s) S_CS hCS S_VALUES V_VALUES E_VALUES P_EQUAL_symbol P_NOT_EQUAL_symbol P_LESS_symbol P_GREATER_symbol P_LESS_OR_EQUAL_symbol P_GREATER_OR_EQUAL_symbol T_EQUAL_symbol T_NOT_EQUAL_symbol T_LESS_symbol T_GREATER_symbol T_LESS_OR_EQUAL_symbol T_GREATER_OR_EQUAL_symbol S_EQUAL S_NOT_EQUAL S_LESS S_GREATER S_LESS_OR_EQUAL S_GREATER_OR_EQUAL rfl rfl rfl (own_draw i1) (own_draw i2) (own_draw i3) (own_s0 w_EQUAL w_NOT_EQUAL w_LESS w_GREATER w_LESS_OR_EQUAL w_GREATER_OR_EQUAL).symm (own_e0 w_EQUAL w_NOT_EQUAL w_LESS w_GREATER w_LESS_OR_EQUAL w_GREATER_OR_EQUAL _ _ _ (fun z => absurd (k0.symm.trans z) (by decide)) (fun z => absurd (k0.symm.trans z) (by decide))).symm k0
    by_cases k1 : (i0 &&& (3 : Int32)) = 1
    · rcases ref_cases (own_sr w_EQUAL w_NOT_EQUAL w_LESS w_GREATER w_LESS_OR_EQUAL w_GREATER_OR_EQUAL [drawF i1]) with hv | ⟨wr, hv⟩
      · exact rm0_1n l s _ hw tables_1 i0 i1 i2 i3 i_CS cl_VALUES.cls w_VALUES w_EQUAL w_NOT_EQUAL w_LESS w_GREATER w_LESS_OR_EQUAL w_GREATER_OR_EQUAL w_EQUAL_symbol w_NOT_EQUAL_symbol w_LESS_symbol w_GREATER_symbol w_LESS_OR_EQUAL_symbol w_GREATER_OR_EQUAL_symbol (drawF i1) (drawF i2) (drawF i3) s.heap s.heap.size (Old.start s) S_CS hCS S_VALUES V_VALUES E_VALUES P_EQUAL_symbol P_NOT_EQUAL_symbol P_LESS_symbol P_GREATER_symbol P_LESS_OR_EQUAL_symbol P_GREATER_OR_EQUAL_symbol T_EQUAL_symbol T_NOT_EQUAL_symbol T_LESS_symbol T_GREATER_symbol T_LESS_OR_EQUAL_symbol T_GREATER_OR_EQUAL_symbol S_EQUAL S_NOT_EQUAL S_LESS S_GREATER S_LESS_OR_EQUAL S_GREATER_OR_EQUAL rfl rfl rfl (own_draw i1) (own_draw i2) (own_draw i3) hv.symm (by rw [k1, ← own_s1, hv]) k0 k1
      · exact rm0_1r l s _ hw tables_1 i0 i1 i2 i3 i_CS cl_VALUES.cls w_VALUES w_EQUAL w_NOT_EQUAL w_LESS w_GREATER w_LESS_OR_EQUAL w_GREATER_OR_EQUAL w_EQUAL_symbol w_NOT_EQUAL_symbol w_LESS_symbol w_GREATER_symbol w_LESS_OR_EQUAL_symbol w_GREATER_OR_EQUAL_symbol (drawF i1) (drawF i2) (drawF i3) wr s.heap s.heap.size (Old.start s) S_CS hCS S_VALUES V_VALUES E_VALUES P_EQUAL_symbol P_NOT_EQUAL_symbol P_LESS_symbol P_GREATER_symbol P_LESS_OR_EQUAL_symbol P_GREATER_OR_EQUAL_symbol T_EQUAL_symbol T_NOT_EQUAL_symbol T_LESS_symbol T_GREATER_symbol T_LESS_OR_EQUAL_symbol T_GREATER_OR_EQUAL_symbol S_EQUAL S_NOT_EQUAL S_LESS S_GREATER S_LESS_OR_EQUAL S_GREATER_OR_EQUAL rfl rfl rfl (own_draw i1) (own_draw i2) (own_draw i3) hv.symm (by rw [k1, ← own_s1, hv]) k0 k1
    by_cases k2 : (i0 &&& (3 : Int32)) = 2
    · rcases ref_cases (own_sr w_EQUAL w_NOT_EQUAL w_LESS w_GREATER w_LESS_OR_EQUAL w_GREATER_OR_EQUAL [drawF i1, drawF i2]) with hv | ⟨wr, hv⟩
      · exact rm0_2n l s _ hw tables_1 i0 i1 i2 i3 i_CS cl_VALUES.cls w_VALUES w_EQUAL w_NOT_EQUAL w_LESS w_GREATER w_LESS_OR_EQUAL w_GREATER_OR_EQUAL w_EQUAL_symbol w_NOT_EQUAL_symbol w_LESS_symbol w_GREATER_symbol w_LESS_OR_EQUAL_symbol w_GREATER_OR_EQUAL_symbol (drawF i1) (drawF i2) (drawF i3) s.heap s.heap.size (Old.start s) S_CS hCS S_VALUES V_VALUES E_VALUES P_EQUAL_symbol P_NOT_EQUAL_symbol P_LESS_symbol P_GREATER_symbol P_LESS_OR_EQUAL_symbol P_GREATER_OR_EQUAL_symbol T_EQUAL_symbol T_NOT_EQUAL_symbol T_LESS_symbol T_GREATER_symbol T_LESS_OR_EQUAL_symbol T_GREATER_OR_EQUAL_symbol S_EQUAL S_NOT_EQUAL S_LESS S_GREATER S_LESS_OR_EQUAL S_GREATER_OR_EQUAL rfl rfl rfl (own_draw i1) (own_draw i2) (own_draw i3) hv.symm (by rw [k2, ← own_s2, hv]) k0 k1 k2
      · exact rm0_2r l s _ hw tables_1 i0 i1 i2 i3 i_CS cl_VALUES.cls w_VALUES w_EQUAL w_NOT_EQUAL w_LESS w_GREATER w_LESS_OR_EQUAL w_GREATER_OR_EQUAL w_EQUAL_symbol w_NOT_EQUAL_symbol w_LESS_symbol w_GREATER_symbol w_LESS_OR_EQUAL_symbol w_GREATER_OR_EQUAL_symbol (drawF i1) (drawF i2) (drawF i3) wr s.heap s.heap.size (Old.start s) S_CS hCS S_VALUES V_VALUES E_VALUES P_EQUAL_symbol P_NOT_EQUAL_symbol P_LESS_symbol P_GREATER_symbol P_LESS_OR_EQUAL_symbol P_GREATER_OR_EQUAL_symbol T_EQUAL_symbol T_NOT_EQUAL_symbol T_LESS_symbol T_GREATER_symbol T_LESS_OR_EQUAL_symbol T_GREATER_OR_EQUAL_symbol S_EQUAL S_NOT_EQUAL S_LESS S_GREATER S_LESS_OR_EQUAL S_GREATER_OR_EQUAL rfl rfl rfl (own_draw i1) (own_draw i2) (own_draw i3) hv.symm (by rw [k2, ← own_s2, hv]) k0 k1 k2
    · exact rm0_3n l s _ hw tables_1 i0 i1 i2 i3 i_CS cl_VALUES.cls w_VALUES w_EQUAL w_NOT_EQUAL w_LESS w_GREATER w_LESS_OR_EQUAL w_GREATER_OR_EQUAL w_EQUAL_symbol w_NOT_EQUAL_symbol w_LESS_symbol w_GREATER_symbol w_LESS_OR_EQUAL_symbol w_GREATER_OR_EQUAL_symbol (drawF i1) (drawF i2) (drawF i3) s.heap s.heap.size (Old.start s) S_CS hCS S_VALUES V_VALUES E_VALUES P_EQUAL_symbol P_NOT_EQUAL_symbol P_LESS_symbol P_GREATER_symbol P_LESS_OR_EQUAL_symbol P_GREATER_OR_EQUAL_symbol T_EQUAL_symbol T_NOT_EQUAL_symbol T_LESS_symbol T_GREATER_symbol T_LESS_OR_EQUAL_symbol T_GREATER_OR_EQUAL_symbol S_EQUAL S_NOT_EQUAL S_LESS S_GREATER S_LESS_OR_EQUAL S_GREATER_OR_EQUAL rfl rfl rfl (own_draw i1) (own_draw i2) (own_draw i3) (own_s3 w_EQUAL w_NOT_EQUAL w_LESS w_GREATER w_LESS_OR_EQUAL w_GREATER_OR_EQUAL _ _ _).symm (own_e0 w_EQUAL w_NOT_EQUAL w_LESS w_GREATER w_LESS_OR_EQUAL w_GREATER_OR_EQUAL _ _ _ k1 k2).symm k0 k1 k2
  obtain ⟨n, o, h1, h2, h3, _, L, rfl, ⟨rfl, N⟩, -, hq⟩ := key p e ha hc hk s m _ below hf ((Spec.applies_iff_loose hf).mp happ).1 ⟨rfl, State.Warmed39.refl s, rfl, hC⟩ trivial
  refine ⟨n, _, h1, h2, h3, hpost _ _ _ _ _ _ ⟨Cond.after_iff.mpr rfl, Cond.after_iff.mpr (eq_i res_at (Term.int_eval (1)) rfl), trivial⟩ ⟨hq.1, hq.2.1, hq.2.2.1, (hq.2.2.2.sift fun y hy => Or.inr (N y hy)).mono (by decide) (by decide)⟩⟩
theorem main_1_1 : Claimed_1_1 := comes_1 fun _ _ _ _ _ _ h hF => ⟨h.1, hF⟩
theorem main_1_2 : Claimed_1_2 := comes_1 fun _ _ _ _ _ _ h hF => ⟨h.2.1, hF⟩
end Jvm.Pilot.@@N@@
namespace Jvm.Pilot.@@N@@
open Jvm Jvm.ClassFile Sem Op Lib Jvm.Free Jvm.Stand Jvm.Pilot.@@N@@.Jvm.D
/-! MADE BY PROGRAM (witnessworld.py) out of the Statement's table words and the real class files: 22 classes; the members and pool entries that the words name. The judged class is class 1, her method 3. -/
namespace start1
open Jvm.ClassFile
def u (s : String) : CpInfo := .utf8 (stringToUtf16 s)
/-- a pool by its gaps: so many unusable entries, then the entry; so many at the end -/
def gap : Nat → List CpInfo → List CpInfo
  | 0, r => r
  | n + 1, r => .unusable :: gap n r
def poolList (es : List (Nat × CpInfo)) (last : Nat) : List CpInfo := es.foldr (fun e r => gap e.1 (e.2 :: r)) (gap last [])
def pool (es : List (Nat × CpInfo)) (last : Nat) : Array CpInfo := ⟨poolList es last⟩
def fileOf (pool : Array CpInfo) (this : Nat) (attrs : Array Attribute := #[]) (ms : Array MethodInfo := #[]) (fl : Nat := 33) (sup : Nat := 0) (ifs : Array Nat := #[]) (fds : Array FieldInfo := #[]) : ClassFile where
  minorVersion := 0
  majorVersion := 65
  constantPool := pool
  accessFlags := fl
  thisClass := this
  superClass := sup
  interfaces := ifs
  fields := fds
  methods := ms
  attributes := attrs
def plain (name : String) (sup : Option ClassId) : Class where
  name := name
  kind := .ordinary
  loader := none
  accessFlags := 33
  super := sup
  interfaces := #[]
  cf := none
  fields := #[]
  methods := #[]
  instanceTypes := #[]
  staticTypes := #[]
  resolved := #[]
  callSites := []
  init := .initialized
  statics := none
  mirror := none

def pool0 : Array CpInfo := pool [(5, u "<init>"), (0, u "()V"), (1, .class_ 10), (1, u "java/lang/Object"), (85, u "clone"), (0, u "()Ljava/lang/Object;")] 26

def k0c0 : Code := { maxStack := 0, maxLocals := 1, code := object_method_1_code, exceptionTable := #[], attributes := #[] }
def k0m0 : Method := { name := "<init>", desc := "()V", sig := { parameters := [], returnType := none }, accessFlags := 1, code := some k0c0 }
def k0m1 : Method := { name := "clone", desc := "()Ljava/lang/Object;", sig := { parameters := [], returnType := some (.object "java/lang/Object") }, accessFlags := 260, code := none }
/-- java/lang/Object -/
def k0 : Class := { plain "java/lang/Object" none with
  accessFlags := 33
  interfaces := #[]
  cf := some (fileOf pool0 8 #[] #[{ accessFlags := 1, nameIndex := 5, descriptorIndex := 6, attributes := #[] }, { accessFlags := 260, nameIndex := 96, descriptorIndex := 97, attributes := #[] }] 33 0 #[] #[])
  fields := #[]
  methods := #[k0m0, k0m1]
  instanceTypes := #[]
  staticTypes := #[]
  resolved := Array.replicate 124 none
  statics := none }

def pool1 : Array CpInfo := pool [(2, .class_ 4), (1, u "java/lang/Object"), (0, u "<init>"), (0, u "()V"), (0, .fieldref 8 9), (0, .class_ 10), (0, .nameAndType 11 12), (0, u "com/example/plugroot/plugroot/sql/Comparison"), (0, u "EQUAL"), (0, u "Lcom/example/plugroot/plugroot/sql/Comparison;"), (0, .fieldref 8 14), (0, .nameAndType 15 12), (0, u "LESS"), (0, .fieldref 8 17), (0, .nameAndType 18 12), (0, u "GREATER"), (0, .fieldref 8 20), (0, .nameAndType 21 12), (0, u "NOT_EQUAL"), (0, .fieldref 8 23), (0, .nameAndType 24 12), (0, u "LESS_OR_EQUAL"), (0, .fieldref 8 26), (0, .nameAndType 27 12), (0, u "GREATER_OR_EQUAL"), (0, .methodref 29 30), (0, .class_ 31), (0, .nameAndType 32 33), (0, u "com/example/plugroot/plugroot/sql/ComparisonOfPinLaw"), (0, u "draw"), (0, u "(I)C"), (0, .class_ 35), (0, u "java/lang/String"), (0, .methodref 34 37), (0, .nameAndType 5 38), (0, u "([C)V"), (0, .methodref 8 40), (0, .nameAndType 41 42), (0, u "of"), (0, u "(Ljava/lang/String;)Lcom/example/plugroot/plugroot/sql/Comparison;"), (0, .methodref 29 44), (0, .nameAndType 45 46), (0, u "expected"), (0, u "(ICC)Lcom/example/plugroot/plugroot/sql/Comparison;"), (3, u "law"), (0, u "(IIII)Z")] 4

def k1m0 : Method := { name := "<init>", desc := "()V", sig := { parameters := [], returnType := none }, accessFlags := 1, code := none }
def k1c1 : Code := { maxStack := 2, maxLocals := 2, code := method_2_code, exceptionTable := #[], attributes := #[] }
def k1m1 : Method := { name := "draw", desc := "(I)C", sig := { parameters := [.int], returnType := some .char }, accessFlags := 10, code := some k1c1 }
def k1c2 : Code := { maxStack := 2, maxLocals := 3, code := method_3_code, exceptionTable := #[], attributes := #[] }
def k1m2 : Method := { name := "expected", desc := "(ICC)Lcom/example/plugroot/plugroot/sql/Comparison;", sig := { parameters := [.int, .char, .char], returnType := some (.object "com/example/plugroot/plugroot/sql/Comparison") }, accessFlags := 10, code := some k1c2 }
def k1c3 : Code := { maxStack := 4, maxLocals := 11, code := code, exceptionTable := #[], attributes := #[] }
def k1m3 : Method := { name := "law", desc := "(IIII)Z", sig := { parameters := [.int, .int, .int, .int], returnType := some .boolean }, accessFlags := 9, code := some k1c3 }
/-- com/example/plugroot/plugroot/sql/ComparisonOfPinLaw -/
def k1 : Class := { plain "com/example/plugroot/plugroot/sql/ComparisonOfPinLaw" (some 0) with
  accessFlags := 49
  interfaces := #[]
  cf := some (fileOf pool1 29 #[] #[{ accessFlags := 1, nameIndex := 5, descriptorIndex := 6, attributes := #[] }, { accessFlags := 10, nameIndex := 32, descriptorIndex := 33, attributes := #[] }, { accessFlags := 10, nameIndex := 45, descriptorIndex := 46, attributes := #[] }, { accessFlags := 9, nameIndex := 50, descriptorIndex := 51, attributes := #[] }] 49 2 #[] #[])
  fields := #[]
  methods := #[k1m0, k1m1, k1m2, k1m3]
  instanceTypes := #[]
  staticTypes := #[]
  resolved := Array.replicate 56 none
  statics := none }

def pool2 : Array CpInfo := pool [(1, .class_ 2), (0, u "java/io/Serializable"), (0, .class_ 4), (0, u "java/lang/Object")] 2

/-- java/io/Serializable -/
def k2 : Class := { plain "java/io/Serializable" (some 0) with
  accessFlags := 1537
  interfaces := #[]
  cf := some (fileOf pool2 1 #[] #[] 1537 3 #[] #[])
  fields := #[]
  methods := #[]
  instanceTypes := #[]
  staticTypes := #[]
  resolved := Array.replicate 7 none
  statics := none }

def pool3 : Array CpInfo := pool [(1, .class_ 2), (0, u "java/lang/Comparable"), (0, .class_ 4), (0, u "java/lang/Object")] 7

/-- java/lang/Comparable -/
def k3 : Class := { plain "java/lang/Comparable" (some 0) with
  accessFlags := 1537
  interfaces := #[]
  cf := some (fileOf pool3 1 #[] #[] 1537 3 #[] #[])
  fields := #[]
  methods := #[]
  instanceTypes := #[]
  staticTypes := #[]
  resolved := Array.replicate 12 none
  statics := none }

def pool4 : Array CpInfo := pool [(2, .class_ 4), (1, u "java/lang/CharSequence"), (42, .class_ 48), (0, u "java/lang/CharSequence$1CodePointIterator"), (10, .class_ 60), (0, u "java/lang/CharSequence$1CharIterator"), (5, .class_ 67), (0, u "java/lang/Object")] 63

/-- java/lang/CharSequence -/
def k4 : Class := { plain "java/lang/CharSequence" (some 0) with
  accessFlags := 1537
  interfaces := #[]
  cf := some (fileOf pool4 2 #[.nestMembers #[47, 59]] #[] 1537 66 #[] #[])
  fields := #[]
  methods := #[]
  instanceTypes := #[]
  staticTypes := #[]
  resolved := Array.replicate 131 none
  statics := none }

def pool5 : Array CpInfo := pool [(1, .class_ 2), (0, u "java/lang/constant/Constable"), (0, .class_ 4), (0, u "java/lang/Object")] 6

/-- java/lang/constant/Constable -/
def k5 : Class := { plain "java/lang/constant/Constable" (some 0) with
  accessFlags := 1537
  interfaces := #[]
  cf := some (fileOf pool5 1 #[] #[] 1537 3 #[] #[])
  fields := #[]
  methods := #[]
  instanceTypes := #[]
  staticTypes := #[]
  resolved := Array.replicate 11 none
  statics := none }

def pool6 : Array CpInfo := pool [(1, .class_ 2), (0, u "java/lang/constant/ConstantDesc"), (0, .class_ 4), (0, u "java/lang/Object")] 32

/-- java/lang/constant/ConstantDesc -/
def k6 : Class := { plain "java/lang/constant/ConstantDesc" (some 0) with
  accessFlags := 1537
  interfaces := #[]
  cf := some (fileOf pool6 1 #[] #[] 1537 3 #[] #[])
  fields := #[]
  methods := #[]
  instanceTypes := #[]
  staticTypes := #[]
  resolved := Array.replicate 37 none
  statics := none }

def pool7 : Array CpInfo := pool [(1, .methodref 2 3), (0, .class_ 4), (0, .nameAndType 5 6), (0, u "java/lang/Object"), (0, u "<init>"), (0, u "()V"), (0, .string 8), (0, u ""), (0, .fieldref 10 11), (0, .class_ 12), (0, .nameAndType 13 14), (0, u "java/lang/String"), (0, u "value"), (0, u "[B"), (0, .fieldref 10 16), (0, .nameAndType 17 18), (0, u "coder"), (0, u "B"), (2, u "hash"), (0, u "I"), (2, u "hashIsZero"), (0, u "Z"), (0, .methodref 10 28), (0, .nameAndType 5 29), (0, u "([CIILjava/lang/Void;)V"), (8, .fieldref 10 39), (0, .nameAndType 40 26), (0, u "COMPACT_STRINGS"), (1, .class_ 44), (1, u "java/lang/StringUTF16"), (0, u "compress"), (1, .methodref 42 48), (0, .nameAndType 49 50), (0, u "coderFromArrayLen"), (0, u "([BI)B"), (56, .class_ 109), (1, u "java/lang/StringLatin1"), (67, .methodref 42 178), (0, .nameAndType 45 179), (0, u "([CII)[B"), (361, .methodref 107 542), (0, .nameAndType 543 544), (0, u "equals"), (0, u "([B[B)Z"), (28, u "(Ljava/lang/Object;)Z"), (1, .class_ 576), (0, u "java/lang/CharSequence"), (22, u "CASE_INSENSITIVE_ORDER"), (0, u "Ljava/util/Comparator;"), (409, u "([C)V"), (90, u "serialPersistentFields"), (0, u "[Ljava/io/ObjectStreamField;"), (0, .class_ 1104), (0, u "java/lang/String$CaseInsensitiveComparator"), (1, .class_ 1107), (0, u "java/io/Serializable"), (0, .class_ 1109), (0, u "java/lang/Comparable"), (0, .class_ 1111), (0, u "java/lang/constant/Constable"), (0, .class_ 1113), (0, u "java/lang/constant/ConstantDesc"), (2, u "serialVersionUID"), (0, u "J"), (3, u "REPL"), (0, u "C"), (2, u "LATIN1"), (1, u "UTF16")] 323

def k7m0 : Method := { name := "<init>", desc := "()V", sig := { parameters := [], returnType := none }, accessFlags := 1, code := none }
def k7c1 : Code := { maxStack := 5, maxLocals := 2, code := jdk_42_method_3_code, exceptionTable := #[], attributes := #[] }
def k7m1 : Method := { name := "<init>", desc := "([C)V", sig := { parameters := [(.array .char)], returnType := none }, accessFlags := 1, code := some k7c1 }
def k7c2 : Code := { maxStack := 2, maxLocals := 3, code := jdk_42_method_66_code, exceptionTable := #[], attributes := #[] }
def k7m2 : Method := { name := "equals", desc := "(Ljava/lang/Object;)Z", sig := { parameters := [(.object "java/lang/Object")], returnType := some .boolean }, accessFlags := 1, code := some k7c2 }
def k7c3 : Code := { maxStack := 4, maxLocals := 6, code := jdk_42_method_149_code, exceptionTable := #[], attributes := #[] }
def k7m3 : Method := { name := "<init>", desc := "([CIILjava/lang/Void;)V", sig := { parameters := [(.array .char), .int, .int, (.object "java/lang/Void")], returnType := none }, accessFlags := 2, code := some k7c3 }
/-- java/lang/String -/
def k7 : Class := { plain "java/lang/String" (some 0) with
  accessFlags := 49
  interfaces := #[2, 3, 4, 5, 6]
  cf := some (fileOf pool7 10 #[.nestMembers #[1103]] #[{ accessFlags := 1, nameIndex := 5, descriptorIndex := 6, attributes := #[] }, { accessFlags := 1, nameIndex := 5, descriptorIndex := 1010, attributes := #[] }, { accessFlags := 1, nameIndex := 543, descriptorIndex := 573, attributes := #[] }, { accessFlags := 2, nameIndex := 5, descriptorIndex := 29, attributes := #[] }] 49 2 #[1106, 1108, 575, 1110, 1112] #[{ accessFlags := 18, nameIndex := 13, descriptorIndex := 14, attributes := #[] }, { accessFlags := 18, nameIndex := 17, descriptorIndex := 18, attributes := #[] }, { accessFlags := 2, nameIndex := 21, descriptorIndex := 22, attributes := #[] }, { accessFlags := 2, nameIndex := 25, descriptorIndex := 26, attributes := #[] }, { accessFlags := 26, nameIndex := 1116, descriptorIndex := 1117, attributes := #[] }, { accessFlags := 24, nameIndex := 40, descriptorIndex := 26, attributes := #[] }, { accessFlags := 26, nameIndex := 1101, descriptorIndex := 1102, attributes := #[] }, { accessFlags := 26, nameIndex := 1121, descriptorIndex := 1122, attributes := #[] }, { accessFlags := 25, nameIndex := 599, descriptorIndex := 600, attributes := #[] }, { accessFlags := 24, nameIndex := 1125, descriptorIndex := 18, attributes := #[] }, { accessFlags := 24, nameIndex := 1127, descriptorIndex := 18, attributes := #[] }])
  fields := #[{ name := "value", type := (.array .byte), accessFlags := 18, slot := 0, constantValue := 0 }, { name := "coder", type := .byte, accessFlags := 18, slot := 1, constantValue := 0 }, { name := "hash", type := .int, accessFlags := 2, slot := 2, constantValue := 0 }, { name := "hashIsZero", type := .boolean, accessFlags := 2, slot := 3, constantValue := 0 }, { name := "serialVersionUID", type := .long, accessFlags := 26, slot := 0, constantValue := 0 }, { name := "COMPACT_STRINGS", type := .boolean, accessFlags := 24, slot := 1, constantValue := 0 }, { name := "serialPersistentFields", type := (.array (.object "java/io/ObjectStreamField")), accessFlags := 26, slot := 2, constantValue := 0 }, { name := "REPL", type := .char, accessFlags := 26, slot := 3, constantValue := 0 }, { name := "CASE_INSENSITIVE_ORDER", type := (.object "java/util/Comparator"), accessFlags := 25, slot := 4, constantValue := 0 }, { name := "LATIN1", type := .byte, accessFlags := 24, slot := 5, constantValue := 0 }, { name := "UTF16", type := .byte, accessFlags := 24, slot := 6, constantValue := 0 }]
  methods := #[k7m0, k7m1, k7m2, k7m3]
  instanceTypes := #[(.array .byte), .byte, .int, .boolean]
  staticTypes := #[.long, .boolean, (.array (.object "java/io/ObjectStreamField")), .char, (.object "java/util/Comparator"), .byte, .byte]
  resolved := Array.replicate 1451 none
  statics := some 0 }

def pool8 : Array CpInfo := pool [(2, .class_ 4), (1, u "java/lang/Enum"), (0, u "name"), (0, u "Ljava/lang/String;"), (2, u "ordinal"), (0, u "I"), (1, .class_ 14), (1, u "java/lang/Object"), (4, u "hash"), (86, .class_ 108), (1, u "java/lang/Enum$EnumDesc"), (2, .class_ 112), (0, u "java/lang/constant/Constable"), (0, .class_ 114), (0, u "java/lang/Comparable"), (0, .class_ 116), (0, u "java/io/Serializable")] 87

/-- java/lang/Enum -/
def k8 : Class := { plain "java/lang/Enum" (some 0) with
  accessFlags := 1057
  interfaces := #[5, 3, 2]
  cf := some (fileOf pool8 2 #[.nestMembers #[106]] #[] 1057 12 #[111, 113, 115] #[{ accessFlags := 18, nameIndex := 5, descriptorIndex := 6, attributes := #[] }, { accessFlags := 18, nameIndex := 9, descriptorIndex := 10, attributes := #[] }, { accessFlags := 2, nameIndex := 19, descriptorIndex := 10, attributes := #[] }])
  fields := #[{ name := "name", type := (.object "java/lang/String"), accessFlags := 18, slot := 0, constantValue := 0 }, { name := "ordinal", type := .int, accessFlags := 18, slot := 1, constantValue := 0 }, { name := "hash", type := .int, accessFlags := 2, slot := 2, constantValue := 0 }]
  methods := #[]
  instanceTypes := #[(.object "java/lang/String"), .int, .int]
  staticTypes := #[]
  resolved := Array.replicate 204 none
  statics := none }

def pool9 : Array CpInfo := pool [(1, .class_ 2), (0, u "com/example/plugroot/plugroot/sql/Comparison"), (2, u "EQUAL"), (0, u "Lcom/example/plugroot/plugroot/sql/Comparison;"), (2, u "NOT_EQUAL"), (2, u "LESS"), (2, u "GREATER"), (2, u "LESS_OR_EQUAL"), (2, u "GREATER_OR_EQUAL"), (0, .fieldref 1 23), (0, .nameAndType 24 25), (0, u "$VALUES"), (0, u "[Lcom/example/plugroot/plugroot/sql/Comparison;"), (0, .methodref 27 28), (0, .class_ 25), (0, .nameAndType 29 30), (0, u "clone"), (0, u "()Ljava/lang/Object;"), (1, .class_ 34), (1, u "java/lang/Enum"), (6, .fieldref 1 42), (0, .nameAndType 43 44), (0, u "symbol"), (0, u "Ljava/lang/String;"), (0, .string 46), (0, u "!="), (0, .methodref 48 49), (0, .class_ 50), (0, .nameAndType 51 52), (0, u "java/lang/String"), (0, u "equals"), (0, u "(Ljava/lang/Object;)Z"), (0, .string 54), (0, u "<>"), (0, .methodref 1 56), (0, .nameAndType 57 58), (0, u "values"), (0, u "()[Lcom/example/plugroot/plugroot/sql/Comparison;"), (33, u "(Ljava/lang/String;)Lcom/example/plugroot/plugroot/sql/Comparison;"), (3, u "of")] 8

def k9c0 : Code := { maxStack := 1, maxLocals := 0, code := prog_73_method_1_code, exceptionTable := #[], attributes := #[] }
def k9m0 : Method := { name := "values", desc := "()[Lcom/example/plugroot/plugroot/sql/Comparison;", sig := { parameters := [], returnType := some (.array (.object "com/example/plugroot/plugroot/sql/Comparison")) }, accessFlags := 9, code := some k9c0 }
def k9c1 : Code := { maxStack := 2, maxLocals := 6, code := prog_73_method_4_code, exceptionTable := #[], attributes := #[] }
def k9m1 : Method := { name := "of", desc := "(Ljava/lang/String;)Lcom/example/plugroot/plugroot/sql/Comparison;", sig := { parameters := [(.object "java/lang/String")], returnType := some (.object "com/example/plugroot/plugroot/sql/Comparison") }, accessFlags := 8, code := some k9c1 }
/-- com/example/plugroot/plugroot/sql/Comparison -/
def k9 : Class := { plain "com/example/plugroot/plugroot/sql/Comparison" (some 8) with
  accessFlags := 16433
  interfaces := #[]
  cf := some (fileOf pool9 1 #[] #[{ accessFlags := 9, nameIndex := 57, descriptorIndex := 58, attributes := #[] }, { accessFlags := 8, nameIndex := 96, descriptorIndex := 92, attributes := #[] }] 16433 32 #[] #[{ accessFlags := 16409, nameIndex := 5, descriptorIndex := 6, attributes := #[] }, { accessFlags := 16409, nameIndex := 9, descriptorIndex := 6, attributes := #[] }, { accessFlags := 16409, nameIndex := 12, descriptorIndex := 6, attributes := #[] }, { accessFlags := 16409, nameIndex := 15, descriptorIndex := 6, attributes := #[] }, { accessFlags := 16409, nameIndex := 18, descriptorIndex := 6, attributes := #[] }, { accessFlags := 16409, nameIndex := 21, descriptorIndex := 6, attributes := #[] }, { accessFlags := 18, nameIndex := 43, descriptorIndex := 44, attributes := #[] }, { accessFlags := 4122, nameIndex := 24, descriptorIndex := 25, attributes := #[] }])
  fields := #[{ name := "EQUAL", type := (.object "com/example/plugroot/plugroot/sql/Comparison"), accessFlags := 16409, slot := 0, constantValue := 0 }, { name := "NOT_EQUAL", type := (.object "com/example/plugroot/plugroot/sql/Comparison"), accessFlags := 16409, slot := 1, constantValue := 0 }, { name := "LESS", type := (.object "com/example/plugroot/plugroot/sql/Comparison"), accessFlags := 16409, slot := 2, constantValue := 0 }, { name := "GREATER", type := (.object "com/example/plugroot/plugroot/sql/Comparison"), accessFlags := 16409, slot := 3, constantValue := 0 }, { name := "LESS_OR_EQUAL", type := (.object "com/example/plugroot/plugroot/sql/Comparison"), accessFlags := 16409, slot := 4, constantValue := 0 }, { name := "GREATER_OR_EQUAL", type := (.object "com/example/plugroot/plugroot/sql/Comparison"), accessFlags := 16409, slot := 5, constantValue := 0 }, { name := "symbol", type := (.object "java/lang/String"), accessFlags := 18, slot := 3, constantValue := 0 }, { name := "$VALUES", type := (.array (.object "com/example/plugroot/plugroot/sql/Comparison")), accessFlags := 4122, slot := 6, constantValue := 0 }]
  methods := #[k9m0, k9m1]
  instanceTypes := #[(.object "java/lang/String"), .int, .int, (.object "java/lang/String")]
  staticTypes := #[(.object "com/example/plugroot/plugroot/sql/Comparison"), (.object "com/example/plugroot/plugroot/sql/Comparison"), (.object "com/example/plugroot/plugroot/sql/Comparison"), (.object "com/example/plugroot/plugroot/sql/Comparison"), (.object "com/example/plugroot/plugroot/sql/Comparison"), (.object "com/example/plugroot/plugroot/sql/Comparison"), (.array (.object "com/example/plugroot/plugroot/sql/Comparison"))]
  resolved := Array.replicate 105 none
  statics := some 1 }

def pool10 : Array CpInfo := pool [(4, .class_ 6), (1, u "java/lang/Object"), (0, u "<init>"), (0, u "()V"), (5, .class_ 16), (1, u "java/lang/StringLatin1"), (104, u "$assertionsDisabled"), (0, u "Z"), (98, .class_ 223), (1, u "java/lang/StringLatin1$LinesSpliterator"), (57, u "equals"), (0, u "([B[B)Z"), (107, .class_ 391), (0, u "java/lang/StringLatin1$CharsSpliterator")] 3

def k10m0 : Method := { name := "<init>", desc := "()V", sig := { parameters := [], returnType := none }, accessFlags := 0, code := none }
def k10c1 : Code := { maxStack := 3, maxLocals := 3, code := jdk_43_method_13_code, exceptionTable := #[], attributes := #[] }
def k10m1 : Method := { name := "equals", desc := "([B[B)Z", sig := { parameters := [(.array .byte), (.array .byte)], returnType := some .boolean }, accessFlags := 9, code := some k10c1 }
/-- java/lang/StringLatin1 -/
def k10 : Class := { plain "java/lang/StringLatin1" (some 0) with
  accessFlags := 48
  interfaces := #[]
  cf := some (fileOf pool10 14 #[.nestMembers #[390, 221]] #[{ accessFlags := 0, nameIndex := 7, descriptorIndex := 8, attributes := #[] }, { accessFlags := 9, nameIndex := 281, descriptorIndex := 282, attributes := #[] }] 48 4 #[] #[{ accessFlags := 4120, nameIndex := 121, descriptorIndex := 122, attributes := #[] }])
  fields := #[{ name := "$assertionsDisabled", type := .boolean, accessFlags := 4120, slot := 0, constantValue := 0 }]
  methods := #[k10m0, k10m1]
  instanceTypes := #[]
  staticTypes := #[.boolean]
  resolved := Array.replicate 395 none
  statics := none }

def pool11 : Array CpInfo := pool [(1, .class_ 2), (0, u "java/lang/Cloneable"), (0, .class_ 4), (0, u "java/lang/Object")] 2

/-- java/lang/Cloneable -/
def k11 : Class := { plain "java/lang/Cloneable" (some 0) with
  accessFlags := 1537
  interfaces := #[]
  cf := some (fileOf pool11 1 #[] #[] 1537 3 #[] #[])
  fields := #[]
  methods := #[]
  instanceTypes := #[]
  staticTypes := #[]
  resolved := Array.replicate 7 none
  statics := none }

def pool12 : Array CpInfo := pool [(6, .class_ 8), (1, u "java/lang/Object"), (0, u "<init>"), (0, u "()V"), (1, .class_ 14), (1, u "java/lang/StringUTF16"), (31, u "$assertionsDisabled"), (0, u "Z"), (13, u "HI_BYTE_SHIFT"), (0, u "I"), (2, u "LO_BYTE_SHIFT"), (49, .methodref 12 116), (0, .nameAndType 117 118), (0, u "compress"), (0, u "([CI[BII)I"), (3, u "([CII)[B"), (138, u "coderFromArrayLen"), (0, u "([BI)B"), (106, .class_ 371), (1, u "java/lang/StringUTF16$LinesSpliterator"), (58, u "MAX_LENGTH"), (196, .class_ 628), (0, u "java/lang/StringUTF16$CodePointsSpliterator"), (0, .class_ 630), (0, u "java/lang/StringUTF16$CharsSpliterator")] 4

def k12m0 : Method := { name := "<init>", desc := "()V", sig := { parameters := [], returnType := none }, accessFlags := 0, code := none }
def k12c1 : Code := { maxStack := 2, maxLocals := 2, code := jdk_52_method_15_code, exceptionTable := #[], attributes := #[] }
def k12m1 : Method := { name := "coderFromArrayLen", desc := "([BI)B", sig := { parameters := [(.array .byte), .int], returnType := some .byte }, accessFlags := 8, code := some k12c1 }
def k12c2 : Code := { maxStack := 5, maxLocals := 6, code := jdk_52_method_16_code, exceptionTable := #[], attributes := #[] }
def k12m2 : Method := { name := "compress", desc := "([CII)[B", sig := { parameters := [(.array .char), .int, .int], returnType := some (.array .byte) }, accessFlags := 9, code := some k12c2 }
def k12c3 : Code := { maxStack := 3, maxLocals := 7, code := jdk_52_method_21_code, exceptionTable := #[], attributes := #[] }
def k12m3 : Method := { name := "compress", desc := "([CI[BII)I", sig := { parameters := [(.array .char), .int, (.array .byte), .int, .int], returnType := some .int }, accessFlags := 9, code := some k12c3 }
/-- java/lang/StringUTF16 -/
def k12 : Class := { plain "java/lang/StringUTF16" (some 0) with
  accessFlags := 48
  interfaces := #[]
  cf := some (fileOf pool12 12 #[.nestMembers #[627, 629, 369]] #[{ accessFlags := 0, nameIndex := 9, descriptorIndex := 10, attributes := #[] }, { accessFlags := 8, nameIndex := 261, descriptorIndex := 262, attributes := #[] }, { accessFlags := 9, nameIndex := 117, descriptorIndex := 122, attributes := #[] }, { accessFlags := 9, nameIndex := 117, descriptorIndex := 118, attributes := #[] }] 48 6 #[] #[{ accessFlags := 26, nameIndex := 61, descriptorIndex := 62, attributes := #[] }, { accessFlags := 26, nameIndex := 65, descriptorIndex := 62, attributes := #[] }, { accessFlags := 24, nameIndex := 430, descriptorIndex := 62, attributes := #[] }, { accessFlags := 4120, nameIndex := 46, descriptorIndex := 47, attributes := #[] }])
  fields := #[{ name := "HI_BYTE_SHIFT", type := .int, accessFlags := 26, slot := 0, constantValue := 0 }, { name := "LO_BYTE_SHIFT", type := .int, accessFlags := 26, slot := 1, constantValue := 0 }, { name := "MAX_LENGTH", type := .int, accessFlags := 24, slot := 2, constantValue := 0 }, { name := "$assertionsDisabled", type := .boolean, accessFlags := 4120, slot := 3, constantValue := 0 }]
  methods := #[k12m0, k12m1, k12m2, k12m3]
  instanceTypes := #[]
  staticTypes := #[.int, .int, .int, .boolean]
  resolved := Array.replicate 635 none
  statics := none }

def pool13 : Array CpInfo := pool [(2, .class_ 4), (1, u "java/lang/Object"), (0, u "<init>"), (0, u "()V"), (17, .class_ 26), (1, u "jdk/internal/util/Preconditions"), (28, .class_ 56), (0, u "jdk/internal/util/Preconditions$4"), (57, .class_ 115), (0, u "jdk/internal/util/Preconditions$1"), (7, u "SIOOBE_FORMATTER"), (0, u "Ljava/util/function/BiFunction;"), (0, .class_ 126), (0, u "jdk/internal/util/Preconditions$2"), (3, u "AIOOBE_FORMATTER"), (0, .class_ 132), (0, u "jdk/internal/util/Preconditions$3"), (3, u "IOOBE_FORMATTER")] 57

def k13m0 : Method := { name := "<init>", desc := "()V", sig := { parameters := [], returnType := none }, accessFlags := 1, code := none }
/-- jdk/internal/util/Preconditions -/
def k13 : Class := { plain "jdk/internal/util/Preconditions" (some 0) with
  accessFlags := 33
  interfaces := #[]
  cf := some (fileOf pool13 24 #[.nestMembers #[55, 131, 125, 114]] #[{ accessFlags := 1, nameIndex := 5, descriptorIndex := 6, attributes := #[] }] 33 2 #[] #[{ accessFlags := 25, nameIndex := 123, descriptorIndex := 124, attributes := #[] }, { accessFlags := 25, nameIndex := 130, descriptorIndex := 124, attributes := #[] }, { accessFlags := 25, nameIndex := 136, descriptorIndex := 124, attributes := #[] }])
  fields := #[{ name := "SIOOBE_FORMATTER", type := (.object "java/util/function/BiFunction"), accessFlags := 25, slot := 0, constantValue := 0 }, { name := "AIOOBE_FORMATTER", type := (.object "java/util/function/BiFunction"), accessFlags := 25, slot := 1, constantValue := 0 }, { name := "IOOBE_FORMATTER", type := (.object "java/util/function/BiFunction"), accessFlags := 25, slot := 2, constantValue := 0 }]
  methods := #[k13m0]
  instanceTypes := #[]
  staticTypes := #[(.object "java/util/function/BiFunction"), (.object "java/util/function/BiFunction"), (.object "java/util/function/BiFunction")]
  resolved := Array.replicate 194 none
  statics := some 2 }

def pool14 : Array CpInfo := pool [(9, u "<init>"), (6, .class_ 18), (1, u "java/lang/Object"), (0, u "()V"), (1, .class_ 23), (1, u "jdk/internal/util/ArraysSupport"), (0, u "LOG2_ARRAY_LONG_INDEX_SCALE"), (0, u "I"), (2, u "U"), (0, u "Ljdk/internal/misc/Unsafe;"), (8, u "BIG_ENDIAN"), (0, u "Z"), (8, u "LOG2_BYTE_BIT_SIZE"), (4, u "LOG2_ARRAY_INT_INDEX_SCALE"), (54, u "JLA"), (0, u "Ljdk/internal/access/JavaLangAccess;"), (11, u "LOG2_ARRAY_BOOLEAN_INDEX_SCALE"), (9, u "LOG2_ARRAY_BYTE_INDEX_SCALE"), (5, u "LOG2_ARRAY_CHAR_INDEX_SCALE"), (5, u "LOG2_ARRAY_SHORT_INDEX_SCALE"), (18, u "LOG2_ARRAY_FLOAT_INDEX_SCALE"), (24, u "LOG2_ARRAY_DOUBLE_INDEX_SCALE"), (89, u "T_BOOLEAN"), (2, u "T_CHAR"), (1, u "T_FLOAT"), (1, u "T_DOUBLE"), (1, u "T_BYTE"), (1, u "T_SHORT"), (1, u "T_INT"), (1, u "T_LONG"), (1, u "SOFT_MAX_ARRAY_LENGTH")] 83

def k14m0 : Method := { name := "<init>", desc := "()V", sig := { parameters := [], returnType := none }, accessFlags := 2, code := none }
/-- jdk/internal/util/ArraysSupport -/
def k14 : Class := { plain "jdk/internal/util/ArraysSupport" (some 0) with
  accessFlags := 33
  interfaces := #[]
  cf := some (fileOf pool14 21 #[] #[{ accessFlags := 2, nameIndex := 9, descriptorIndex := 19, attributes := #[] }] 33 16 #[] #[{ accessFlags := 24, nameIndex := 28, descriptorIndex := 29, attributes := #[] }, { accessFlags := 26, nameIndex := 38, descriptorIndex := 39, attributes := #[] }, { accessFlags := 25, nameIndex := 121, descriptorIndex := 25, attributes := #[] }, { accessFlags := 25, nameIndex := 131, descriptorIndex := 25, attributes := #[] }, { accessFlags := 25, nameIndex := 137, descriptorIndex := 25, attributes := #[] }, { accessFlags := 25, nameIndex := 143, descriptorIndex := 25, attributes := #[] }, { accessFlags := 25, nameIndex := 53, descriptorIndex := 25, attributes := #[] }, { accessFlags := 25, nameIndex := 24, descriptorIndex := 25, attributes := #[] }, { accessFlags := 25, nameIndex := 162, descriptorIndex := 25, attributes := #[] }, { accessFlags := 25, nameIndex := 187, descriptorIndex := 25, attributes := #[] }, { accessFlags := 26, nameIndex := 48, descriptorIndex := 25, attributes := #[] }, { accessFlags := 25, nameIndex := 277, descriptorIndex := 25, attributes := #[] }, { accessFlags := 25, nameIndex := 280, descriptorIndex := 25, attributes := #[] }, { accessFlags := 25, nameIndex := 282, descriptorIndex := 25, attributes := #[] }, { accessFlags := 25, nameIndex := 284, descriptorIndex := 25, attributes := #[] }, { accessFlags := 25, nameIndex := 286, descriptorIndex := 25, attributes := #[] }, { accessFlags := 25, nameIndex := 288, descriptorIndex := 25, attributes := #[] }, { accessFlags := 25, nameIndex := 290, descriptorIndex := 25, attributes := #[] }, { accessFlags := 25, nameIndex := 292, descriptorIndex := 25, attributes := #[] }, { accessFlags := 26, nameIndex := 108, descriptorIndex := 109, attributes := #[] }, { accessFlags := 25, nameIndex := 294, descriptorIndex := 25, attributes := #[] }])
  fields := #[{ name := "U", type := (.object "jdk/internal/misc/Unsafe"), accessFlags := 24, slot := 0, constantValue := 0 }, { name := "BIG_ENDIAN", type := .boolean, accessFlags := 26, slot := 1, constantValue := 0 }, { name := "LOG2_ARRAY_BOOLEAN_INDEX_SCALE", type := .int, accessFlags := 25, slot := 2, constantValue := 0 }, { name := "LOG2_ARRAY_BYTE_INDEX_SCALE", type := .int, accessFlags := 25, slot := 3, constantValue := 0 }, { name := "LOG2_ARRAY_CHAR_INDEX_SCALE", type := .int, accessFlags := 25, slot := 4, constantValue := 0 }, { name := "LOG2_ARRAY_SHORT_INDEX_SCALE", type := .int, accessFlags := 25, slot := 5, constantValue := 0 }, { name := "LOG2_ARRAY_INT_INDEX_SCALE", type := .int, accessFlags := 25, slot := 6, constantValue := 0 }, { name := "LOG2_ARRAY_LONG_INDEX_SCALE", type := .int, accessFlags := 25, slot := 7, constantValue := 0 }, { name := "LOG2_ARRAY_FLOAT_INDEX_SCALE", type := .int, accessFlags := 25, slot := 8, constantValue := 0 }, { name := "LOG2_ARRAY_DOUBLE_INDEX_SCALE", type := .int, accessFlags := 25, slot := 9, constantValue := 0 }, { name := "LOG2_BYTE_BIT_SIZE", type := .int, accessFlags := 26, slot := 10, constantValue := 0 }, { name := "T_BOOLEAN", type := .int, accessFlags := 25, slot := 11, constantValue := 0 }, { name := "T_CHAR", type := .int, accessFlags := 25, slot := 12, constantValue := 0 }, { name := "T_FLOAT", type := .int, accessFlags := 25, slot := 13, constantValue := 0 }, { name := "T_DOUBLE", type := .int, accessFlags := 25, slot := 14, constantValue := 0 }, { name := "T_BYTE", type := .int, accessFlags := 25, slot := 15, constantValue := 0 }, { name := "T_SHORT", type := .int, accessFlags := 25, slot := 16, constantValue := 0 }, { name := "T_INT", type := .int, accessFlags := 25, slot := 17, constantValue := 0 }, { name := "T_LONG", type := .int, accessFlags := 25, slot := 18, constantValue := 0 }, { name := "JLA", type := (.object "jdk/internal/access/JavaLangAccess"), accessFlags := 26, slot := 19, constantValue := 0 }, { name := "SOFT_MAX_ARRAY_LENGTH", type := .int, accessFlags := 25, slot := 20, constantValue := 0 }]
  methods := #[k14m0]
  instanceTypes := #[]
  staticTypes := #[(.object "jdk/internal/misc/Unsafe"), .boolean, .int, .int, .int, .int, .int, .int, .int, .int, .int, .int, .int, .int, .int, .int, .int, .int, .int, (.object "jdk/internal/access/JavaLangAccess"), .int]
  resolved := Array.replicate 378 none
  statics := none }

/-- the primitive byte -/
def k15 : Class := { plain "byte" none with kind := .primitive 'B', accessFlags := 0x411 }
/-- [B -/
def k16 : Class := { plain "[B" (some 0) with kind := .array 15 .byte, interfaces := #[11, 2], accessFlags := 1041 }

/-- the primitive char -/
def k17 : Class := { plain "char" none with kind := .primitive 'C', accessFlags := 0x411 }
/-- [C -/
def k18 : Class := { plain "[C" (some 0) with kind := .array 17 .char, interfaces := #[11, 2], accessFlags := 1041 }

/-- the primitive int -/
def k19 : Class := { plain "int" none with kind := .primitive 'I', accessFlags := 0x411 }
/-- [I -/
def k20 : Class := { plain "[I" (some 0) with kind := .array 19 .int, interfaces := #[11, 2], accessFlags := 1041 }

/-- [Lcom/example/plugroot/plugroot/sql/Comparison; -/
def k21 : Class := { plain "[Lcom/example/plugroot/plugroot/sql/Comparison;" (some 0) with kind := .array 9 (.object "com/example/plugroot/plugroot/sql/Comparison"), interfaces := #[11, 2], accessFlags := 1041 }

def heap : Heap := #[{ cls := 7, slots := #[.long 0, .int 1, .null, .int 0, .null, .int 0, .int 0], vm := .statics 7 },
  { cls := 9, slots := #[.ref 4, .ref 5, .ref 6, .ref 7, .ref 8, .ref 9, .ref 3], vm := .statics 9 },
  { cls := 13, slots := #[.null, .null, .null], vm := .statics 13 },
  { cls := 21, slots := #[.ref 4, .ref 5, .ref 6, .ref 7, .ref 8, .ref 9], vm := .none },
  { cls := 9, slots := #[.null, .int 0, .int 0, .ref 10], vm := .none },
  { cls := 9, slots := #[.null, .int 0, .int 0, .ref 12], vm := .none },
  { cls := 9, slots := #[.null, .int 0, .int 0, .ref 14], vm := .none },
  { cls := 9, slots := #[.null, .int 0, .int 0, .ref 16], vm := .none },
  { cls := 9, slots := #[.null, .int 0, .int 0, .ref 18], vm := .none },
  { cls := 9, slots := #[.null, .int 0, .int 0, .ref 20], vm := .none },
  { cls := 7, slots := #[.ref 11, .int 0, .int 0, .int 0], vm := .none },
  { cls := 16, slots := #[.int 61], vm := .none },
  { cls := 7, slots := #[.ref 13, .int 0, .int 0, .int 0], vm := .none },
  { cls := 16, slots := #[.int 60, .int 62], vm := .none },
  { cls := 7, slots := #[.ref 15, .int 0, .int 0, .int 0], vm := .none },
  { cls := 16, slots := #[.int 60], vm := .none },
  { cls := 7, slots := #[.ref 17, .int 0, .int 0, .int 0], vm := .none },
  { cls := 16, slots := #[.int 62], vm := .none },
  { cls := 7, slots := #[.ref 19, .int 0, .int 0, .int 0], vm := .none },
  { cls := 16, slots := #[.int 60, .int 61], vm := .none },
  { cls := 7, slots := #[.ref 21, .int 0, .int 0, .int 0], vm := .none },
  { cls := 16, slots := #[.int 62, .int 61], vm := .none }]
def classes : Array Class := #[k0, k1, k2, k3, k4, k5, k6, k7, k8, k9, k10, k11, k12, k13, k14, k15, k16, k17, k18, k19, k20, k21]
def interned : List (Array UInt16 × Addr) := []
def slotsUsed : Nat := 80
def theMethod : MethodId := ⟨1, 3⟩
def args0 : Array Value := #[.int 5, .int 5, .int 5, .int 5]
def aboutOver (below : List Frame) : State where
  vm := { classes := classes, interned := interned.toArray }
  heap := heap
  slotsUsed := slotsUsed
  threads := #[{ frames := .invoking theMethod args0 :: below }]
def below0 : List Frame := [.native { method := ⟨0, 0⟩, args := #[] }]
def about1 : State := aboutOver below0
def p0 : Program := .bare "" "" ""
def e0 : Env := launch0.env 0 0 0
theorem w_frames : about1.frames = Frame.invoking theMethod args0 :: below0 := rfl
set_option maxRecDepth 65536 in
theorem w_args : argsFit about1.vm theMethod args0 = true := by decide +kernel
set_option maxRecDepth 65536 in
theorem w_heap : heapFits about1 = true := by decide +kernel
set_option maxRecDepth 65536 in
theorem w_runnable : about1.curStatus? = some .runnable := by decide +kernel
set_option maxRecDepth 65536 in
theorem w_alone : about1.alone = true := by decide +kernel
set_option maxRecDepth 65536 in
theorem w_named : about1.methodNamed? x = some theMethod := by decide +kernel
set_option maxRecDepth 65536 in
theorem w_hears : about1.hears theMethod below0 = true := by decide +kernel
set_option maxRecDepth 65536 in
theorem w_ripe : about1.ripe theMethod args0 below0 = true := by decide +kernel
theorem w_running : about1.status = .running := rfl
set_option maxRecDepth 65536 in
theorem w_room : about1.hasRoom e0.platform room_1 = true :=
  launch0.hasRoom_least _ room_1 (by decide +kernel) (by decide +kernel) (by decide +kernel) (by decide +kernel) (by decide +kernel) (by decide +kernel)
theorem allAtoms_all (ts : List Jvm.Cond) (a : Array Jvm.Value) (st : Jvm.State) : (allAtoms ts).before a st = ts.all (fun c => c.before a st) := by
  induction ts with
  | nil => rfl
  | cons c t ih =>
    show (Jvm.Cond.and c (allAtoms t)).before a st = _
    rw [Jvm.Cond.before_and, ih, List.all_cons]
def words1 : List Jvm.Cond := Jvm.Cond.code x code maxLocals ret :: tables_1
/-- a 'code' word, met by the world's own term for the bytes: nothing is compared byte by byte -/
theorem code_word {y : MethodName} {bytes : ByteArray} {mx : Nat} {rt : Option FieldType} {a : Array Value} {s : State} {m : MethodId} {meth : Method} {c : Code} (h1 : s.methodNamed? y = some m) (h2 : s.vm.method? m = some meth) (h3 : meth.code = some c) (h4 : c.code = bytes)
    (h5 : (c.maxLocals == mx && c.exceptionTable.isEmpty && decide (c.maxStack ≤ mostOperands) && decide (meth.sig.returnType = rt) && !meth.locks && decide (parseMethodDescriptor y.desc = some meth.sig)) = true) : (Jvm.Cond.code y bytes mx rt).before a s = true := by
  simp only [Bool.and_eq_true, beq_iff_eq, Bool.not_eq_true', decide_eq_true_eq] at h5
  obtain ⟨⟨⟨⟨⟨g1, g2⟩, g3⟩, g4⟩, g5⟩, g6⟩ := h5
  simp [Cond.before, Cond.holds, Cond.value, h1, h2, h3, h4, g1, g2, g3, g4, g5, g6]
def isCode : Jvm.Cond → Bool
  | .code _ _ _ _ => true
  | _ => false
theorem all_split {L : List Jvm.Cond} {P : Jvm.Cond → Bool} (h1 : L.all (fun c => isCode c || P c) = true) (h2 : ∀ c ∈ L.filter isCode, P c = true) : L.all P = true := by
  refine List.all_eq_true.mpr fun c hc => ?_
  have h := List.all_eq_true.mp h1 c hc
  rcases Bool.eq_false_or_eq_true (isCode c) with hi | hi
  · exact h2 c (List.mem_filter.mpr ⟨hc, hi⟩)
  · simpa [hi] using h
set_option maxRecDepth 65536 in
theorem w_c0 : (Jvm.Cond.code x code maxLocals ret).before args0 about1 = true := code_word (m := ⟨1, 3⟩) (meth := k1m3) (c := k1c3) (by decide +kernel) rfl rfl rfl (by decide +kernel)
set_option maxRecDepth 65536 in
theorem w_c1 : (Jvm.Cond.code ({ cls := "com/example/plugroot/plugroot/sql/ComparisonOfPinLaw", name := "draw", desc := "(I)C" } : Jvm.MethodName) method_2_code (2 : Nat) (Option.some Jvm.ClassFile.FieldType.char)).before args0 about1 = true := code_word (m := ⟨1, 1⟩) (meth := k1m1) (c := k1c1) (by decide +kernel) rfl rfl rfl (by decide +kernel)
set_option maxRecDepth 65536 in
theorem w_c2 : (Jvm.Cond.code ({ cls := "java/lang/String", name := "<init>", desc := "([C)V" } : Jvm.MethodName) jdk_42_method_3_code (2 : Nat) (Option.none : Option Jvm.ClassFile.FieldType)).before args0 about1 = true := code_word (m := ⟨7, 1⟩) (meth := k7m1) (c := k7c1) (by decide +kernel) rfl rfl rfl (by decide +kernel)
set_option maxRecDepth 65536 in
theorem w_c3 : (Jvm.Cond.code ({ cls := "java/lang/String", name := "<init>", desc := "([CIILjava/lang/Void;)V" } : Jvm.MethodName) jdk_42_method_149_code (6 : Nat) (Option.none : Option Jvm.ClassFile.FieldType)).before args0 about1 = true := code_word (m := ⟨7, 3⟩) (meth := k7m3) (c := k7c3) (by decide +kernel) rfl rfl rfl (by decide +kernel)
set_option maxRecDepth 65536 in
theorem w_c4 : (Jvm.Cond.code ({ cls := "java/lang/Object", name := "<init>", desc := "()V" } : Jvm.MethodName) object_method_1_code (1 : Nat) (Option.none : Option Jvm.ClassFile.FieldType)).before args0 about1 = true := code_word (m := ⟨0, 0⟩) (meth := k0m0) (c := k0c0) (by decide +kernel) rfl rfl rfl (by decide +kernel)
set_option maxRecDepth 65536 in
theorem w_c5 : (Jvm.Cond.code ({ cls := "com/example/plugroot/plugroot/sql/Comparison", name := "of", desc := "(Ljava/lang/String;)Lcom/example/plugroot/plugroot/sql/Comparison;" } : Jvm.MethodName) prog_73_method_4_code (6 : Nat) (Option.some (Jvm.ClassFile.FieldType.object "com/example/plugroot/plugroot/sql/Comparison"))).before args0 about1 = true := code_word (m := ⟨9, 1⟩) (meth := k9m1) (c := k9c1) (by decide +kernel) rfl rfl rfl (by decide +kernel)
set_option maxRecDepth 65536 in
theorem w_c6 : (Jvm.Cond.code ({ cls := "java/lang/String", name := "equals", desc := "(Ljava/lang/Object;)Z" } : Jvm.MethodName) jdk_42_method_66_code (3 : Nat) (Option.some Jvm.ClassFile.FieldType.boolean)).before args0 about1 = true := code_word (m := ⟨7, 2⟩) (meth := k7m2) (c := k7c2) (by decide +kernel) rfl rfl rfl (by decide +kernel)
set_option maxRecDepth 65536 in
theorem w_c7 : (Jvm.Cond.code ({ cls := "java/lang/StringLatin1", name := "equals", desc := "([B[B)Z" } : Jvm.MethodName) jdk_43_method_13_code (3 : Nat) (Option.some Jvm.ClassFile.FieldType.boolean)).before args0 about1 = true := code_word (m := ⟨10, 1⟩) (meth := k10m1) (c := k10c1) (by decide +kernel) rfl rfl rfl (by decide +kernel)
set_option maxRecDepth 65536 in
theorem w_c8 : (Jvm.Cond.code ({ cls := "com/example/plugroot/plugroot/sql/Comparison", name := "values", desc := "()[Lcom/example/plugroot/plugroot/sql/Comparison;" } : Jvm.MethodName) prog_73_method_1_code (0 : Nat) (Option.some (Jvm.ClassFile.FieldType.array (Jvm.ClassFile.FieldType.object "com/example/plugroot/plugroot/sql/Comparison")))).before args0 about1 = true := code_word (m := ⟨9, 0⟩) (meth := k9m0) (c := k9c0) (by decide +kernel) rfl rfl rfl (by decide +kernel)
set_option maxRecDepth 65536 in
theorem w_c9 : (Jvm.Cond.code ({ cls := "com/example/plugroot/plugroot/sql/ComparisonOfPinLaw", name := "expected", desc := "(ICC)Lcom/example/plugroot/plugroot/sql/Comparison;" } : Jvm.MethodName) method_3_code (3 : Nat) (Option.some (Jvm.ClassFile.FieldType.object "com/example/plugroot/plugroot/sql/Comparison"))).before args0 about1 = true := code_word (m := ⟨1, 2⟩) (meth := k1m2) (c := k1c2) (by decide +kernel) rfl rfl rfl (by decide +kernel)
set_option maxRecDepth 65536 in
theorem w_c10 : (Jvm.Cond.code ({ cls := "java/lang/StringUTF16", name := "compress", desc := "([CII)[B" } : Jvm.MethodName) jdk_52_method_16_code (6 : Nat) (Option.some (Jvm.ClassFile.FieldType.array Jvm.ClassFile.FieldType.byte))).before args0 about1 = true := code_word (m := ⟨12, 2⟩) (meth := k12m2) (c := k12c2) (by decide +kernel) rfl rfl rfl (by decide +kernel)
set_option maxRecDepth 65536 in
theorem w_c11 : (Jvm.Cond.code ({ cls := "java/lang/StringUTF16", name := "compress", desc := "([CI[BII)I" } : Jvm.MethodName) jdk_52_method_21_code (7 : Nat) (Option.some Jvm.ClassFile.FieldType.int)).before args0 about1 = true := code_word (m := ⟨12, 3⟩) (meth := k12m3) (c := k12c3) (by decide +kernel) rfl rfl rfl (by decide +kernel)
set_option maxRecDepth 65536 in
theorem w_c12 : (Jvm.Cond.code ({ cls := "java/lang/StringUTF16", name := "coderFromArrayLen", desc := "([BI)B" } : Jvm.MethodName) jdk_52_method_15_code (2 : Nat) (Option.some Jvm.ClassFile.FieldType.byte)).before args0 about1 = true := code_word (m := ⟨12, 1⟩) (meth := k12m1) (c := k12c1) (by decide +kernel) rfl rfl rfl (by decide +kernel)
def codes1 : List Jvm.Cond := [Jvm.Cond.code x code maxLocals ret, Jvm.Cond.code ({ cls := "com/example/plugroot/plugroot/sql/ComparisonOfPinLaw", name := "draw", desc := "(I)C" } : Jvm.MethodName) method_2_code (2 : Nat) (Option.some Jvm.ClassFile.FieldType.char), Jvm.Cond.code ({ cls := "java/lang/String", name := "<init>", desc := "([C)V" } : Jvm.MethodName) jdk_42_method_3_code (2 : Nat) (Option.none : Option Jvm.ClassFile.FieldType), Jvm.Cond.code ({ cls := "java/lang/String", name := "<init>", desc := "([CIILjava/lang/Void;)V" } : Jvm.MethodName) jdk_42_method_149_code (6 : Nat) (Option.none : Option Jvm.ClassFile.FieldType), Jvm.Cond.code ({ cls := "java/lang/Object", name := "<init>", desc := "()V" } : Jvm.MethodName) object_method_1_code (1 : Nat) (Option.none : Option Jvm.ClassFile.FieldType), Jvm.Cond.code ({ cls := "com/example/plugroot/plugroot/sql/Comparison", name := "of", desc := "(Ljava/lang/String;)Lcom/example/plugroot/plugroot/sql/Comparison;" } : Jvm.MethodName) prog_73_method_4_code (6 : Nat) (Option.some (Jvm.ClassFile.FieldType.object "com/example/plugroot/plugroot/sql/Comparison")), Jvm.Cond.code ({ cls := "java/lang/String", name := "equals", desc := "(Ljava/lang/Object;)Z" } : Jvm.MethodName) jdk_42_method_66_code (3 : Nat) (Option.some Jvm.ClassFile.FieldType.boolean), Jvm.Cond.code ({ cls := "java/lang/StringLatin1", name := "equals", desc := "([B[B)Z" } : Jvm.MethodName) jdk_43_method_13_code (3 : Nat) (Option.some Jvm.ClassFile.FieldType.boolean), Jvm.Cond.code ({ cls := "com/example/plugroot/plugroot/sql/Comparison", name := "values", desc := "()[Lcom/example/plugroot/plugroot/sql/Comparison;" } : Jvm.MethodName) prog_73_method_1_code (0 : Nat) (Option.some (Jvm.ClassFile.FieldType.array (Jvm.ClassFile.FieldType.object "com/example/plugroot/plugroot/sql/Comparison"))), Jvm.Cond.code ({ cls := "com/example/plugroot/plugroot/sql/ComparisonOfPinLaw", name := "expected", desc := "(ICC)Lcom/example/plugroot/plugroot/sql/Comparison;" } : Jvm.MethodName) method_3_code (3 : Nat) (Option.some (Jvm.ClassFile.FieldType.object "com/example/plugroot/plugroot/sql/Comparison")), Jvm.Cond.code ({ cls := "java/lang/StringUTF16", name := "compress", desc := "([CII)[B" } : Jvm.MethodName) jdk_52_method_16_code (6 : Nat) (Option.some (Jvm.ClassFile.FieldType.array Jvm.ClassFile.FieldType.byte)), Jvm.Cond.code ({ cls := "java/lang/StringUTF16", name := "compress", desc := "([CI[BII)I" } : Jvm.MethodName) jdk_52_method_21_code (7 : Nat) (Option.some Jvm.ClassFile.FieldType.int), Jvm.Cond.code ({ cls := "java/lang/StringUTF16", name := "coderFromArrayLen", desc := "([BI)B" } : Jvm.MethodName) jdk_52_method_15_code (2 : Nat) (Option.some Jvm.ClassFile.FieldType.byte)]
set_option maxRecDepth 65536 in
theorem codes_eq : words1.filter isCode = codes1 := rfl
theorem w_codes : ∀ c ∈ words1.filter isCode, c.before args0 about1 = true := by
  rw [codes_eq]
  intro c hc
  simp only [codes1, List.mem_cons, List.not_mem_nil, or_false] at hc
  rcases hc with rfl | rfl | rfl | rfl | rfl | rfl | rfl | rfl | rfl | rfl | rfl | rfl | rfl
  · exact w_c0
  · exact w_c1
  · exact w_c2
  · exact w_c3
  · exact w_c4
  · exact w_c5
  · exact w_c6
  · exact w_c7
  · exact w_c8
  · exact w_c9
  · exact w_c10
  · exact w_c11
  · exact w_c12
set_option maxRecDepth 65536 in
theorem w_t1 : (words1.take 24).all (fun c => isCode c || c.before args0 about1) = true := by decide +kernel
set_option maxRecDepth 65536 in
theorem w_t2 : ((words1.drop 24).take 24).all (fun c => isCode c || c.before args0 about1) = true := by decide +kernel
set_option maxRecDepth 65536 in
theorem w_t3 : (((words1.drop 24).drop 24).take 24).all (fun c => isCode c || c.before args0 about1) = true := by decide +kernel
set_option maxRecDepth 65536 in
theorem w_t4 : (((words1.drop 24).drop 24).drop 24).all (fun c => isCode c || c.before args0 about1) = true := by decide +kernel
theorem w_tables : (allAtoms (Jvm.Cond.code x code maxLocals ret :: tables_1)).before args0 about1 = true := by
  rw [allAtoms_all]
  show words1.all (fun c => c.before args0 about1) = true
  refine all_split ?_ w_codes
  rw [← List.take_append_drop 24 words1, List.all_append, w_t1, ← List.take_append_drop 24 (words1.drop 24), List.all_append, w_t2, ← List.take_append_drop 24 ((words1.drop 24).drop 24), List.all_append, w_t3, w_t4]
  rfl
set_option maxRecDepth 65536 in
theorem w_rest : rest_1_c.before args0 about1 = true := by decide +kernel
set_option maxRecDepth 65536 in
theorem w_case : (Jvm.Cond.and given_1 narrow_1).before args0 about1 = true := by decide +kernel
set_option maxRecDepth 65536 in
theorem w_consts : constsHeld consts_1 about1 := Jvm.Lit.constsHeldB_iff.mp (by decide +kernel)
theorem w_applies : (headSpec (Jvm.Cond.code x code maxLocals ret :: tables_1) room_1).applies x e0.platform about1 = true :=
  (Spec.applies_iff w_frames).mpr ⟨w_running, w_runnable, w_alone, w_named, w_hears, w_ripe, w_room, w_tables⟩
theorem atStart : AtStart classFile x code maxLocals ret World_1 tables_1 room_1 Calls_1 rest_1 Pre_1 launch0 p0 e0 about1 theMethod args0 below0 :=
  ⟨lists_1, trivial, launch0.admits_env _ _ _, launch0.least_env, fairChoices_fair.cas, fairChoices_fair.clock, w_frames, w_args, w_heap, w_applies, ⟨w_consts, trivial⟩, w_rest, w_case⟩
end start1
theorem witness_1 : WitnessClaimed_1 := ⟨start1.p0, start1.e0, start1.about1, start1.theMethod, start1.args0, start1.below0, start1.atStart⟩
end Jvm.Pilot.@@N@@
