import JvmDerived
import JvmDerived.Pilot.@@N@@Statement
import JvmDerived.Pilot.@@N@@Code
set_option linter.unusedVariables false
set_option linter.unusedSimpArgs false
namespace Jvm.RoadKit
open Sem ClassFile Op Lib Jvm.Stand Jvm.Free Jvm.LawKit
section New
variable {p : Program} {l : Launch} {e : Env} {R : Room} {s : State} {m : MethodId} {args : Array Value} {below : List Frame} {meth : Method} {c : Code} {T : State} {locs : List Loc} {cells slots : Nat}
theorem retI (X : Stand p l e R s m args below meth c T locs cells slots) (hx : p.tables.exec = Jvm.exec) {pc : Nat} {Ls : Array Slot} {z : Int32} {rest : List Value} (hret : meth.sig.returnType = some .int) (hd : decode c.code pc = .ok (.ireturn, 1)) {fs : List Frame}
    (hl : ∀ (f : JFrame) (acts : List Action), f.method = m → f.locked = none → f.entered = [] → (doReturn e (T.setTop f) acts (some (.int z))).1 = T.setFrames fs) : Steps p.tables e below (T.setTop (mkF m pc Ls (.int z :: rest))) (T.setFrames fs) := by
  have hm' : T.vm.method? m = some meth := X.method'
  have hn : narrow .int (.int z) = .int z := rfl
  show Steps p.tables e below (T.setTop { method := m, pc := pc, locals := Ls, stack := _ :: rest, locked := none }) _
  jvm_step X.here [X.here.top, hx, hd, hm', hret, hn]
  first | (intro acts; rw [hl _ acts rfl rfl rfl]) | rw [hl _ _ rfl rfl rfl]
  exact Steps.refl _
end New
end Jvm.RoadKit
/- laws to paste: Road.backV, Road.eqW, Road.codOf (cut by pick.py; bodies as the Statement names them) -/
namespace Jvm.Pilot.@@N@@
namespace StrChars
open Jvm Sem ClassFile Op Lib Jvm.Stand Jvm.Free.XT Jvm.Free.ALB Jvm.Free.JM Jvm.Free
open Jvm.Lib.Cold (StaticIs)
/-- a char array whose places are chars -/
def Ch (a : Addr) (A : Cell) (U : State) : Prop := Arr .char a A U ∧ Typed .char A
theorem Ch.mv {a : Addr} {A : Cell} {U U' : State} (h : Ch a A U) (hal : U.vm.Alike U'.vm) (hh : U'.heap = U.heap) : Ch a A U' := ⟨h.1.mv hal hh, h.2⟩
theorem Ch.keep {a : Addr} {A : Cell} {U U' : State} (h : Ch a A U) (hal : U.vm.Alike U'.vm) (hk : U'.heap[a]? = some A) : Ch a A U' := ⟨h.1.keep hal hk, h.2⟩
/-- what place i of a char[]'s cell holds -/
def cv (A : Cell) (i : Nat) : Int32 := match A.slots[i]? with | some (.int x) => x | _ => 0
theorem Ch.get {a : Addr} {A : Cell} {U : State} (h : Ch a A U) {i : Nat} (hi : i < A.slots.size) : A.slots[i]? = some (.int (cv A i)) := by
  have e := Array.getElem?_eq_getElem hi
  have f := h.2 i _ e
  unfold cv; rw [e]
  generalize A.slots[i] = v at f
  cases v <;> simp [fits] at f ⊢
/-- the byte that i2b leaves of a char -/
def lo8 (x : Int32) : Int32 := x.toInt8.toInt32
theorem fits_lo8 (y : Int32) : fits .byte (.int (lo8 y)) = true := by
  have h1 := y.toInt8.le_toInt
  have h2 := y.toInt8.toInt_lt
  simp only [lo8, fits, Bool.and_eq_true, decide_eq_true_eq, Int32.le_iff_toInt_le, Int8.toInt_toInt32, show (-128 : Int32).toInt = -128 from by decide, show (127 : Int32).toInt = 127 from by decide]
  omega
/-- A' is A but that each place j of lo .. hi - 1 holds f j -/
def Laid (A A' : Cell) (lo hi : Nat) (f : Nat → Value) : Prop := A'.cls = A.cls ∧ A'.vm = A.vm ∧ A'.slots.size = A.slots.size ∧ ∀ i, A'.slots[i]? = if lo ≤ i ∧ i < hi then some (f i) else A.slots[i]?
theorem Laid.zero (A : Cell) (lo : Nat) (f : Nat → Value) : Laid A A lo (lo + 0) f := ⟨rfl, rfl, rfl, fun i => by rw [if_neg (by omega)]⟩
theorem Laid.step {A Ak : Cell} {lo k : Nat} {f : Nat → Value} {v : Value} (h : Laid A Ak lo k f) (hlo : lo ≤ k) (hk : k < Ak.slots.size) (hv : v = f k) : Laid A (Ak.setSlot k v) lo (k + 1) f := by
  refine ⟨h.1, h.2.1, by simpa [Cell.setSlot] using h.2.2.1, fun i => ?_⟩
  by_cases e : k = i
  · subst e; rw [Cell.slots_setSlot_self v hk, if_pos (by omega), hv]
  · rw [Cell.slots_setSlot_ne v e, h.2.2.2 i]
    by_cases q : lo ≤ i ∧ i < k
    · rw [if_pos q, if_pos (by omega)]
    · rw [if_neg q, if_neg (by omega)]
def U16 : String := "java/lang/StringUTF16"
namespace Cmp5
def yN : MethodName := ⟨"java/lang/StringUTF16", "compress", "([CI[BII)I"⟩
abbrev yB : ByteArray := jdk_52_method_21_code
theorem d0 : decode yB 0 = .ok (.iconst 0, 1) := by decide +kernel
theorem d1 : decode yB 1 = .ok (.istore 5, 2) := by decide +kernel
theorem d3 : decode yB 3 = .ok (.iload 5, 2) := by decide +kernel
theorem d5 : decode yB 5 = .ok (.iload 4, 2) := by decide +kernel
theorem d7 : decode yB 7 = .ok (.if_icmp (.ge) 37, 3) := by decide +kernel
theorem d10 : decode yB 10 = .ok (.aload_n 0, 1) := by decide +kernel
theorem d11 : decode yB 11 = .ok (.iload_n 1, 1) := by decide +kernel
theorem d12 : decode yB 12 = .ok (.caload, 1) := by decide +kernel
theorem d13 : decode yB 13 = .ok (.istore 6, 2) := by decide +kernel
theorem d15 : decode yB 15 = .ok (.iload 6, 2) := by decide +kernel
theorem d17 : decode yB 17 = .ok (.sipush 255, 3) := by decide +kernel
theorem d20 : decode yB 20 = .ok (.if_icmp (.le) 6, 3) := by decide +kernel
theorem d26 : decode yB 26 = .ok (.aload_n 2, 1) := by decide +kernel
theorem d27 : decode yB 27 = .ok (.iload_n 3, 1) := by decide +kernel
theorem d28 : decode yB 28 = .ok (.iload 6, 2) := by decide +kernel
theorem d30 : decode yB 30 = .ok (.i2b, 1) := by decide +kernel
theorem d31 : decode yB 31 = .ok (.bastore, 1) := by decide +kernel
theorem d32 : decode yB 32 = .ok (.iinc 1 1, 3) := by decide +kernel
theorem d35 : decode yB 35 = .ok (.iinc 3 1, 3) := by decide +kernel
theorem d38 : decode yB 38 = .ok (.iinc 5 1, 3) := by decide +kernel
theorem d41 : decode yB 41 = .ok (.goto (-38), 3) := by decide +kernel
theorem d44 : decode yB 44 = .ok (.iload 4, 2) := by decide +kernel
theorem d46 : decode yB 46 = .ok (.ireturn, 1) := by decide +kernel
def site : List Cond := []
def tab : Cond := tabOf yN yB 7 (some .int) site
def P (b : Addr) (A : Cell) (d : Addr) (B : Cell) (o q len : Nat) (args : Array Value) (s : State) : Prop := args = #[.ref b, .int (Int32.ofNat o), .ref d, .int (Int32.ofNat q), .int (Int32.ofNat len)] ∧ Ch b A s ∧ Arr .byte d B s ∧ b ≠ d ∧ o + len ≤ A.slots.size ∧ q + len ≤ B.slots.size ∧ ∀ i, i < len → ¬ 255 < cv A (o + i)
def E (b : Addr) (A : Cell) (d : Addr) (B : Cell) (o q len : Nat) (r : Option Value) (s u : State) : Prop := r = some (.int (Int32.ofNat len)) ∧ ∃ B', Put d B' s u ∧ Laid B B' q (q + len) (fun j => Value.int (lo8 (cv A (o + (j - q)))))
/-- no char of the range above 255: len; the places written hold each char's low byte -/
theorem law (l : Launch) (b : Addr) (A : Cell) (d : Addr) (B : Cell) (o q len : Nat) : Law l yN 5 5 0 0 yB 7 (some .int) site (P b A d B o q len) (E b A d B o q len) (copyLocs d q len) 0 0 := by
  refine Law.of_walk (plainFor_of_name (by decide +kernel)) (by decide +kernel) (by decide +kernel) (by decide) (fun _ _ h => by rw [h.1]; rfl) (fun _ U U' hal hh h => ⟨h.1, h.2.1.mv hal hh, h.2.2.1.mv hal hh, h.2.2.2⟩) (fun r U U' V V' h1 hal h2 h => ⟨h.1, h.2.elim fun B' q => ⟨B', q.1.mv h1 h2, q.2⟩⟩) ?_
  intro p e s m args below meth c s₁ X0 hexec hbytes hml hret hlk hnm hown hh0 W hP
  obtain ⟨rfl, hA, hB, hne, l1, l2, hp⟩ := hP
  have c1 : Steps p.tables e below (s₁.setTop (entryFrame m #[.ref b, .int (Int32.ofNat o), .ref d, .int (Int32.ofNat q), .int (Int32.ofNat len)] 7)) (s₁.setTop (mkF m 0 #[.val (.ref b), .val (.int (Int32.ofNat o)), .val (.ref d), .val (.int (Int32.ofNat q)), .val (.int (Int32.ofNat len)), .unset, .unset] [])) := entry rfl
  have hA0 := hA.1.mv X0.warmed.alike hh0
  have hB0 := hB.mv X0.warmed.alike hh0
  have a31 := hA.1.2.2.2
  have c2 : Steps p.tables e below (s₁.setTop (entryFrame m #[.ref b, .int (Int32.ofNat o), .ref d, .int (Int32.ofNat q), .int (Int32.ofNat len)] 7)) (s₁.setTop (mkF m 3 #[.val (.ref b), .val (.int (Int32.ofNat o)), .val (.ref d), .val (.int (Int32.ofNat q)), .val (.int (Int32.ofNat len)), .val (.int 0), .unset] [])) := c1.trans (by
    refine iconstV X0.here hexec rfl 0 (hb hbytes d0) (by decide) ?_
    refine XS.istore X0.here hexec rfl (hb hbytes d1) rfl rfl ?_
    exact Steps.refl _)
  have loop : ∀ (r i : Nat), i + r = len → ∀ (z : Slot), (z = .unset ∨ ∃ w, z = .val w ∧ w.category = 1) → ∀ (Tl : State) (Bk : Cell), Stand p l e { frames := 0, locals := 0, cells := 0, slots := 0 } s m #[.ref b, .int (Int32.ofNat o), .ref d, .int (Int32.ofNat q), .int (Int32.ofNat len)] below meth c Tl ([] ++ copyLocs d q i) 0 0 → Put d Bk s₁ Tl → Laid B Bk q (q + i) (fun j => Value.int (lo8 (cv A (o + (j - q))))) →
      Steps p.tables e below (s₁.setTop (entryFrame m #[.ref b, .int (Int32.ofNat o), .ref d, .int (Int32.ofNat q), .int (Int32.ofNat len)] 7)) (Tl.setTop (mkF m 3 #[.val (.ref b), .val (.int (Int32.ofNat (o + i))), .val (.ref d), .val (.int (Int32.ofNat (q + i))), .val (.int (Int32.ofNat len)), .val (.int (Int32.ofNat i)), z] [])) → ∃ (T' : State) (B' : Cell) (z' : Slot), Stand p l e { frames := 0, locals := 0, cells := 0, slots := 0 } s m #[.ref b, .int (Int32.ofNat o), .ref d, .int (Int32.ofNat q), .int (Int32.ofNat len)] below meth c T' ([] ++ copyLocs d q len) 0 0 ∧ Put d B' s₁ T' ∧ Laid B B' q (q + len) (fun j => Value.int (lo8 (cv A (o + (j - q))))) ∧
      Steps p.tables e below (s₁.setTop (entryFrame m #[.ref b, .int (Int32.ofNat o), .ref d, .int (Int32.ofNat q), .int (Int32.ofNat len)] 7)) (T'.setTop (mkF m 3 #[.val (.ref b), .val (.int (Int32.ofNat (o + len))), .val (.ref d), .val (.int (Int32.ofNat (q + len))), .val (.int (Int32.ofNat len)), .val (.int (Int32.ofNat len)), z'] [])) := by
    intro r
    induction r with
    | zero =>
      intro i hi z hz Tl Bk Xl pl fl cl
      have hil : i = len := by omega
      rw [hil] at Xl fl cl
      exact ⟨Tl, Bk, z, Xl, pl, fl, cl⟩
    | succ r ih =>
      intro i hi z hz Tl Bk Xl pl fl cl
      have all := X0.warmed.alike.symm.trans Xl.warmed.alike
      have hAl := hA0.keep all (pl.other hne hA0.1)
      have hBk := hB0.like all pl.1 fl.1 fl.2.1 fl.2.2.1
      have hlt : q + i < Bk.slots.size := by rw [fl.2.2.1]; omega
      have c3 : Steps p.tables e below (s₁.setTop (entryFrame m #[.ref b, .int (Int32.ofNat o), .ref d, .int (Int32.ofNat q), .int (Int32.ofNat len)] 7)) (Tl.setTop (mkF m 12 #[.val (.ref b), .val (.int (Int32.ofNat (o + i))), .val (.ref d), .val (.int (Int32.ofNat (q + i))), .val (.int (Int32.ofNat len)), .val (.int (Int32.ofNat i)), z] [.int (Int32.ofNat (o + i)), .ref b])) := cl.trans (by
        refine XS.iload Xl.here hexec rfl (hb hbytes d3) rfl ?_
        refine XS.iload Xl.here hexec rfl (hb hbytes d5) rfl ?_
        refine XS.icmpNo Xl.here hexec rfl (hb hbytes d7) rfl (ii_ge_f (lt32 (by omega) (by omega))) ?_
        refine XS.aloadN Xl.here hexec rfl (hb hbytes d10) rfl rfl ?_
        refine XS.iloadN Xl.here hexec rfl (hb hbytes d11) rfl ?_
        exact Steps.refl _)
      have c4 : Steps p.tables e below (s₁.setTop (entryFrame m #[.ref b, .int (Int32.ofNat o), .ref d, .int (Int32.ofNat q), .int (Int32.ofNat len)] 7)) (Tl.setTop (mkF m 13 #[.val (.ref b), .val (.int (Int32.ofNat (o + i))), .val (.ref d), .val (.int (Int32.ofNat (q + i))), .val (.int (Int32.ofNat len)), .val (.int (Int32.ofNat i)), z] [.int (cv A (o + i))])) := c3.trans (by
        refine Xl.aget hexec hAl rfl (hA.get (i := o + i) (by omega)) rfl rfl (hb hbytes d12) ?_
        exact Steps.refl _)
      have c5 : Steps p.tables e below (s₁.setTop (entryFrame m #[.ref b, .int (Int32.ofNat o), .ref d, .int (Int32.ofNat q), .int (Int32.ofNat len)] 7)) (Tl.setTop (mkF m 15 #[.val (.ref b), .val (.int (Int32.ofNat (o + i))), .val (.ref d), .val (.int (Int32.ofNat (q + i))), .val (.int (Int32.ofNat len)), .val (.int (Int32.ofNat i)), .val (.int (cv A (o + i)))] [])) := c4.trans (by
        refine XS.istoreS Xl.here hexec rfl (hb hbytes d13) rfl rfl hz ?_
        exact Steps.refl _)
      have c6 : Steps p.tables e below (s₁.setTop (entryFrame m #[.ref b, .int (Int32.ofNat o), .ref d, .int (Int32.ofNat q), .int (Int32.ofNat len)] 7)) (Tl.setTop (mkF m 31 #[.val (.ref b), .val (.int (Int32.ofNat (o + i))), .val (.ref d), .val (.int (Int32.ofNat (q + i))), .val (.int (Int32.ofNat len)), .val (.int (Int32.ofNat i)), .val (.int (cv A (o + i)))] [.int (lo8 (cv A (o + i))), .int (Int32.ofNat (q + i)), .ref d])) := c5.trans (by
        refine XS.iload Xl.here hexec rfl (hb hbytes d15) rfl ?_
        refine sipushV Xl.here hexec rfl 255 (hb hbytes d17) (by decide) ?_
        refine XS.icmpYes Xl.here hexec rfl (pc0 := 20) rfl (hb hbytes d20) rfl (ii_le_t (hp i (by omega))) (by decide) rfl ?_
        refine XS.aloadN Xl.here hexec rfl (hb hbytes d26) rfl rfl ?_
        refine XS.iloadN Xl.here hexec rfl (hb hbytes d27) rfl ?_
        refine XS.iload Xl.here hexec rfl (hb hbytes d28) rfl ?_
        refine i2b Xl.here hexec rfl (hb hbytes d30) rfl ?_
        exact Steps.refl _)
      obtain ⟨T7, X7, p7, st7⟩ := Xl.aput hexec hBk rfl hlt rfl (fits_lo8 (cv A (o + i))) (g := (mkF m 31 #[.val (.ref b), .val (.int (Int32.ofNat (o + i))), .val (.ref d), .val (.int (Int32.ofNat (q + i))), .val (.int (Int32.ofNat len)), .val (.int (Int32.ofNat i)), .val (.int (cv A (o + i)))] [.int (lo8 (cv A (o + i))), .int (Int32.ofNat (q + i)), .ref d])) rfl (rest := []) rfl (hb hbytes d31)
      have c8 : Steps p.tables e below (s₁.setTop (entryFrame m #[.ref b, .int (Int32.ofNat o), .ref d, .int (Int32.ofNat q), .int (Int32.ofNat len)] 7)) (T7.setTop (mkF m 32 #[.val (.ref b), .val (.int (Int32.ofNat (o + i))), .val (.ref d), .val (.int (Int32.ofNat (q + i))), .val (.int (Int32.ofNat len)), .val (.int (Int32.ofNat i)), .val (.int (cv A (o + i)))] [])) := c6.trans (st7 _ (Steps.refl _))
      have c9 : Steps p.tables e below (s₁.setTop (entryFrame m #[.ref b, .int (Int32.ofNat o), .ref d, .int (Int32.ofNat q), .int (Int32.ofNat len)] 7)) (T7.setTop (mkF m 3 #[.val (.ref b), .val (.int (Int32.ofNat (o + i) + 1)), .val (.ref d), .val (.int (Int32.ofNat (q + i) + 1)), .val (.int (Int32.ofNat len)), .val (.int (Int32.ofNat i + 1)), .val (.int (cv A (o + i)))] [])) := c8.trans (by
        refine iincV X7.here hexec rfl 1 (hb hbytes d32) (by decide) rfl rfl ?_
        refine iincV X7.here hexec rfl 1 (hb hbytes d35) (by decide) rfl rfl ?_
        refine iincV X7.here hexec rfl 1 (hb hbytes d38) (by decide) rfl rfl ?_
        refine XS.goto X7.here hexec rfl (pc0 := 41) rfl (hb hbytes d41) (by decide) rfl ?_
        exact Steps.refl _)
      have c10 : Steps p.tables e below (s₁.setTop (entryFrame m #[.ref b, .int (Int32.ofNat o), .ref d, .int (Int32.ofNat q), .int (Int32.ofNat len)] 7)) (T7.setTop (mkF m 3 #[.val (.ref b), .val (.int (Int32.ofNat (o + (i + 1)))), .val (.ref d), .val (.int (Int32.ofNat (q + (i + 1)))), .val (.int (Int32.ofNat len)), .val (.int (Int32.ofNat (i + 1))), .val (.int (cv A (o + i)))] [])) := by
        have := c9
        rw [succ32, succ32, succ32] at this
        exact this
      exact ih (i + 1) (by omega) _ (Or.inr ⟨_, rfl, rfl⟩) T7 _ (by rw [copyLocs_step, ← List.append_assoc]; exact X7) (pl.trans p7) (fl.step (by omega) hlt (by simp)) c10
  obtain ⟨T9, B9, z9, X9, p9, f9, g9⟩ := loop len 0 (by omega) .unset (Or.inl rfl) s₁ B (by simpa [copyLocs] using X0) ⟨hB0.1, fun _ _ => rfl, rfl⟩ (Laid.zero _ _ _) c2
  have c11 : Steps p.tables e below (s₁.setTop (entryFrame m #[.ref b, .int (Int32.ofNat o), .ref d, .int (Int32.ofNat q), .int (Int32.ofNat len)] 7)) (T9.setTop (mkF m 46 #[.val (.ref b), .val (.int (Int32.ofNat (o + len))), .val (.ref d), .val (.int (Int32.ofNat (q + len))), .val (.int (Int32.ofNat len)), .val (.int (Int32.ofNat len)), z9] [.int (Int32.ofNat len)])) := g9.trans (by
    refine XS.iload X9.here hexec rfl (hb hbytes d3) rfl ?_
    refine XS.iload X9.here hexec rfl (hb hbytes d5) rfl ?_
    refine XS.icmpYes X9.here hexec rfl (pc0 := 7) rfl (hb hbytes d7) rfl (ii_ge_t (nlt32 (by omega) (Nat.le_refl _))) (by decide) rfl ?_
    refine XS.iload X9.here hexec rfl (hb hbytes d44) rfl ?_
    exact Steps.refl _)
  exact ⟨T9, some (.int (Int32.ofNat len)), _, _, _, X9, by simp, rfl, rfl, (fun h => by cases h), ⟨rfl, B9, p9.from hh0, f9⟩, fun fs hl => c11.trans (X9.ireturnOut hexec hret rfl (Or.inl rfl) (hb hbytes d46) hl)⟩
end Cmp5
namespace Cmp3
def yN : MethodName := ⟨"java/lang/StringUTF16", "compress", "([CII)[B"⟩
abbrev yB : ByteArray := jdk_52_method_16_code
theorem d0 : decode yB 0 = .ok (.iload_n 2, 1) := by decide +kernel
theorem d1 : decode yB 1 = .ok (.newarray .byte, 2) := by decide +kernel
theorem d3 : decode yB 3 = .ok (.astore_n 3, 1) := by decide +kernel
theorem d4 : decode yB 4 = .ok (.aload_n 0, 1) := by decide +kernel
theorem d5 : decode yB 5 = .ok (.iload_n 1, 1) := by decide +kernel
theorem d6 : decode yB 6 = .ok (.aload_n 3, 1) := by decide +kernel
theorem d7 : decode yB 7 = .ok (.iconst 0, 1) := by decide +kernel
theorem d8 : decode yB 8 = .ok (.iload_n 2, 1) := by decide +kernel
theorem d9 : decode yB 9 = .ok (.invokestatic 115, 3) := by decide +kernel
theorem d12 : decode yB 12 = .ok (.istore 4, 2) := by decide +kernel
theorem d14 : decode yB 14 = .ok (.iload 4, 2) := by decide +kernel
theorem d16 : decode yB 16 = .ok (.iload_n 2, 1) := by decide +kernel
theorem d17 : decode yB 17 = .ok (.if_icmp (.eq) 40, 3) := by decide +kernel
theorem d57 : decode yB 57 = .ok (.aload_n 3, 1) := by decide +kernel
theorem d58 : decode yB 58 = .ok (.areturn, 1) := by decide +kernel
def site : List Cond := [.arrayClass .byte, Cmp5.tab] ++ staticW U16 115 Cmp5.yN
def tab : Cond := tabOf yN yB 6 (some (.array .byte)) site
def P (b : Addr) (A : Cell) (o len : Nat) (args : Array Value) (s : State) : Prop := args = #[.ref b, .int (Int32.ofNat o), .int (Int32.ofNat len)] ∧ Ch b A s ∧ o + len ≤ A.slots.size ∧ len ≤ 536870912 ∧ ∀ i, i < len → ¬ 255 < cv A (o + i)
def E (b : Addr) (A : Cell) (o len : Nat) (r : Option Value) (s u : State) : Prop := NewArr .byte "[B" len (fun j => .int (lo8 (cv A (o + j)))) r s u ∧ u.heap.size = s.heap.size + 1
/-- no char of the range above 255: a new byte[] of their low bytes -/
theorem law (l : Launch) (b : Addr) (A : Cell) (o len : Nat) : Law l yN 3 3 1 18 yB 6 (some (.array .byte)) site (P b A o len) (E b A o len) [] 1 len := by
  refine Law.of_walk (plainFor_of_name (by decide +kernel)) (by decide +kernel) (by decide +kernel) (by decide) (fun _ _ h => by rw [h.1]; rfl) (fun _ U U' hal hh h => ⟨h.1, h.2.1.mv hal hh, h.2.2⟩) (fun r U U' V V' h1 hal h2 h => ⟨NewArr.mv r U U' V V' h1 hal h2 h.1, by rw [h1, h2]; exact h.2⟩) ?_
  intro p e s m args below meth c s₁ X0 hexec hbytes hml hret hlk hnm hown hh0 W hP
  obtain ⟨rfl, hA, l1, l2, hp⟩ := hP
  have a31 := hA.1.2.2.2
  have c1 : Steps p.tables e below (s₁.setTop (entryFrame m #[.ref b, .int (Int32.ofNat o), .int (Int32.ofNat len)] 6)) (s₁.setTop (mkF m 0 #[.val (.ref b), .val (.int (Int32.ofNat o)), .val (.int (Int32.ofNat len)), .unset, .unset, .unset] [])) := entry rfl
  have c2 : Steps p.tables e below (s₁.setTop (entryFrame m #[.ref b, .int (Int32.ofNat o), .int (Int32.ofNat len)] 6)) (s₁.setTop (mkF m 1 #[.val (.ref b), .val (.int (Int32.ofNat o)), .val (.int (Int32.ofNat len)), .unset, .unset, .unset] [.int (Int32.ofNat len)])) := c1.trans (by
    refine XS.iloadN X0.here hexec rfl (hb hbytes d0) rfl ?_
    exact Steps.refl _)
  obtain ⟨T3, B3, X3, ba3, bs3, bv3, bh3, bf3, st3⟩ := X0.anew hexec (atype := .byte) (wk W (.arrayClass .byte)) rfl (by show len * 1 ≤ _; omega) (by omega) (g := (mkF m 1 #[.val (.ref b), .val (.int (Int32.ofNat o)), .val (.int (Int32.ofNat len)), .unset, .unset, .unset] [.int (Int32.ofNat len)])) rfl (hb hbytes d1) (rest := []) rfl (Nat.le_refl _) (by show 0 + len ≤ len; omega)
  rw [hh0] at ba3 st3
  have kp3 : XT.Kept s T3 := (XT.Kept.of_eq hh0).push bh3
  have hA3 := hA.keep X3.warmed.alike (kp3 _ _ hA.1.1)
  have hne : b ≠ s.heap.size := hA.1.ne
  have c4 : Steps p.tables e below (s₁.setTop (entryFrame m #[.ref b, .int (Int32.ofNat o), .int (Int32.ofNat len)] 6)) (T3.setTop (mkF m 3 #[.val (.ref b), .val (.int (Int32.ofNat o)), .val (.int (Int32.ofNat len)), .unset, .unset, .unset] [.ref s.heap.size])) := c2.trans (st3 _ (Steps.refl _))
  have c5 : Steps p.tables e below (s₁.setTop (entryFrame m #[.ref b, .int (Int32.ofNat o), .int (Int32.ofNat len)] 6)) (T3.setTop (mkF m 9 #[.val (.ref b), .val (.int (Int32.ofNat o)), .val (.int (Int32.ofNat len)), .val (.ref s.heap.size), .unset, .unset] [.int (Int32.ofNat len), .int 0, .ref s.heap.size, .int (Int32.ofNat o), .ref b])) := c4.trans (by
    refine XS.astoreN X3.here hexec rfl (hb hbytes d3) rfl rfl rfl ?_
    refine XS.aloadN X3.here hexec rfl (hb hbytes d4) rfl rfl ?_
    refine XS.iloadN X3.here hexec rfl (hb hbytes d5) rfl ?_
    refine XS.aloadN X3.here hexec rfl (hb hbytes d6) rfl rfl ?_
    refine iconstV X3.here hexec rfl 0 (hb hbytes d7) (by decide) ?_
    refine XS.iloadN X3.here hexec rfl (hb hbytes d8) rfl ?_
    exact Steps.refl _)
  obtain ⟨v6, T6, X6, E6, g6⟩ := X3.callS hexec (Cmp5.law l b A s.heap.size B3 o 0 len) hown (wks W (staticW U16 115 Cmp5.yN)) (wk W Cmp5.tab) (W := 0) (Nat.le_of_ble_eq_true rfl) (Nat.le_of_ble_eq_true rfl) (Nat.le_refl _) (by show 0 + len + 0 ≤ len; omega) (g := (mkF m 9 #[.val (.ref b), .val (.int (Int32.ofNat o)), .val (.int (Int32.ofNat len)), .val (.ref s.heap.size), .unset, .unset] [.int (Int32.ofNat len), .int (Int32.ofNat 0), .ref s.heap.size, .int (Int32.ofNat o), .ref b])) rfl (by rw [hml]; rfl) c5 (argsL := [.ref b, .int (Int32.ofNat o), .ref s.heap.size, .int (Int32.ofNat 0), .int (Int32.ofNat len)]) (rest := []) rfl rfl (by show 2 * 0 + 0 ≤ _; decide) (hb hbytes d9) (⟨rfl, hA3, ba3, hne, l1, by rw [bs3]; simp, hp⟩)
  obtain ⟨rfl, B6, p6, f6⟩ := E6
  have c7 : Steps p.tables e below (s₁.setTop (entryFrame m #[.ref b, .int (Int32.ofNat o), .int (Int32.ofNat len)] 6)) (T6.setTop (mkF m 12 #[.val (.ref b), .val (.int (Int32.ofNat o)), .val (.int (Int32.ofNat len)), .val (.ref s.heap.size), .unset, .unset] [.int (Int32.ofNat len)])) := g6
  have c8 : Steps p.tables e below (s₁.setTop (entryFrame m #[.ref b, .int (Int32.ofNat o), .int (Int32.ofNat len)] 6)) (T6.setTop (mkF m 58 #[.val (.ref b), .val (.int (Int32.ofNat o)), .val (.int (Int32.ofNat len)), .val (.ref s.heap.size), .val (.int (Int32.ofNat len)), .unset] [.ref s.heap.size])) := c7.trans (by
    refine XS.istore X6.here hexec rfl (hb hbytes d12) rfl rfl ?_
    refine XS.iload X6.here hexec rfl (hb hbytes d14) rfl ?_
    refine XS.iloadN X6.here hexec rfl (hb hbytes d16) rfl ?_
    refine XS.icmpYes X6.here hexec rfl (pc0 := 17) rfl (hb hbytes d17) rfl (ii_eq_t rfl) (by decide) rfl ?_
    refine XS.aloadN X6.here hexec rfl (hb hbytes d57) rfl rfl ?_
    exact Steps.refl _)
  have X8 := X6.wide (L' := []) (cells' := 1) (slots' := len) (fun x hx hlt => by
    simp only [List.nil_append, copyLocs, List.mem_map, List.mem_range] at hx
    obtain ⟨i, -, rfl⟩ := hx
    exact absurd hlt (Nat.lt_irrefl _)) (Nat.le_refl _) (by omega)
  exact ⟨T6, some (.ref s.heap.size), _, _, _, X8, rfl, rfl, rfl, (fun h => by cases h), ⟨⟨rfl, B6, ba3.like (X3.warmed.alike.symm.trans X6.warmed.alike) p6.1 f6.1 f6.2.1 f6.2.2.1, f6.2.1.trans bv3, by rw [X6.warmed.alike.findClass, f6.1]; exact bf3, by rw [f6.2.2.1, bs3]; simp, fun j hj => by rw [f6.2.2.2 j, if_pos (by omega)]; rfl, kp3.put p6 (Nat.le_refl _)⟩, by rw [p6.2.2, bh3, hh0]; simp⟩, fun fs hl => c8.trans (X8.areturnOut hexec rfl hret rfl (hb hbytes d58) hl)⟩
end Cmp3
namespace CodL
def yN : MethodName := ⟨"java/lang/StringUTF16", "coderFromArrayLen", "([BI)B"⟩
abbrev yB : ByteArray := jdk_52_method_15_code
theorem d0 : decode yB 0 = .ok (.iload_n 1, 1) := by decide +kernel
theorem d1 : decode yB 1 = .ok (.aload_n 0, 1) := by decide +kernel
theorem d2 : decode yB 2 = .ok (.arraylength, 1) := by decide +kernel
theorem d3 : decode yB 3 = .ok (.isub, 1) := by decide +kernel
theorem d4 : decode yB 4 = .ok (.bipush 31, 2) := by decide +kernel
theorem d6 : decode yB 6 = .ok (.iushr, 1) := by decide +kernel
theorem d7 : decode yB 7 = .ok (.i2b, 1) := by decide +kernel
theorem d8 : decode yB 8 = .ok (.ireturn, 1) := by decide +kernel
def site : List Cond := []
def tab : Cond := tabOf yN yB 2 (some .byte) site
def P (d : Addr) (B : Cell) (args : Array Value) (s : State) : Prop := args = #[.ref d, .int (Int32.ofNat B.slots.size)] ∧ Arr .byte d B s
def E (r : Option Value) (s u : State) : Prop := XT.PureE (some (.int 0)) r s u
/-- an array as long as the number of chars: LATIN1 -/
theorem law (l : Launch) (d : Addr) (B : Cell) : Law l yN 2 2 0 0 yB 2 (some .byte) site (P d B) E [] 0 0 := by
  refine Law.of_walk (plainFor_of_name (by decide +kernel)) (by decide +kernel) (by decide +kernel) (by decide) (fun _ _ h => by rw [h.1]; rfl) (fun _ U U' hal hh h => ⟨h.1, h.2.mv hal hh⟩) (fun r U U' V V' h1 hal h2 h => XT.PureE.mv r U U' V V' h1 hal h2 h) ?_
  intro p e s m args below meth c s₁ X0 hexec hbytes hml hret hlk hnm hown hh0 W hP
  obtain ⟨rfl, hB⟩ := hP
  have hB0 := hB.mv X0.warmed.alike hh0
  have c1 : Steps p.tables e below (s₁.setTop (entryFrame m #[.ref d, .int (Int32.ofNat B.slots.size)] 2)) (s₁.setTop (mkF m 0 #[.val (.ref d), .val (.int (Int32.ofNat B.slots.size))] [])) := entry rfl
  have c2 : Steps p.tables e below (s₁.setTop (entryFrame m #[.ref d, .int (Int32.ofNat B.slots.size)] 2)) (s₁.setTop (mkF m 2 #[.val (.ref d), .val (.int (Int32.ofNat B.slots.size))] [.ref d, .int (Int32.ofNat B.slots.size)])) := c1.trans (by
    refine XS.iloadN X0.here hexec rfl (hb hbytes d0) rfl ?_
    refine XS.aloadN X0.here hexec rfl (hb hbytes d1) rfl rfl ?_
    exact Steps.refl _)
  have c3 : Steps p.tables e below (s₁.setTop (entryFrame m #[.ref d, .int (Int32.ofNat B.slots.size)] 2)) (s₁.setTop (mkF m 8 #[.val (.ref d), .val (.int (Int32.ofNat B.slots.size))] [.int (lo8 (ushr (Int32.ofNat B.slots.size - Int32.ofNat B.slots.size) 31))])) := c2.trans (by
    refine X0.alen hexec hB0 rfl rfl (hb hbytes d2) ?_
    refine XS.isub X0.here hexec rfl (hb hbytes d3) rfl ?_
    refine bipushV X0.here hexec rfl 31 (hb hbytes d4) (by decide) ?_
    refine iushr X0.here hexec rfl (hb hbytes d6) rfl ?_
    refine i2b X0.here hexec rfl (hb hbytes d7) rfl ?_
    exact Steps.refl _)
  have e0 : lo8 (ushr (Int32.ofNat B.slots.size - Int32.ofNat B.slots.size) 31) = 0 := by rw [Int32.sub_self]; decide
  rw [e0] at c3
  exact ⟨s₁, some (.int 0), _, _, _, X0, rfl, rfl, rfl, (fun h => by cases h), ⟨rfl, hh0⟩, fun fs hl => c3.trans (X0.ireturnOut hexec hret rfl (Or.inr (Or.inr (Or.inl rfl))) (hb hbytes d8) hl)⟩
end CodL
/-- the String at a is Latin-1 over a new byte[] (the heap's one new cell): the low bytes of the len chars of A from o on; every cell but a is kept -/
def Got (a : Addr) (D : Cell) (fV fC : Field) (A : Cell) (o len : Nat) (r : Option Value) (s u : State) : Prop := r = none ∧ ∃ D' V : Cell, Blank "java/lang/String" a D' u ∧ Same D D' [fV.slot, fC.slot] ∧ D'.slots[fV.slot]? = some (.ref s.heap.size) ∧ D'.slots[fC.slot]? = some (.int 0) ∧ Arr .byte s.heap.size V u ∧ V.vm = .none ∧ u.vm.findClass "[B" = some V.cls ∧ V.slots.size = len ∧ (∀ j, j < len → V.slots[j]? = some (.int (lo8 (cv A (o + j))))) ∧ (∀ (y : Addr) (c : Cell), y ≠ a → s.heap[y]? = some c → u.heap[y]? = some c) ∧ u.heap.size = s.heap.size + 1
theorem Got.mv {a : Addr} {D A : Cell} {fV fC : Field} {o len : Nat} : ∀ r (U U' V V' : State), U'.heap = U.heap → V.vm.Alike V'.vm → V'.heap = V.heap → Got a D fV fC A o len r U V → Got a D fV fC A o len r U' V' :=
  fun r U U' V V' h1 hal h2 ⟨e0, D', X, a1, a2, a3, a4, a5, a6, a7, a8, a9, a10, a11⟩ => ⟨e0, D', X, a1.mv hal h2, a2, by rw [h1]; exact a3, a4, by rw [h1]; exact a5.mv hal h2, a6, by rw [hal.findClass]; exact a7, a8, a9, by rw [h1, h2]; exact a10, by rw [h1, h2]; exact a11⟩
namespace New4
def yN : MethodName := ⟨"java/lang/String", "<init>", "([CIILjava/lang/Void;)V"⟩
abbrev yB : ByteArray := jdk_42_method_149_code
theorem d0 : decode yB 0 = .ok (.aload_n 0, 1) := by decide +kernel
theorem d1 : decode yB 1 = .ok (.invokespecial 1, 3) := by decide +kernel
theorem d4 : decode yB 4 = .ok (.iload_n 3, 1) := by decide +kernel
theorem d5 : decode yB 5 = .ok (.ifCond (.ne) 22, 3) := by decide +kernel
theorem d27 : decode yB 27 = .ok (.getstatic 38, 3) := by decide +kernel
theorem d30 : decode yB 30 = .ok (.ifCond (.eq) 28, 3) := by decide +kernel
theorem d33 : decode yB 33 = .ok (.aload_n 1, 1) := by decide +kernel
theorem d34 : decode yB 34 = .ok (.iload_n 2, 1) := by decide +kernel
theorem d35 : decode yB 35 = .ok (.iload_n 3, 1) := by decide +kernel
theorem d36 : decode yB 36 = .ok (.invokestatic 177, 3) := by decide +kernel
theorem d39 : decode yB 39 = .ok (.astore 5, 2) := by decide +kernel
theorem d41 : decode yB 41 = .ok (.aload_n 0, 1) := by decide +kernel
theorem d42 : decode yB 42 = .ok (.aload 5, 2) := by decide +kernel
theorem d44 : decode yB 44 = .ok (.iload_n 3, 1) := by decide +kernel
theorem d45 : decode yB 45 = .ok (.invokestatic 47, 3) := by decide +kernel
theorem d48 : decode yB 48 = .ok (.putfield 15, 3) := by decide +kernel
theorem d51 : decode yB 51 = .ok (.aload_n 0, 1) := by decide +kernel
theorem d52 : decode yB 52 = .ok (.aload 5, 2) := by decide +kernel
theorem d54 : decode yB 54 = .ok (.putfield 9, 3) := by decide +kernel
theorem d57 : decode yB 57 = .ok (.return_, 1) := by decide +kernel
def site : List Cond := [.fieldLink "java/lang/String" 38 "java/lang/String" "COMPACT_STRINGS" "Z", Cmp3.tab, CodL.tab, .laysFinal "java/lang/String" "java/lang/String" "value" "[B", .fieldLink "java/lang/String" 9 "java/lang/String" "value" "[B", .laysFinal "java/lang/String" "java/lang/String" "coder" "B", .fieldLink "java/lang/String" 15 "java/lang/String" "coder" "B"] ++ objW "java/lang/String" 1 ++ staticW "java/lang/String" 177 Cmp3.yN ++ staticW "java/lang/String" 47 CodL.yN
def tab : Cond := tabOf yN yB 6 none site
def P (a : Addr) (D : Cell) (fV fC : Field) (b : Addr) (A : Cell) (z : Int32) (o len : Nat) (args : Array Value) (s : State) : Prop := args = #[.ref a, .ref b, .int (Int32.ofNat o), .int (Int32.ofNat len), .null] ∧ Blank "java/lang/String" a D s ∧ Found "java/lang/String" "value" "[B" fV s ∧ Found "java/lang/String" "coder" "B" fC s ∧ Ch b A s ∧ StaticIs s "java/lang/String" "COMPACT_STRINGS" "Z" (.int z) ∧ ¬ z = 0 ∧ 0 < len ∧ o + len ≤ A.slots.size ∧ len ≤ 536870912 ∧ ∀ i, i < len → ¬ 255 < cv A (o + i)
def E (a : Addr) (D : Cell) (fV fC : Field) (A : Cell) (o len : Nat) (r : Option Value) (s u : State) : Prop := Got a D fV fC A o len r s u
/-- len > 0, no char of the range above 255: a Latin-1 String of their low bytes -/
theorem law (l : Launch) (a : Addr) (D : Cell) (fV fC : Field) (b : Addr) (A : Cell) (z : Int32) (o len : Nat) : Law l yN 5 4 2 35 yB 6 none site (P a D fV fC b A z o len) (E a D fV fC A o len) [⟨a, fC.slot⟩, ⟨a, fV.slot⟩] 1 len := by
  refine Law.of_walk (plainFor_of_name (by decide +kernel)) (by decide +kernel) (by decide +kernel) (by decide) (fun _ _ h => by rw [h.1]; rfl) (fun _ U U' hal hh h => ⟨h.1, h.2.1.mv hal hh, h.2.2.1.al hal, h.2.2.2.1.al hal, h.2.2.2.2.1.mv hal hh, h.2.2.2.2.2.1.there hal hh, h.2.2.2.2.2.2⟩) (fun r U U' V V' h1 hal h2 h => Got.mv r U U' V V' h1 hal h2 h) ?_
  intro p e s m args below meth c s₁ X0 hexec hbytes hml hret hlk hnm hown hh0 W hP
  obtain ⟨rfl, hB, f1, f2, hA, s1, hz, l0, l1, l2, hp⟩ := hP
  have a31 := hA.1.2.2.2
  have c1 : Steps p.tables e below (s₁.setTop (entryFrame m #[.ref a, .ref b, .int (Int32.ofNat o), .int (Int32.ofNat len), .null] 6)) (s₁.setTop (mkF m 0 #[.val (.ref a), .val (.ref b), .val (.int (Int32.ofNat o)), .val (.int (Int32.ofNat len)), .val .null, .unset] [])) := entry rfl
  have c2 : Steps p.tables e below (s₁.setTop (entryFrame m #[.ref a, .ref b, .int (Int32.ofNat o), .int (Int32.ofNat len), .null] 6)) (s₁.setTop (mkF m 1 #[.val (.ref a), .val (.ref b), .val (.int (Int32.ofNat o)), .val (.int (Int32.ofNat len)), .val .null, .unset] [.ref a])) := c1.trans (by
    refine XS.aloadN X0.here hexec rfl (hb hbytes d0) rfl rfl ?_
    exact Steps.refl _)
  obtain ⟨T3, X3, q3, st3⟩ := X0.oinit hexec hown (wks W (objW "java/lang/String" 1)) (g := (mkF m 1 #[.val (.ref a), .val (.ref b), .val (.int (Int32.ofNat o)), .val (.int (Int32.ofNat len)), .val .null, .unset] [.ref a])) rfl (by rw [hml]; rfl) (rest := []) rfl (hb hbytes d1) (W := 0) (by show 2 * 0 + 0 ≤ _; decide) (Nat.le_of_ble_eq_true rfl) (Nat.le_of_ble_eq_true rfl)
  have hh3 := q3.trans hh0
  have c4 : Steps p.tables e below (s₁.setTop (entryFrame m #[.ref a, .ref b, .int (Int32.ofNat o), .int (Int32.ofNat len), .null] 6)) (T3.setTop (mkF m 27 #[.val (.ref a), .val (.ref b), .val (.int (Int32.ofNat o)), .val (.int (Int32.ofNat len)), .val .null, .unset] [])) := (c2.trans (st3 _ (Steps.refl _))).trans (by
    refine XS.iloadN X3.here hexec rfl (hb hbytes d4) rfl ?_
    refine XS.ifYes X3.here hexec rfl (pc0 := 5) rfl (hb hbytes d5) rfl (i0_ne_t (nz32 (by omega) l0)) (by decide) rfl ?_
    exact Steps.refl _)
  obtain ⟨T5, X5, q5, st5⟩ := X3.sget hexec hown (wk W (.fieldLink "java/lang/String" 38 "java/lang/String" "COMPACT_STRINGS" "Z")) s1 (fun _ _ h => by rw [hh3]; exact h) (g := (mkF m 27 #[.val (.ref a), .val (.ref b), .val (.int (Int32.ofNat o)), .val (.int (Int32.ofNat len)), .val .null, .unset] [])) rfl (hb hbytes d27)
  have hh5 := q5.trans hh3
  have c6 : Steps p.tables e below (s₁.setTop (entryFrame m #[.ref a, .ref b, .int (Int32.ofNat o), .int (Int32.ofNat len), .null] 6)) (T5.setTop (mkF m 30 #[.val (.ref a), .val (.ref b), .val (.int (Int32.ofNat o)), .val (.int (Int32.ofNat len)), .val .null, .unset] [.int z])) := c4.trans (st5 _ (Steps.refl _))
  have c7 : Steps p.tables e below (s₁.setTop (entryFrame m #[.ref a, .ref b, .int (Int32.ofNat o), .int (Int32.ofNat len), .null] 6)) (T5.setTop (mkF m 36 #[.val (.ref a), .val (.ref b), .val (.int (Int32.ofNat o)), .val (.int (Int32.ofNat len)), .val .null, .unset] [.int (Int32.ofNat len), .int (Int32.ofNat o), .ref b])) := c6.trans (by
    refine XS.ifNo X5.here hexec rfl (hb hbytes d30) rfl (i0_eq_f hz) ?_
    refine XS.aloadN X5.here hexec rfl (hb hbytes d33) rfl rfl ?_
    refine XS.iloadN X5.here hexec rfl (hb hbytes d34) rfl ?_
    refine XS.iloadN X5.here hexec rfl (hb hbytes d35) rfl ?_
    exact Steps.refl _)
  obtain ⟨v8, T8, X8, E8, g8⟩ := X5.callS hexec (Cmp3.law l b A o len) hown (wks W (staticW "java/lang/String" 177 Cmp3.yN)) (wk W Cmp3.tab) (W := 0) (Nat.le_of_ble_eq_true rfl) (Nat.le_of_ble_eq_true rfl) (Nat.le_refl _) (by show 0 + len ≤ len; omega) (g := (mkF m 36 #[.val (.ref a), .val (.ref b), .val (.int (Int32.ofNat o)), .val (.int (Int32.ofNat len)), .val .null, .unset] [.int (Int32.ofNat len), .int (Int32.ofNat o), .ref b])) rfl (by rw [hml]; rfl) c7 (argsL := [.ref b, .int (Int32.ofNat o), .int (Int32.ofNat len)]) (rest := []) rfl rfl (by show 2 * 0 + 0 ≤ _; decide) (hb hbytes d36) (⟨rfl, hA.mv X5.warmed.alike hh5, l1, l2, hp⟩)
  obtain ⟨e8, z8⟩ := E8
  obtain ⟨rfl, N, n1, n2, n3, n4, n5, n6⟩ := NewArr.mv _ T5 s _ _ hh5.symm (Vm.Alike.refl _) rfl e8
  rw [hh5] at z8
  have hB1 := hB.keep X8.warmed.alike (n6 _ _ hB.1)
  have hne : s.heap.size ≠ a := (Nat.ne_of_lt (Array.getElem?_eq_some_iff.mp hB.1).1).symm
  have c9 : Steps p.tables e below (s₁.setTop (entryFrame m #[.ref a, .ref b, .int (Int32.ofNat o), .int (Int32.ofNat len), .null] 6)) (T8.setTop (mkF m 39 #[.val (.ref a), .val (.ref b), .val (.int (Int32.ofNat o)), .val (.int (Int32.ofNat len)), .val .null, .unset] [.ref s.heap.size])) := g8
  have c10 : Steps p.tables e below (s₁.setTop (entryFrame m #[.ref a, .ref b, .int (Int32.ofNat o), .int (Int32.ofNat len), .null] 6)) (T8.setTop (mkF m 45 #[.val (.ref a), .val (.ref b), .val (.int (Int32.ofNat o)), .val (.int (Int32.ofNat len)), .val .null, .val (.ref s.heap.size)] [.int (Int32.ofNat N.slots.size), .ref s.heap.size, .ref a])) := by
    have hc : Steps p.tables e below (s₁.setTop (entryFrame m #[.ref a, .ref b, .int (Int32.ofNat o), .int (Int32.ofNat len), .null] 6)) (T8.setTop (mkF m 45 #[.val (.ref a), .val (.ref b), .val (.int (Int32.ofNat o)), .val (.int (Int32.ofNat len)), .val .null, .val (.ref s.heap.size)] [.int (Int32.ofNat len), .ref s.heap.size, .ref a])) := c9.trans (by
      refine XS.astore X8.here hexec rfl (hb hbytes d39) rfl rfl rfl ?_
      refine XS.aloadN X8.here hexec rfl (hb hbytes d41) rfl rfl ?_
      refine XS.aload X8.here hexec rfl (hb hbytes d42) rfl rfl ?_
      refine XS.iloadN X8.here hexec rfl (hb hbytes d44) rfl ?_
      exact Steps.refl _)
    rw [n4]; exact hc
  obtain ⟨v11, T11, X11, E11, g11⟩ := X8.callS hexec (CodL.law l s.heap.size N) hown (wks W (staticW "java/lang/String" 47 CodL.yN)) (wk W CodL.tab) (W := 1) (Nat.le_of_ble_eq_true rfl) (Nat.le_of_ble_eq_true rfl) (Nat.le_refl _) (by show 0 + len + 0 ≤ len; omega) (g := (mkF m 45 #[.val (.ref a), .val (.ref b), .val (.int (Int32.ofNat o)), .val (.int (Int32.ofNat len)), .val .null, .val (.ref s.heap.size)] [.int (Int32.ofNat N.slots.size), .ref s.heap.size, .ref a])) rfl (by rw [hml]; rfl) c10 (argsL := [.ref s.heap.size, .int (Int32.ofNat N.slots.size)]) (rest := [.ref a]) rfl rfl (by show 2 * 0 + (1 + 0) ≤ _; decide) (hb hbytes d45) (⟨rfl, n1⟩)
  obtain ⟨rfl, q11⟩ := E11
  have hB11 := hB1.mv (X8.warmed.alike.symm.trans X11.warmed.alike) q11
  have c12 : Steps p.tables e below (s₁.setTop (entryFrame m #[.ref a, .ref b, .int (Int32.ofNat o), .int (Int32.ofNat len), .null] 6)) (T11.setTop (mkF m 48 #[.val (.ref a), .val (.ref b), .val (.int (Int32.ofNat o)), .val (.int (Int32.ofNat len)), .val .null, .val (.ref s.heap.size)] [.int 0, .ref a])) := g11
  obtain ⟨T13, X13, p13, bl13, sl13, st13⟩ := X11.finit hexec hown (wk W (.fieldLink "java/lang/String" 15 "java/lang/String" "coder" "B")) (Or.inr ⟨_, (wk W (.laysFinal "java/lang/String" "java/lang/String" "coder" "B"))⟩) (Or.inl ⟨rfl, hnm⟩) f2 (Or.inl rfl) hB11 (t := .byte) (by decide +kernel) rfl (g := (mkF m 48 #[.val (.ref a), .val (.ref b), .val (.int (Int32.ofNat o)), .val (.int (Int32.ofNat len)), .val .null, .val (.ref s.heap.size)] [.int 0, .ref a])) rfl (rest := []) rfl (hb hbytes d48)
  have c14 : Steps p.tables e below (s₁.setTop (entryFrame m #[.ref a, .ref b, .int (Int32.ofNat o), .int (Int32.ofNat len), .null] 6)) (T13.setTop (mkF m 54 #[.val (.ref a), .val (.ref b), .val (.int (Int32.ofNat o)), .val (.int (Int32.ofNat len)), .val .null, .val (.ref s.heap.size)] [.ref s.heap.size, .ref a])) := (c12.trans (st13 _ (Steps.refl _))).trans (by
    refine XS.aloadN X13.here hexec rfl (hb hbytes d51) rfl rfl ?_
    refine XS.aload X13.here hexec rfl (hb hbytes d52) rfl rfl ?_
    exact Steps.refl _)
  obtain ⟨T15, X15, p15, bl15, sl15, st15⟩ := X13.finit hexec hown (wk W (.fieldLink "java/lang/String" 9 "java/lang/String" "value" "[B")) (Or.inr ⟨_, (wk W (.laysFinal "java/lang/String" "java/lang/String" "value" "[B"))⟩) (Or.inl ⟨rfl, hnm⟩) f1 (Or.inl rfl) bl13 (t := (.array .byte)) (by decide +kernel) rfl (g := (mkF m 54 #[.val (.ref a), .val (.ref b), .val (.int (Int32.ofNat o)), .val (.int (Int32.ofNat len)), .val .null, .val (.ref s.heap.size)] [.ref s.heap.size, .ref a])) rfl (rest := []) rfl (hb hbytes d54)
  have c16 : Steps p.tables e below (s₁.setTop (entryFrame m #[.ref a, .ref b, .int (Int32.ofNat o), .int (Int32.ofNat len), .null] 6)) (T15.setTop (mkF m 57 #[.val (.ref a), .val (.ref b), .val (.int (Int32.ofNat o)), .val (.int (Int32.ofNat len)), .val .null, .val (.ref s.heap.size)] [])) := c14.trans (st15 _ (Steps.refl _))
  have ap := apart (Or.inr ⟨_, (wk W (.laysFinal "java/lang/String" "java/lang/String" "value" "[B"))⟩) (Or.inr ⟨_, (wk W (.laysFinal "java/lang/String" "java/lang/String" "coder" "B"))⟩) f1 f2 (t₁ := .array .byte) (t₂ := .byte) (by decide +kernel) (by decide +kernel) (by decide)
  have al := X8.warmed.alike.symm.trans X15.warmed.alike
  have n7 : T11.heap[s.heap.size]? = some N := by rw [q11]; exact n1.1
  exact ⟨T15, none, _, _, _, X15, by simp, rfl, by omega, (fun _ => rfl), ⟨rfl, _, N, bl15, ((Same.refl D _).set _ (by simp)).set _ (by simp), sl15, (Cell.slots_setSlot_ne _ ap).trans sl13, n1.keep al (p15.other hne (p13.other hne n7)), n2, by rw [al.findClass]; exact n3, n4, n5, fun y c h1 h2 => p15.other h1 (p13.other h1 (by rw [q11]; exact n6 y c h2)), by rw [p15.2.2, p13.2.2, q11]; exact z8⟩, fun fs hl => c16.trans (X15.returnOut hexec hret (hb hbytes d57) hl)⟩
end New4
namespace New1
def yN : MethodName := ⟨"java/lang/String", "<init>", "([C)V"⟩
abbrev yB : ByteArray := jdk_42_method_3_code
theorem d0 : decode yB 0 = .ok (.aload_n 0, 1) := by decide +kernel
theorem d1 : decode yB 1 = .ok (.aload_n 1, 1) := by decide +kernel
theorem d2 : decode yB 2 = .ok (.iconst 0, 1) := by decide +kernel
theorem d3 : decode yB 3 = .ok (.aload_n 1, 1) := by decide +kernel
theorem d4 : decode yB 4 = .ok (.arraylength, 1) := by decide +kernel
theorem d5 : decode yB 5 = .ok (.aconst_null, 1) := by decide +kernel
theorem d6 : decode yB 6 = .ok (.invokespecial 27, 3) := by decide +kernel
theorem d9 : decode yB 9 = .ok (.return_, 1) := by decide +kernel
def site : List Cond := [New4.tab] ++ initW "java/lang/String" 27 New4.yN
def tab : Cond := tabOf yN yB 2 none site
def P (a : Addr) (D : Cell) (fV fC : Field) (b : Addr) (A : Cell) (z : Int32) (args : Array Value) (s : State) : Prop := args = #[.ref a, .ref b] ∧ Blank "java/lang/String" a D s ∧ Found "java/lang/String" "value" "[B" fV s ∧ Found "java/lang/String" "coder" "B" fC s ∧ Ch b A s ∧ StaticIs s "java/lang/String" "COMPACT_STRINGS" "Z" (.int z) ∧ ¬ z = 0 ∧ 0 < A.slots.size ∧ A.slots.size ≤ 536870912 ∧ ∀ i, i < A.slots.size → ¬ 255 < cv A i
def E (a : Addr) (D : Cell) (fV fC : Field) (A : Cell) (r : Option Value) (s u : State) : Prop := Got a D fV fC A 0 A.slots.size r s u
/-- new String(chars), not empty, no char above 255: a Latin-1 String of their low bytes -/
theorem law (l : Launch) (a : Addr) (D : Cell) (fV fC : Field) (b : Addr) (A : Cell) (z : Int32) : Law l yN 2 1 3 52 yB 2 none site (P a D fV fC b A z) (E a D fV fC A) [⟨a, fC.slot⟩, ⟨a, fV.slot⟩] 1 A.slots.size := by
  refine Law.of_walk (plainFor_of_name (by decide +kernel)) (by decide +kernel) (by decide +kernel) (by decide) (fun _ _ h => by rw [h.1]; rfl) (fun _ U U' hal hh h => ⟨h.1, h.2.1.mv hal hh, h.2.2.1.al hal, h.2.2.2.1.al hal, h.2.2.2.2.1.mv hal hh, h.2.2.2.2.2.1.there hal hh, h.2.2.2.2.2.2⟩) (fun r U U' V V' h1 hal h2 h => Got.mv r U U' V V' h1 hal h2 h) ?_
  intro p e s m args below meth c s₁ X0 hexec hbytes hml hret hlk hnm hown hh0 W hP
  obtain ⟨rfl, hB, f1, f2, hA, s1, hz, l0, l2, hp⟩ := hP
  have c1 : Steps p.tables e below (s₁.setTop (entryFrame m #[.ref a, .ref b] 2)) (s₁.setTop (mkF m 0 #[.val (.ref a), .val (.ref b)] [])) := entry rfl
  have c2 : Steps p.tables e below (s₁.setTop (entryFrame m #[.ref a, .ref b] 2)) (s₁.setTop (mkF m 6 #[.val (.ref a), .val (.ref b)] [.null, .int (Int32.ofNat A.slots.size), .int 0, .ref b, .ref a])) := c1.trans (by
    refine XS.aloadN X0.here hexec rfl (hb hbytes d0) rfl rfl ?_
    refine XS.aloadN X0.here hexec rfl (hb hbytes d1) rfl rfl ?_
    refine iconstV X0.here hexec rfl 0 (hb hbytes d2) (by decide) ?_
    refine XS.aloadN X0.here hexec rfl (hb hbytes d3) rfl rfl ?_
    refine X0.alen hexec (hA.1.mv X0.warmed.alike hh0) rfl rfl (hb hbytes d4) ?_
    refine XS.aconstNull X0.here hexec rfl (hb hbytes d5) ?_
    exact Steps.refl _)
  obtain ⟨v3, T3, X3, E3, g3⟩ := X0.callN hexec (New4.law l a D fV fC b A z 0 A.slots.size) rfl hown (wks W (initW "java/lang/String" 27 New4.yN)) (W New4.tab (by simp only [site, List.mem_cons, List.mem_append, true_or, or_true])) (W := 0) (Nat.le_of_ble_eq_true rfl) (Nat.le_of_ble_eq_true rfl) (Nat.le_refl _) (by show 0 + A.slots.size ≤ A.slots.size; omega) (g := (mkF m 6 #[.val (.ref a), .val (.ref b)] [.null, .int (Int32.ofNat A.slots.size), .int (Int32.ofNat 0), .ref b, .ref a])) rfl (by rw [hml]; rfl) c2 (argsL := [.ref b, .int (Int32.ofNat 0), .int (Int32.ofNat A.slots.size), .null]) (rest := []) rfl rfl (by show 2 * 0 + 0 ≤ _; decide) (hb hbytes d6) (⟨rfl, hB.mv X0.warmed.alike hh0, f1.al X0.warmed.alike, f2.al X0.warmed.alike, hA.mv X0.warmed.alike hh0, s1.there X0.warmed.alike hh0, hz, l0, by omega, l2, fun i hi => by rw [Nat.zero_add]; exact hp i hi⟩)
  have e0 := Got.mv _ s₁ s _ _ hh0.symm (Vm.Alike.refl _) rfl E3
  obtain rfl := e0.1
  have c4 : Steps p.tables e below (s₁.setTop (entryFrame m #[.ref a, .ref b] 2)) (T3.setTop (mkF m 9 #[.val (.ref a), .val (.ref b)] [])) := g3
  exact ⟨T3, none, _, _, _, X3, by simp, rfl, by omega, (fun _ => rfl), e0, fun fs hl => c4.trans (X3.returnOut hexec hret (hb hbytes d9) hl)⟩
theorem pays {l : Launch} {R : Room} {p : Program} {e : Env} {below : List Frame} {s : State} {sargs : Array Value} {len W : Nat} (a : Addr) (D : Cell) (fV fC : Field) (b : Addr) (A : Cell) (z : Int32) (htab : tab.before sargs s = true) (hfr : 4 ≤ R.frames) (hlo : W + 65 ≤ R.locals) :
    Back l R p e below s sargs yN len W (fun A₁ a₁ => A₁.cells + 1 ≤ R.cells ∧ A₁.slots + A.slots.size ≤ R.slots ∧ P a D fV fC b A z a₁ A₁.U) (fun A₁ _ v₁ B₁ => E a D fV fC A v₁ A₁.U B₁.U ∧ B₁.locs = A₁.locs ++ [⟨a, fC.slot⟩, ⟨a, fV.slot⟩] ∧ B₁.cells = A₁.cells + 1 ∧ B₁.slots = A₁.slots + A.slots.size) :=
  (law l a D fV fC b A z).pays htab hfr (by omega)
end New1
/-- the byte, read back as charAt reads it, is the char -/
theorem lo8_mask {x : Int32} (h0 : ¬ x < 0) (h1 : ¬ 255 < x) : lo8 x &&& 255 = x := by
  have t : ∀ k : Fin 256, lo8 (Int32.ofNat k.val) &&& 255 = Int32.ofNat k.val := by decide +kernel
  rw [Int32.lt_iff_toInt_lt] at h0 h1
  have e0 : (0 : Int32).toInt = 0 := rfl
  have e1 : (255 : Int32).toInt = 255 := rfl
  obtain ⟨k, hk⟩ : ∃ k : Nat, x.toInt = k := ⟨x.toInt.toNat, by omega⟩
  have hx : x = Int32.ofNat k := Int32.toInt_inj.mp (by rw [hk, Int32.toInt_ofNat_small (by omega)])
  rw [hx]
  exact t ⟨k, by omega⟩
end StrChars
namespace StrChars.Road
open Jvm Sem ClassFile Op Lib Jvm.Stand Jvm.Free Jvm.Free.XT
open Jvm.Lib.Cold (StaticIs)
abbrev ST : String := "java/lang/String"
/-- every table word that New1's law asks, flat -/
abbrev words : List Jvm.Cond := [.code New1.yN New1.yB 2 none, .initialized ST, .methodLink ST 27 New4.yN, .instanceMethod New4.yN,
  .code New4.yN New4.yB 6 none, .fieldLink ST 38 ST "COMPACT_STRINGS" "Z", .laysFinal ST ST "value" "[B", .fieldLink ST 9 ST "value" "[B", .laysFinal ST ST "coder" "B", .fieldLink ST 15 ST "coder" "B",
  .methodLink ST 1 Lib.objectInit, .instanceMethod Lib.objectInit, .code Lib.objectInit object_method_1_code 1 none, .methodLink ST 177 Cmp3.yN, .static Cmp3.yN, .methodLink ST 47 CodL.yN, .static CodL.yN,
  .code Cmp3.yN Cmp3.yB 6 (some (.array .byte)), .initialized U16, .arrayClass .byte, .methodLink U16 115 Cmp5.yN, .static Cmp5.yN, .code Cmp5.yN Cmp5.yB 7 (some .int), .code CodL.yN CodL.yB 2 (some .byte)]
theorem tab_of {a : Array Value} {s : State} (h : ∀ w ∈ words, w.before a s = true) : New1.tab.before a s = true := by
  have h5 : Cmp5.tab.before a s = true := unparts (wk h (.code Cmp5.yN Cmp5.yB 7 (some .int))) (wks h (.initialized Cmp5.yN.cls :: Cmp5.site))
  have hc : CodL.tab.before a s = true := unparts (wk h (.code CodL.yN CodL.yB 2 (some .byte))) (wks h (.initialized CodL.yN.cls :: CodL.site))
  have q5 : ∀ w ∈ Cmp5.tab :: words, w.before a s = true := fun w hw => (List.mem_cons.mp hw).elim (fun e => e ▸ h5) (h w)
  have h3 : Cmp3.tab.before a s = true := unparts (wk q5 (.code Cmp3.yN Cmp3.yB 6 (some (.array .byte)))) (wks q5 (.initialized Cmp3.yN.cls :: Cmp3.site))
  have q3 : ∀ w ∈ Cmp3.tab :: CodL.tab :: words, w.before a s = true := fun w hw => (List.mem_cons.mp hw).elim (fun e => e ▸ h3) fun hw => (List.mem_cons.mp hw).elim (fun e => e ▸ hc) (h w)
  have h4 : New4.tab.before a s = true := unparts (wk q3 (.code New4.yN New4.yB 6 none)) (wks q3 (.initialized New4.yN.cls :: New4.site))
  have q4 : ∀ w ∈ New4.tab :: words, w.before a s = true := fun w hw => (List.mem_cons.mp hw).elim (fun e => e ▸ h4) (h w)
  exact unparts (wk q4 (.code New1.yN New1.yB 2 none)) (wks q4 (.initialized New1.yN.cls :: New1.site))
/-- the words ride from the start Z to the walk's own state -/
theorem moved {Z s : State} {a0 args : Array Value} (hZ : Z.Warmed39 s.vm) (hw : ∀ d ∈ words, d.before a0 Z = true) : ∀ d ∈ words, d.before args s = true := fun d hd => by
  have q := hw d hd
  have t : ∀ d ∈ words, d = .arrayClass .byte ∨ (d.onTables && d.keepsFace) = true := by decide +kernel
  rcases t d hd with rfl | t
  · exact RoadKit.mvA hZ q
  · exact RoadKit.mv hZ q t
/-- WHAT COMES BACK, over the tables of the start Z: h the heap at the call, h' behind it -/
def Q (Z : State) (x : Addr) (A : Cell) (h : Heap) (v : Option Value) (h' : Heap) (L : List Loc) : Prop := v = none ∧ (∀ y ∈ L, y.base = x) ∧ RoadKit.Keep h h' [x] ∧ h'.size = h.size + 1 ∧ RoadKit.Exa Z h' x ST ∧ RoadKit.Fld Z h' x ST "value" "[B" (.ref h.size) ∧ RoadKit.Fld Z h' x ST "coder" "B" (.int 0) ∧
  (∃ V : Cell, RoadKit.Arr Z h' h.size V .byte ∧ V.vm = .none ∧ Z.vm.findClass "[B" = some V.cls ∧ V.slots.size = A.slots.size ∧ ∀ j, j < A.slots.size → V.slots[j]? = some (.int (lo8 (cv A j)))) ∧
  ∀ (O n d : String) (w : Value), RoadKit.Fld Z h x O n d w → RoadKit.slotOf Z O n d ≠ RoadKit.slotOf Z ST "value" "[B" → RoadKit.slotOf Z O n d ≠ RoadKit.slotOf Z ST "coder" "B" → RoadKit.Fld Z h' x O n d w
/-- **new String(chars) AT A CALL, IN THE ROAD'S FORM**: for specialBack behind newO: x the fresh String, b the char[] with the cell A -/
theorem back {p : Program} {l : Launch} {e : Env} {R : Room} {s : State} {args : Array Value} {below : List Frame} {len W : Nat} {Z : State} {a0 : Array Value} {h : Heap} (hZ : Z.Warmed39 s.vm) (hw : ∀ d ∈ words, d.before a0 Z = true) {kI : Nat} (wi : (Jvm.Cond.instantiable ST kI).before a0 Z = true)
    {x b : Addr} {A : Cell} {z : Int32} {v0 c0 : Value} (E : RoadKit.Exa Z h x ST) (V : RoadKit.Fld Z h x ST "value" "[B" v0) (C : RoadKit.Fld Z h x ST "coder" "B" c0) (K : RoadKit.Arr Z h b A .char) (hty : Typed .char A) (S : RoadKit.Sta Z h ST "COMPACT_STRINGS" "Z" (.int z)) (hz : ¬ z = 0)
    (l0 : 0 < A.slots.size) (l2 : A.slots.size ≤ 536870912) (hp : ∀ i, i < A.slots.size → ¬ 255 < cv A i) (hfr : 4 ≤ R.frames) (hlo : W + 65 ≤ R.locals) :
    Back l R p e below s args New1.yN len W (fun P a => a = #[.ref x, .ref b] ∧ P.U.heap = h ∧ P.cells + 1 ≤ R.cells ∧ P.slots + A.slots.size ≤ R.slots)
      (fun P _ v B => ∃ L, Q Z x A h v B.U.heap L ∧ B.locs = P.locs ++ L ∧ B.cells = P.cells + 1 ∧ B.slots = P.slots + A.slots.size) := by
  intro m meth c P g ig mk a X hg hsize hdg hW hn hp'
  obtain ⟨rfl, rfl, r1, r2⟩ := hp'
  have al : Z.vm.Alike P.U.vm := hZ.alike.trans X.warmed.alike
  obtain ⟨D, cfV, kV, iV, fV, hD, gV, stV, knV, obV, asV, slV⟩ := id V
  obtain ⟨D', cfC, kC, iC, fC, hD', gC, stC, -, -, asC, slC⟩ := id C
  cases hD.symm.trans hD'
  obtain ⟨D2, kD, e1, e2, e3, e4, e5⟩ := id E
  cases hD.symm.trans e1
  obtain ⟨c2, k2, i1, i2, i3, -⟩ := Cond.instantiable_spec wi
  cases e2.symm.trans i1
  cases e3.symm.trans i2
  obtain ⟨kU, u1, u2⟩ := al.2.2 _ _ e3
  have hB : Blank ST x D P.U := ⟨hD, ⟨knV, fun q hq => by rw [hq] at obV; cases obV⟩, by rw [al.findClass]; exact e2, kU, u1, by rw [u2]; exact i3, by rw [u2]; exact e5 i3⟩
  have F1 : Found ST "value" "[B" fV P.U := ⟨SBG.found_only al ⟨cfV, kV, iV, gV⟩, stV⟩
  have F2 : Found ST "coder" "B" fC P.U := ⟨SBG.found_only al ⟨cfC, kC, iC, gC⟩, stC⟩
  have hA : Ch b A P.U := ⟨⟨K.1, State.isArrayOf_alike al K.2.1, K.2.2, by omega⟩, hty⟩
  have hS : StaticIs P.U ST "COMPACT_STRINGS" "Z" (.int z) := by
    obtain ⟨cfS, iS, kS, fS, st, cS, t1, t2, t3, t4, t5, t6, t7⟩ := S
    exact StaticIs.there (s := { Z with heap := P.U.heap }) ⟨cfS, iS, kS, fS, st, cS, t1, t2, t3, t4, t5, (fun q => by rw [q] at t6; cases t6), t7⟩ al rfl
  obtain ⟨v, B, X', ⟨⟨hv, E', V', q1, q2, q3, q4, q5, q6, q7, q8, q9, q10, q11⟩, hl, hc, hs⟩, st⟩ := New1.pays x D fV fC b A z (tab_of (moved hZ hw)) hfr hlo m meth c P g ig mk _ X hg hsize hdg hW hn ⟨r1, r2, rfl, hB, F1, F2, hA, hS, hz, l0, l2, hp⟩
  have al' : Z.vm.Alike B.U.vm := hZ.alike.trans X'.warmed.alike
  have hsz : E'.slots.size = D.slots.size := by
    obtain ⟨-, -, -, kB, w1, w2, w3⟩ := q1
    obtain ⟨kB', y1, y2⟩ := al'.2.2 _ _ e3
    rw [q2.2.1] at w1
    cases w1.symm.trans y1
    rw [w3, e5 i3, y2]
  refine ⟨v, B, X', ⟨_, ⟨hv, ?_, ⟨by omega, fun y cy hy hn' => q10 y cy (by simpa using hn') hy, fun y cy hy => ?_⟩, q11, ⟨E', _, q1.1, by rw [q2.2.1]; exact e2, by rw [q2.2.1]; exact e3, by rw [q2.1]; exact obV, fun _ => by rw [hsz]; exact e5 i3⟩,
    ⟨E', cfV, kV, iV, fV, q1.1, gV, stV, by rw [q2.1]; exact knV, by rw [q2.1]; exact obV, by rw [q2.2.1]; exact asV, q3⟩, ⟨E', cfC, kC, iC, fC, q1.1, gC, stC, by rw [q2.1]; exact knV, by rw [q2.1]; exact obV, by rw [q2.2.1]; exact asC, q4⟩,
    ⟨V', ⟨q5.1, State.isArrayOf_alike al'.symm q5.2.1, q5.2.2.1⟩, q6, by rw [← al'.findClass]; exact q7, q8, fun j hj => by have := q9 j hj; rwa [Nat.zero_add] at this⟩, fun O n d w F n1 n2 => ?_⟩, hl, hc, hs⟩, st⟩
  · intro y hy
    simp only [List.mem_cons, List.not_mem_nil, or_false] at hy
    rcases hy with rfl | rfl <;> rfl
  · by_cases q : y = x
    · subst q
      cases hD.symm.trans hy
      exact ⟨E', q1.1, q2.2.1, q2.1, hsz⟩
    · exact ⟨cy, q10 y cy q hy, rfl, rfl, rfl⟩
  · obtain ⟨D3, cf, k, i, f, g1, g2, g3, g4, g5, g6, g7⟩ := F
    cases hD.symm.trans g1
    simp only [RoadKit.slotOf, g2, gV, gC, Option.map_some, Option.getD_some] at n1 n2
    exact ⟨E', cf, k, i, f, q1.1, g2, g3, by rw [q2.1]; exact g4, by rw [q2.1]; exact g5, by rw [q2.2.1]; exact g6, by rw [q2.2.2 f.slot (by simp [n1, n2])]; exact g7⟩
end StrChars.Road
namespace StrChars.Road
open Jvm Sem ClassFile Op Lib Jvm.Stand Jvm.Free Jvm.Free.XT
/-- WHAT COMES BACK, the byte[] as a list of values -/
def QA (Z : State) (x : Addr) (zn : Int32) (cs : List Int32) (h : Heap) (v : Option Value) (h' : Heap) (L : List Loc) : Prop := v = none ∧ (∀ y ∈ L, y.base = x) ∧ RoadKit.Keep h h' [x] ∧ h'.size = h.size + 1 ∧ RoadKit.Exa Z h' x ST ∧ RoadKit.Fld Z h' x ST "value" "[B" (.ref h.size) ∧ RoadKit.Fld Z h' x ST "coder" "B" (.int 0) ∧
  (∃ kb, Z.vm.findClass "[B" = some kb ∧ RoadKit.Arv Z h' h.size kb .byte zn (cs.map fun c => .int (lo8 c)) (.int 0)) ∧
  ∀ (O n d : String) (w : Value), RoadKit.Fld Z h x O n d w → RoadKit.slotOf Z O n d ≠ RoadKit.slotOf Z ST "value" "[B" → RoadKit.slotOf Z O n d ≠ RoadKit.slotOf Z ST "coder" "B" → RoadKit.Fld Z h' x O n d w
/-- **new String(chars) AT A CALL, THE ARRAYS AS LISTS**: the char[] at b holds cs, not empty, no char above 255 -/
theorem backArv {p : Program} {l : Launch} {e : Env} {R : Room} {s : State} {args : Array Value} {below : List Frame} {len W : Nat} {Z : State} {a0 : Array Value} {h : Heap} (hZ : Z.Warmed39 s.vm) (hw : ∀ d ∈ words, d.before a0 Z = true) {kI : Nat} (wi : (Jvm.Cond.instantiable ST kI).before a0 Z = true)
    {x b : Addr} {k : ClassId} {zn z : Int32} {cs : List Int32} {dv v0 c0 : Value} (E : RoadKit.Exa Z h x ST) (V : RoadKit.Fld Z h x ST "value" "[B" v0) (C : RoadKit.Fld Z h x ST "coder" "B" c0) (K : RoadKit.Arv Z h b k .char zn (cs.map Value.int) dv) (S : RoadKit.Sta Z h ST "COMPACT_STRINGS" "Z" (.int z)) (hz : ¬ z = 0)
    (hlen : zn.toNatClampNeg = cs.length) (h0 : 0 < cs.length) (hbig : cs.length ≤ 536870912) (hall : ∀ c ∈ cs, ¬ 255 < c) (hfr : 4 ≤ R.frames) (hlo : W + 65 ≤ R.locals) :
    Back l R p e below s args New1.yN len W (fun P a => a = #[.ref x, .ref b] ∧ P.U.heap = h ∧ P.cells + 1 ≤ R.cells ∧ P.slots + cs.length ≤ R.slots)
      (fun P _ v B => ∃ L, QA Z x zn cs h v B.U.heap L ∧ B.locs = P.locs ++ L ∧ B.cells = P.cells + 1 ∧ B.slots = P.slots + cs.length) := by
  obtain ⟨A, K1, K2, K3, K4, K5, K6⟩ := K
  have e : A.slots.size = cs.length := K3.trans hlen
  have hat : ∀ (i : Nat) (hi : i < cs.length), A.slots[i]? = some (.int cs[i]) := fun i hi => by rw [K5 i (by omega)]; simp [List.getD_eq_getElem?_getD, hi]
  have hcv : ∀ (i : Nat) (hi : i < cs.length), cv A i = cs[i] := fun i hi => by unfold cv; rw [hat i hi]
  have hty : Typed .char A := fun i v hv => by
    have hi : i < A.slots.size := (Array.getElem?_eq_some_iff.mp hv).1
    have q := K5 i hi
    rw [hv] at q
    rw [Option.some.inj q]
    exact K6 i hi
  refine Back.mono (back hZ hw wi E V C K1 hty S hz (by omega) (by omega) (fun i hi => by rw [hcv i (by omega)]; exact hall _ (List.getElem_mem _)) hfr hlo) (fun P a hp => ⟨hp.1, hp.2.1, hp.2.2.1, by rw [e]; exact hp.2.2.2⟩) (fun P a v B hp hq => ?_)
  obtain ⟨L, ⟨q1, q2, q3, q4, q5, q6, q7, ⟨V', v1, v2, v3, v4, v5⟩, q9⟩, hl, hc, hs⟩ := hq
  refine ⟨L, ⟨q1, q2, q3, q4, q5, q6, q7, ⟨V'.cls, v3, V', v1, rfl, by rw [v4, e, hlen], K4, fun i hi => ?_, fun i hi => ?_⟩, q9⟩, hl, hc, by rw [hs, e]⟩
  · have hi' : i < cs.length := by omega
    rw [v5 i (by omega), hcv i hi']; simp [List.getD_eq_getElem?_getD, hi']
  · have hi' : i < cs.length := by omega
    simp only [List.getD_eq_getElem?_getD, List.getElem?_map, List.getElem?_eq_getElem hi', Option.map_some, Option.getD_some]
    exact fits_lo8 _
end StrChars.Road
namespace StrChars.Road
open Jvm Sem ClassFile Op Lib Jvm.Stand Jvm.Free Jvm.Free.XT
/-- WHAT COMES BACK, in the writer's own shape -/
def QV (Z : State) (x : Addr) (N : Int32) (bs : List Int32) (h : Heap) (n0 : Nat) (v : Option Value) (h' : Heap) (L : List Loc) : Prop := v = none ∧ RoadKit.Fr n0 L ∧ RoadKit.Keep h h' [x] ∧ RoadKit.Exa Z h' x ST ∧ RoadKit.Fld Z h' x ST "coder" "B" (.int 0) ∧
  ∃ (t : Addr) (kb : ClassId), n0 ≤ t ∧ h.size ≤ t ∧ ¬ t = x ∧ RoadKit.Fld Z h' x ST "value" "[B" (.ref t) ∧ RoadKit.Arv Z h' t kb .byte N (bs.map Value.int) (.int 0)
/-- **new String(chars) AT A CALL, FOR THE WRITER**: a char[] of n known ints, each 0 to 255 -/
theorem backV {p : Program} {l : Launch} {e : Env} {R : Room} {s : State} {args : Array Value} {below : List Frame} {len W : Nat} {Z : State} {a0 : Array Value} {h : Heap} (hZ : Z.Warmed39 s.vm) (hw : ∀ d ∈ words, d.before a0 Z = true) {kI : Nat} (wi : (Jvm.Cond.instantiable ST kI).before a0 Z = true)
    {x b : Addr} {kC : ClassId} {cs bs : List Int32} {d v0 c0 : Value} {z N : Int32} {n n0 : Nat} (hx0 : n0 ≤ x) (hh0 : n0 ≤ h.size) (E : RoadKit.Exa Z h x ST) (V : RoadKit.Fld Z h x ST "value" "[B" v0) (C : RoadKit.Fld Z h x ST "coder" "B" c0) (K : RoadKit.Arv Z h b kC .char N (cs.map Value.int) d) (S : RoadKit.Sta Z h ST "COMPACT_STRINGS" "Z" (.int z)) (hz : ¬ z = 0)
    (hn : cs.length = n) (hN : N = Int32.ofNat n) (l0 : 0 < n) (l2 : n ≤ 4000) (hp : ∀ c ∈ cs, ¬ c < 0 ∧ ¬ (255 : Int32) < c) (hb : bs = cs.map (fun c => c.toInt8.toInt32)) (hfr : 4 ≤ R.frames) (hlo : W + 65 ≤ R.locals) :
    Back l R p e below s args (⟨"java/lang/String", "<init>", "([C)V"⟩ : MethodName) len W (fun P a => a = #[.ref x, .ref b] ∧ P.U.heap = h ∧ P.cells + 1 ≤ R.cells ∧ P.slots + n ≤ R.slots)
      (fun P _ v B => ∃ L, QV Z x N bs h n0 v B.U.heap L ∧ B.locs = P.locs ++ L ∧ B.cells = P.cells + 1 ∧ B.slots = P.slots + n) := by
  subst hn hN hb
  refine Back.mono (backArv hZ hw wi E V C K S hz (n32 (by omega)) l0 (by omega) (fun c hc => (hp c hc).2) hfr hlo) (fun P a hp => hp) (fun P a v B hp hq => ?_)
  obtain ⟨L, ⟨q1, q2, q3, q4, q5, q6, q7, ⟨kb, v1, v2⟩, q9⟩, hl, hc, hs⟩ := hq
  exact ⟨L, ⟨q1, fun y hy => by rw [q2 y hy]; exact hx0, q3, q5, q7, h.size, kb, hh0, Nat.le_refl _, Nat.ne_of_gt E.lt, q6, by rw [List.map_map]; exact v2⟩, hl, hc, hs⟩
end StrChars.Road
namespace StrChars
open Jvm Sem ClassFile Op Lib Jvm.Stand Jvm.Free.XT Jvm.Free.ALB Jvm.Free.JM Jvm.Free
open Jvm.Lib.Cold (StaticIs)
def hi8 (x : Int32) : Int32 := lo8 (x >>> ((8 : Int32) &&& 31))
/-- what StringUTF16.getChar makes of two bytes -/
def pairCh (u v : Int32) : Int32 := (((u &&& 255) <<< ((0 : Int32) &&& 31)) ||| ((v &&& 255) <<< ((8 : Int32) &&& 31))).toUInt32.toUInt16.toUInt32.toInt32
theorem lo8_and (x : Int32) : (lo8 x &&& 255).toBitVec.toNat = x.toBitVec.toNat % 256 := by
  have h : (lo8 x).toBitVec = (x.toBitVec.signExtend 8).signExtend 32 := by rw [lo8, Int8.toBitVec_toInt32, Int32.toBitVec_toInt8]
  rw [Int32.toBitVec_and, BitVec.toNat_and, h]
  have e : ((x.toBitVec.signExtend 8).signExtend 32).toNat % 256 = x.toBitVec.toNat % 256 := by
    rw [BitVec.toNat_signExtend]
    have hlt := x.toBitVec.isLt
    simp only [BitVec.toNat_setWidth, BitVec.toNat_signExtend]
    split <;> split <;> omega
  rw [← e]
  exact Nat.and_two_pow_sub_one_eq_mod _ 8
theorem pair_says {c : Int32} (h0 : ¬ c < 0) (h1 : ¬ 65535 < c) : pairCh (lo8 c) (hi8 c) = c := by
  rw [Int32.lt_iff_toInt_lt] at h0 h1
  have e0 : (0 : Int32).toInt = 0 := rfl
  have e1 : (65535 : Int32).toInt = 65535 := rfl
  have hc : c.toInt = c.toBitVec.toNat := by
    have := c.toBitVec.isLt
    have e : c.toInt = c.toBitVec.toInt := rfl
    rw [e] at h0 h1
    rw [e]
    rw [BitVec.toInt_eq_toNat_cond] at h0 h1 ⊢
    split at h0 <;> split <;> omega
  have hn : c.toBitVec.toNat < 65536 := by omega
  have a1 := lo8_and c
  have a2 : (hi8 c &&& 255).toBitVec.toNat = c.toBitVec.toNat / 256 := by
    rw [hi8, lo8_and]
    have e : ((8 : Int32) &&& 31) = 8 := by decide
    rw [e, Int32.toBitVec_shiftRight]
    have e2 : ((8 : Int32).toBitVec.smod 32) = 8#32 := by decide
    rw [e2, BitVec.sshiftRight_eq', BitVec.toNat_sshiftRight_of_msb_false (by rw [BitVec.msb_eq_false_iff_two_mul_lt]; omega)]
    show c.toBitVec.toNat >>> 8 % 256 = _
    rw [Nat.shiftRight_eq_div_pow]
    omega
  unfold pairCh
  apply Int32.toBitVec_inj.mp
  apply BitVec.eq_of_toNat_eq
  have f0 : ((0 : Int32) &&& 31) = 0 := by decide
  have f8 : ((8 : Int32) &&& 31) = 8 := by decide
  rw [f0, f8]
  have g : (((lo8 c &&& 255) <<< (0 : Int32)) ||| ((hi8 c &&& 255) <<< (8 : Int32))).toBitVec.toNat = c.toBitVec.toNat := by
    rw [Int32.toBitVec_or, Int32.toBitVec_shiftLeft, Int32.toBitVec_shiftLeft]
    have s0 : ((0 : Int32).toBitVec.smod 32) = 0#32 := by decide
    have s8 : ((8 : Int32).toBitVec.smod 32) = 8#32 := by decide
    rw [s0, s8, BitVec.toNat_or]
    simp only [BitVec.shiftLeft_eq', BitVec.toNat_shiftLeft, a1, a2]
    show (c.toBitVec.toNat % 256) <<< 0 % 2 ^ 32 ||| (c.toBitVec.toNat / 256) <<< 8 % 2 ^ 32 = _
    rw [Nat.shiftLeft_zero, Nat.mod_eq_of_lt (show c.toBitVec.toNat % 256 < 2 ^ 32 by omega), Nat.mod_eq_of_lt (show (c.toBitVec.toNat / 256) <<< 8 < 2 ^ 32 by rw [Nat.shiftLeft_eq]; omega), Nat.or_comm, ← Nat.shiftLeft_add_eq_or_of_lt (by omega), Nat.shiftLeft_eq]
    omega
  show BitVec.toNat (((((lo8 c &&& 255) <<< (0 : Int32)) ||| ((hi8 c &&& 255) <<< (8 : Int32))).toBitVec.setWidth 16).setWidth 32) = _
  rw [BitVec.toNat_setWidth, BitVec.toNat_setWidth, g]
  omega
end StrChars
namespace StrChars
open Jvm Sem ClassFile Op Lib Jvm.Stand Jvm.Free.XT Jvm.Free.ALB Jvm.Free.JM Jvm.Free
open Jvm.Lib.Cold (StaticIs)
/-- the array's cell V codes the n chars f 0 .. f (n - 1) by the coder cd, as the JDK does: coder 1 just where some char is above 255 -/
def Cod (cd : Int32) (n : Nat) (f : Nat → Int32) (V : Cell) : Prop := (cd = 0 ∧ V.slots.size = n ∧ ∀ j, j < n → V.slots[j]? = some (.int (lo8 (f j))) ∧ ¬ 255 < f j) ∨ (cd = 1 ∧ V.slots.size = 2 * n ∧ (∀ j, j < n → V.slots[2 * j]? = some (.int (lo8 (f j))) ∧ V.slots[2 * j + 1]? = some (.int (hi8 (f j)))) ∧ ∃ j, j < n ∧ 255 < f j)
/-- **x is a String of the n chars f 0 .. f (n - 1)**, Latin-1 or UTF-16; its array at t has the cell V -/
def Txt (x t : Addr) (V : Cell) (cd : Int32) (n : Nat) (f : Nat → Int32) (U : State) : Prop := Exact "java/lang/String" x U ∧ Has x "java/lang/String" "value" "[B" (.ref t) U ∧ Has x "java/lang/String" "coder" "B" (.int cd) U ∧ XT.Arr .byte t V U ∧ Cod cd n f V ∧ ∀ j, j < n → ¬ f j < 0 ∧ ¬ 65535 < f j
theorem Txt.mv {x t : Addr} {V : Cell} {cd : Int32} {n : Nat} {f : Nat → Int32} {U U' : State} (h : Txt x t V cd n f U) (hal : U.vm.Alike U'.vm) (hh : U'.heap = U.heap) : Txt x t V cd n f U' := ⟨h.1.mv hal hh, h.2.1.mv hal hh, h.2.2.1.mv hal hh, h.2.2.2.1.mv hal hh, h.2.2.2.2⟩
end StrChars
namespace StrChars.Road
open Jvm Sem ClassFile Op Lib Jvm.Stand Jvm.Free Jvm.Free.XT
open Jvm.Lib.Cold (StaticIs)
theorem consq {a : Array Value} {s : State} {c : Jvm.Cond} {L : List Jvm.Cond} (h0 : c.before a s = true) (h : ∀ w ∈ L, w.before a s = true) : ∀ w ∈ c :: L, w.before a s = true := fun w hw => (List.mem_cons.mp hw).elim (fun e => e ▸ h0) (h w)
/-- the bytes of the chars cs, low before high -/
def wideBytes : List Int32 → List Value
  | [] => []
  | c :: cs => .int (lo8 c) :: .int (hi8 c) :: wideBytes cs
theorem wide_lo (d : Value) : ∀ (cs : List Int32) (j : Nat), j < cs.length → (wideBytes cs).getD (2 * j) d = .int (lo8 (cs.getD j 0))
  | [], j, h => absurd h (Nat.not_lt_zero j)
  | c :: cs, 0, _ => rfl
  | c :: cs, j + 1, h => by
    have q := wide_lo d cs j (by simpa using h)
    rw [show 2 * (j + 1) = 2 * j + 1 + 1 from by omega]
    simpa [wideBytes] using q
theorem wide_hi (d : Value) : ∀ (cs : List Int32) (j : Nat), j < cs.length → (wideBytes cs).getD (2 * j + 1) d = .int (hi8 (cs.getD j 0))
  | [], j, h => absurd h (Nat.not_lt_zero j)
  | c :: cs, 0, _ => rfl
  | c :: cs, j + 1, h => by
    have q := wide_hi d cs j (by simpa using h)
    rw [show 2 * (j + 1) + 1 = 2 * j + 1 + 1 + 1 from by omega]
    simpa [wideBytes] using q
theorem low_at (d : Value) (cs : List Int32) (j : Nat) (h : j < cs.length) : (cs.map fun c => Value.int (lo8 c)).getD j d = .int (lo8 (cs.getD j 0)) := by
  simp [List.getD_eq_getElem?_getD, h]
/-- an array of N2 bytes vs codes the chars cs by the coder cd -/
def CodA (cs : List Int32) (cd N2 : Int32) (vs : List Value) : Prop := (cd = 0 ∧ N2 = Int32.ofNat cs.length ∧ vs = (cs.map fun c => Value.int (lo8 c)) ∧ ∀ c ∈ cs, ¬ 255 < c) ∨ (cd = 1 ∧ N2 = Int32.ofNat (2 * cs.length) ∧ vs = wideBytes cs ∧ ∃ c ∈ cs, 255 < c)
theorem CodA.cod {cs : List Int32} {cd N2 : Int32} {vs : List Value} {V : Cell} (h : CodA cs cd N2 vs) (hn : 2 * cs.length < 2 ^ 31) (hs : V.slots.size = N2.toNatClampNeg) (hv : RoadKit.Has V vs (.int 0)) : Cod cd cs.length (fun j => cs.getD j 0) V := by
  rcases h with ⟨rfl, rfl, rfl, h⟩ | ⟨rfl, rfl, rfl, c, hc, hw⟩
  · rw [n32 (by omega)] at hs
    exact Or.inl ⟨rfl, hs, fun j hj => ⟨by rw [hv j (by omega), low_at _ _ _ hj], by
      have e : cs.getD j 0 = cs[j] := by simp [List.getD_eq_getElem?_getD, hj]
      show ¬ 255 < cs.getD j 0
      rw [e]; exact h _ (List.getElem_mem _)⟩⟩
  · rw [n32 (by omega)] at hs
    obtain ⟨j, hj, rfl⟩ := List.getElem_of_mem hc
    exact Or.inr ⟨rfl, hs, fun j hj => ⟨by rw [hv _ (by omega), wide_lo _ _ _ hj], by rw [hv _ (by omega), wide_hi _ _ _ hj]⟩, j, hj, by
      have e : cs.getD j 0 = cs[j] := by simp [List.getD_eq_getElem?_getD, hj]
      show 255 < cs.getD j 0
      rw [e]; exact hw⟩
/-- an object of exactly java/lang/String, its two fields found: as the laws ask it -/
theorem strObj {Z U : State} {a0 : Array Value} {kI : Nat} (wi : (Jvm.Cond.instantiable ST kI).before a0 Z = true) (al : Z.vm.Alike U.vm) {x : Addr} {v0 c0 : Value} (E : RoadKit.Exa Z U.heap x ST) (V : RoadKit.Fld Z U.heap x ST "value" "[B" v0) (C : RoadKit.Fld Z U.heap x ST "coder" "B" c0) :
    ∃ (D : Cell) (fV fC : Field), Blank ST x D U ∧ Found ST "value" "[B" fV U ∧ Found ST "coder" "B" fC U ∧ D.slots[fV.slot]? = some v0 ∧ D.slots[fC.slot]? = some c0 ∧ RoadKit.slotOf Z ST "value" "[B" = fV.slot ∧ RoadKit.slotOf Z ST "coder" "B" = fC.slot := by
  obtain ⟨D, cfV, kV, iV, fV, hD, gV, stV, knV, obV, asV, slV⟩ := V
  obtain ⟨D', cfC, kC, iC, fC, hD', gC, stC, -, -, asC, slC⟩ := C
  cases hD.symm.trans hD'
  obtain ⟨D2, kD, e1, e2, e3, e4, e5⟩ := E
  cases hD.symm.trans e1
  obtain ⟨c2, k2, i1, i2, i3, -⟩ := Cond.instantiable_spec wi
  cases e2.symm.trans i1
  cases e3.symm.trans i2
  obtain ⟨kU, u1, u2⟩ := al.2.2 _ _ e3
  exact ⟨D, fV, fC, ⟨hD, ⟨knV, fun q hq => by rw [hq] at obV; cases obV⟩, by rw [al.findClass]; exact e2, kU, u1, by rw [u2]; exact i3, by rw [u2]; exact e5 i3⟩, ⟨SBG.found_only al ⟨cfV, kV, iV, gV⟩, stV⟩, ⟨SBG.found_only al ⟨cfC, kC, iC, gC⟩, stC⟩, slV, slC, by simp [RoadKit.slotOf, gV], by simp [RoadKit.slotOf, gC]⟩
theorem sta_is {Z U : State} (al : Z.vm.Alike U.vm) {C n d : String} {v : Value} (S : RoadKit.Sta Z U.heap C n d v) : StaticIs U C n d v := by
  obtain ⟨cfS, iS, kS, fS, st, cS, t1, t2, t3, t4, t5, t6, t7⟩ := S
  exact StaticIs.there (s := { Z with heap := U.heap }) ⟨cfS, iS, kS, fS, st, cS, t1, t2, t3, t4, t5, (fun q => by rw [q] at t6; cases t6), t7⟩ al rfl
end StrChars.Road
namespace StrChars
open Jvm Sem ClassFile Op Lib Jvm.Stand Jvm.Free.XT Jvm.Free.ALB Jvm.Free.JM Jvm.Free
open Jvm.Lib.Cold (StaticIs)
/-- what place i of a byte[]'s cell holds -/
def yv (A : Cell) (i : Nat) : Int32 := match A.slots[i]? with | some (.int x) => x | _ => 0
theorem yv_get {a : Addr} {A : Cell} {U : State} (h : XT.Arr .byte a A U) (ht : Typed .byte A) {i : Nat} (hi : i < A.slots.size) : A.slots[i]? = some (.int (yv A i)) := by
  have e := Array.getElem?_eq_getElem hi
  have f := ht i _ e
  unfold yv; rw [e]
  generalize A.slots[i] = v at f
  cases v <;> simp [fits] at f ⊢
/-- the two arrays are equal, place for place -/
def EqC (A B : Cell) : Prop := A.slots.size = B.slots.size ∧ ∀ i, i < A.slots.size → yv A i = yv B i
/-- a boolean that says whether p -/
def Says01 (q : Prop) (r : Option Value) (s u : State) : Prop := ∃ v : Int32, r = some (.int v) ∧ u.heap = s.heap ∧ ((v = 1 ∧ q) ∨ (v = 0 ∧ ¬ q))
theorem Says01.mv {q : Prop} : ∀ r (U U' V V' : State), U'.heap = U.heap → V.vm.Alike V'.vm → V'.heap = V.heap → Says01 q r U V → Says01 q r U' V' :=
  fun r U U' V V' h1 _ h2 ⟨v, a, b, c⟩ => ⟨v, a, by rw [h1, h2]; exact b, c⟩
namespace LEq
def yN : MethodName := ⟨"java/lang/StringLatin1", "equals", "([B[B)Z"⟩
abbrev yB : ByteArray := jdk_43_method_13_code
theorem d0 : decode yB 0 = .ok (.aload_n 0, 1) := by decide +kernel
theorem d1 : decode yB 1 = .ok (.arraylength, 1) := by decide +kernel
theorem d2 : decode yB 2 = .ok (.aload_n 1, 1) := by decide +kernel
theorem d3 : decode yB 3 = .ok (.arraylength, 1) := by decide +kernel
theorem d4 : decode yB 4 = .ok (.if_icmp (.ne) 30, 3) := by decide +kernel
theorem d7 : decode yB 7 = .ok (.iconst 0, 1) := by decide +kernel
theorem d8 : decode yB 8 = .ok (.istore_n 2, 1) := by decide +kernel
theorem d9 : decode yB 9 = .ok (.iload_n 2, 1) := by decide +kernel
theorem d10 : decode yB 10 = .ok (.aload_n 0, 1) := by decide +kernel
theorem d11 : decode yB 11 = .ok (.arraylength, 1) := by decide +kernel
theorem d12 : decode yB 12 = .ok (.if_icmp (.ge) 20, 3) := by decide +kernel
theorem d15 : decode yB 15 = .ok (.aload_n 0, 1) := by decide +kernel
theorem d16 : decode yB 16 = .ok (.iload_n 2, 1) := by decide +kernel
theorem d17 : decode yB 17 = .ok (.baload, 1) := by decide +kernel
theorem d18 : decode yB 18 = .ok (.aload_n 1, 1) := by decide +kernel
theorem d19 : decode yB 19 = .ok (.iload_n 2, 1) := by decide +kernel
theorem d20 : decode yB 20 = .ok (.baload, 1) := by decide +kernel
theorem d21 : decode yB 21 = .ok (.if_icmp (.eq) 5, 3) := by decide +kernel
theorem d24 : decode yB 24 = .ok (.iconst 0, 1) := by decide +kernel
theorem d25 : decode yB 25 = .ok (.ireturn, 1) := by decide +kernel
theorem d26 : decode yB 26 = .ok (.iinc 2 1, 3) := by decide +kernel
theorem d29 : decode yB 29 = .ok (.goto (-20), 3) := by decide +kernel
theorem d32 : decode yB 32 = .ok (.iconst 1, 1) := by decide +kernel
theorem d33 : decode yB 33 = .ok (.ireturn, 1) := by decide +kernel
theorem d34 : decode yB 34 = .ok (.iconst 0, 1) := by decide +kernel
theorem d35 : decode yB 35 = .ok (.ireturn, 1) := by decide +kernel
def site : List Cond := []
def tab : Cond := tabOf yN yB 3 (some .boolean) site
def P (a : Addr) (A : Cell) (b : Addr) (B : Cell) (args : Array Value) (s : State) : Prop := args = #[.ref a, .ref b] ∧ XT.Arr .byte a A s ∧ Typed .byte A ∧ XT.Arr .byte b B s ∧ Typed .byte B
/-- whether two byte[] are equal, place for place -/
theorem law (l : Launch) (a : Addr) (A : Cell) (b : Addr) (B : Cell) : Law l yN 2 2 0 0 yB 3 (some .boolean) site (P a A b B) (Says01 (EqC A B)) [] 0 0 := by
  refine Law.of_walk (plainFor_of_name (by decide +kernel)) (by decide +kernel) (by decide +kernel) (by decide) (fun _ _ h => by rw [h.1]; rfl) (fun _ U U' hal hh h => ⟨h.1, h.2.1.mv hal hh, h.2.2.1, h.2.2.2.1.mv hal hh, h.2.2.2.2⟩) (fun r U U' V V' h1 hal h2 h => Says01.mv r U U' V V' h1 hal h2 h) ?_
  intro p e s m args below meth c s₁ X0 hexec hbytes hml hret hlk hnm hown hh0 W hP
  obtain ⟨rfl, hA, tA, hB, tB⟩ := hP
  have a31 := hA.2.2.2
  have b31 := hB.2.2.2
  have hA0 := hA.mv X0.warmed.alike hh0
  have hB0 := hB.mv X0.warmed.alike hh0
  have c1 : Steps p.tables e below (s₁.setTop (entryFrame m #[.ref a, .ref b] 3)) (s₁.setTop (mkF m 0 #[.val (.ref a), .val (.ref b), .unset] [])) := entry rfl
  have c2 : Steps p.tables e below (s₁.setTop (entryFrame m #[.ref a, .ref b] 3)) (s₁.setTop (mkF m 4 #[.val (.ref a), .val (.ref b), .unset] [.int (Int32.ofNat B.slots.size), .int (Int32.ofNat A.slots.size)])) := c1.trans (by
    refine XS.aloadN X0.here hexec rfl (hb hbytes d0) rfl rfl ?_
    refine X0.alen hexec hA0 rfl rfl (hb hbytes d1) ?_
    refine XS.aloadN X0.here hexec rfl (hb hbytes d2) rfl rfl ?_
    refine X0.alen hexec hB0 rfl rfl (hb hbytes d3) ?_
    exact Steps.refl _)
  by_cases hs : A.slots.size = B.slots.size
  · have c3 : Steps p.tables e below (s₁.setTop (entryFrame m #[.ref a, .ref b] 3)) (s₁.setTop (mkF m 9 #[.val (.ref a), .val (.ref b), .val (.int 0)] [])) := c2.trans (by
      refine XS.icmpNo X0.here hexec rfl (hb hbytes d4) rfl (ii_ne_f (by rw [hs])) ?_
      refine iconstV X0.here hexec rfl 0 (hb hbytes d7) (by decide) ?_
      refine XS.istoreN X0.here hexec rfl (hb hbytes d8) rfl rfl ?_
      exact Steps.refl _)
    have loop : ∀ (r i : Nat), i + r = A.slots.size → (∀ j, j < i → yv A j = yv B j) → Steps p.tables e below (s₁.setTop (entryFrame m #[.ref a, .ref b] 3)) (s₁.setTop (mkF m 9 #[.val (.ref a), .val (.ref b), .val (.int (Int32.ofNat i))] [])) → ∃ (pc : Nat) (Ls : Array Slot) (v : Int32), (pc = 25 ∨ pc = 33) ∧ ((v = 1 ∧ EqC A B) ∨ (v = 0 ∧ ¬ EqC A B)) ∧ Steps p.tables e below (s₁.setTop (entryFrame m #[.ref a, .ref b] 3)) (s₁.setTop (mkF m pc Ls [.int v])) := by
      intro r
      induction r with
      | zero =>
        intro i hi he cl
        exact ⟨33, _, 1, Or.inr rfl, Or.inl ⟨rfl, hs, fun j hj => he j (by omega)⟩, cl.trans (by
          refine XS.iloadN X0.here hexec rfl (hb hbytes d9) rfl ?_
          refine XS.aloadN X0.here hexec rfl (hb hbytes d10) rfl rfl ?_
          refine X0.alen hexec hA0 rfl rfl (hb hbytes d11) ?_
          refine XS.icmpYes X0.here hexec rfl (pc0 := 12) rfl (hb hbytes d12) rfl (ii_ge_t (nlt32 (by omega) (by omega))) (by decide) rfl ?_
          refine iconstV X0.here hexec rfl 1 (hb hbytes d32) (by decide) ?_
          exact Steps.refl _)⟩
      | succ r ih =>
        intro i hi he cl
        have c4 : Steps p.tables e below (s₁.setTop (entryFrame m #[.ref a, .ref b] 3)) (s₁.setTop (mkF m 21 #[.val (.ref a), .val (.ref b), .val (.int (Int32.ofNat i))] [.int (yv B i), .int (yv A i)])) := cl.trans (by
          refine XS.iloadN X0.here hexec rfl (hb hbytes d9) rfl ?_
          refine XS.aloadN X0.here hexec rfl (hb hbytes d10) rfl rfl ?_
          refine X0.alen hexec hA0 rfl rfl (hb hbytes d11) ?_
          refine XS.icmpNo X0.here hexec rfl (hb hbytes d12) rfl (ii_ge_f (lt32 (by omega) (by omega))) ?_
          refine XS.aloadN X0.here hexec rfl (hb hbytes d15) rfl rfl ?_
          refine XS.iloadN X0.here hexec rfl (hb hbytes d16) rfl ?_
          refine X0.aget hexec hA0 rfl (yv_get hA tA (i := i) (by omega)) rfl rfl (hb hbytes d17) ?_
          refine XS.aloadN X0.here hexec rfl (hb hbytes d18) rfl rfl ?_
          refine XS.iloadN X0.here hexec rfl (hb hbytes d19) rfl ?_
          refine X0.aget hexec hB0 rfl (yv_get hB tB (i := i) (by omega)) rfl rfl (hb hbytes d20) ?_
          exact Steps.refl _)
        by_cases hv : yv A i = yv B i
        · have c5 : Steps p.tables e below (s₁.setTop (entryFrame m #[.ref a, .ref b] 3)) (s₁.setTop (mkF m 9 #[.val (.ref a), .val (.ref b), .val (.int (Int32.ofNat i + 1))] [])) := c4.trans (by
            refine XS.icmpYes X0.here hexec rfl (pc0 := 21) rfl (hb hbytes d21) rfl (ii_eq_t hv) (by decide) rfl ?_
            refine iincV X0.here hexec rfl 1 (hb hbytes d26) (by decide) rfl rfl ?_
            refine XS.goto X0.here hexec rfl (pc0 := 29) rfl (hb hbytes d29) (by decide) rfl ?_
            exact Steps.refl _)
          rw [succ32] at c5
          exact ih (i + 1) (by omega) (fun j hj => by
            by_cases e : j = i
            · rw [e]; exact hv
            · exact he j (by omega)) c5
        · exact ⟨25, _, 0, Or.inl rfl, Or.inr ⟨rfl, fun q => hv (q.2 i (by omega))⟩, c4.trans (by
            refine XS.icmpNo X0.here hexec rfl (hb hbytes d21) rfl (ii_eq_f hv) ?_
            refine iconstV X0.here hexec rfl 0 (hb hbytes d24) (by decide) ?_
            exact Steps.refl _)⟩
    obtain ⟨pc, Ls, v, hpc, hv, cz⟩ := loop A.slots.size 0 (by omega) (fun j hj => absurd hj (Nat.not_lt_zero j)) c3
    have nv : narrow .boolean (.int v) = .int v := by rcases hv with ⟨rfl, -⟩ | ⟨rfl, -⟩ <;> rfl
    rcases hpc with rfl | rfl
    · exact ⟨s₁, some (.int v), _, _, _, X0, rfl, rfl, rfl, (fun h => by cases h), ⟨v, rfl, hh0, hv⟩, fun fs hl => cz.trans (X0.ireturnOut hexec hret nv (Or.inr (Or.inl rfl)) (hb hbytes d25) hl)⟩
    · exact ⟨s₁, some (.int v), _, _, _, X0, rfl, rfl, rfl, (fun h => by cases h), ⟨v, rfl, hh0, hv⟩, fun fs hl => cz.trans (X0.ireturnOut hexec hret nv (Or.inr (Or.inl rfl)) (hb hbytes d33) hl)⟩
  · have c3 : Steps p.tables e below (s₁.setTop (entryFrame m #[.ref a, .ref b] 3)) (s₁.setTop (mkF m 35 #[.val (.ref a), .val (.ref b), .unset] [.int 0])) := c2.trans (by
      refine XS.icmpYes X0.here hexec rfl (pc0 := 4) rfl (hb hbytes d4) rfl (ii_ne_t (ne32 a31 b31 hs)) (by decide) rfl ?_
      refine iconstV X0.here hexec rfl 0 (hb hbytes d34) (by decide) ?_
      exact Steps.refl _)
    exact ⟨s₁, some (.int 0), _, _, _, X0, rfl, rfl, rfl, (fun h => by cases h), ⟨0, rfl, hh0, Or.inr ⟨rfl, fun q => hs q.1⟩⟩, fun fs hl => c3.trans (X0.ireturnOut hexec hret rfl (Or.inr (Or.inl rfl)) (hb hbytes d35) hl)⟩
end LEq
theorem Cod.ty {cd : Int32} {n : Nat} {f : Nat → Int32} {V : Cell} (h : Cod cd n f V) : Typed .byte V := fun i v hv => by
  have hi : i < V.slots.size := (Array.getElem?_eq_some_iff.mp hv).1
  rcases h with ⟨-, k1, k2⟩ | ⟨-, k1, k2, -⟩
  · rw [(k2 i (by omega)).1] at hv; cases hv; exact fits_lo8 _
  · rcases Nat.mod_two_eq_zero_or_one i with e | e
    · obtain ⟨j, rfl⟩ : ∃ j, i = 2 * j := ⟨i / 2, by omega⟩
      rw [(k2 j (by omega)).1] at hv; cases hv; exact fits_lo8 _
    · obtain ⟨j, rfl⟩ : ∃ j, i = 2 * j + 1 := ⟨i / 2, by omega⟩
      rw [(k2 j (by omega)).2] at hv; cases hv; exact fits_lo8 _
/-- the same text -/
def SameT (n : Nat) (f : Nat → Int32) (k : Nat) (g : Nat → Int32) : Prop := n = k ∧ ∀ j, j < n → f j = g j
theorem lo8_inj {x y : Int32} (h0 : ¬ x < 0) (h1 : ¬ 255 < x) (k0 : ¬ y < 0) (k1 : ¬ 255 < y) (h : lo8 x = lo8 y) : x = y := by
  rw [← lo8_mask h0 h1, ← lo8_mask k0 k1, h]
/-- arrays coded by one coder are equal just where the texts are -/
theorem Cod.eqv {cd : Int32} {n k : Nat} {f g : Nat → Int32} {V V' : Cell} (h : Cod cd n f V) (h' : Cod cd k g V') (hf : ∀ j, j < n → ¬ f j < 0 ∧ ¬ 65535 < f j) (hg : ∀ j, j < k → ¬ g j < 0 ∧ ¬ 65535 < g j) : EqC V V' ↔ SameT n f k g := by
  have yvv : ∀ {W : Cell} {i : Nat} {x : Int32}, W.slots[i]? = some (.int x) → yv W i = x := fun q => by unfold yv; rw [q]
  rcases h with ⟨rfl, k1, k2⟩ | ⟨rfl, k1, k2, -⟩
  · rcases h' with ⟨-, m1, m2⟩ | ⟨e, -⟩
    · constructor
      · rintro ⟨e1, e2⟩
        refine ⟨by omega, fun j hj => ?_⟩
        have q := e2 j (by omega)
        rw [yvv (k2 j hj).1, yvv (m2 j (by omega)).1] at q
        exact lo8_inj (hf j hj).1 (k2 j hj).2 (hg j (by omega)).1 (m2 j (by omega)).2 q
      · rintro ⟨rfl, e2⟩
        refine ⟨by omega, fun j hj => ?_⟩
        rw [yvv (k2 j (by omega)).1, yvv (m2 j (by omega)).1, e2 j (by omega)]
    · exact absurd e (by decide)
  · rcases h' with ⟨e, -⟩ | ⟨-, m1, m2, -⟩
    · exact absurd e (by decide)
    · constructor
      · rintro ⟨e1, e2⟩
        refine ⟨by omega, fun j hj => ?_⟩
        have q1 := e2 (2 * j) (by omega)
        have q2 := e2 (2 * j + 1) (by omega)
        rw [yvv (k2 j hj).1, yvv (m2 j (by omega)).1] at q1
        rw [yvv (k2 j hj).2, yvv (m2 j (by omega)).2] at q2
        rw [← pair_says (hf j hj).1 (hf j hj).2, ← pair_says (hg j (by omega)).1 (hg j (by omega)).2, q1, q2]
      · rintro ⟨rfl, e2⟩
        refine ⟨by omega, fun i hi => ?_⟩
        rcases Nat.mod_two_eq_zero_or_one i with e | e
        · obtain ⟨j, rfl⟩ : ∃ j, i = 2 * j := ⟨i / 2, by omega⟩
          rw [yvv (k2 j (by omega)).1, yvv (m2 j (by omega)).1, e2 j (by omega)]
        · obtain ⟨j, rfl⟩ : ∃ j, i = 2 * j + 1 := ⟨i / 2, by omega⟩
          rw [yvv (k2 j (by omega)).2, yvv (m2 j (by omega)).2, e2 j (by omega)]
/-- two codings differ: so do the texts -/
theorem Cod.dif {cd cd' : Int32} {n k : Nat} {f g : Nat → Int32} {V V' : Cell} (h : Cod cd n f V) (h' : Cod cd' k g V') (hne : ¬ cd = cd') : ¬ SameT n f k g := by
  rintro ⟨rfl, e⟩
  rcases h with ⟨rfl, -, k2⟩ | ⟨rfl, -, -, j, hj, hw⟩
  · rcases h' with ⟨rfl, -⟩ | ⟨-, -, -, j, hj, hw⟩
    · exact hne rfl
    · exact (k2 j hj).2 (by rw [e j hj]; exact hw)
  · rcases h' with ⟨-, -, m2⟩ | ⟨rfl, -⟩
    · exact (m2 j hj).2 (by rw [← e j hj]; exact hw)
    · exact hne rfl
/-- an object of exactly C is an instance of C -/
theorem cinst {p : Program} {l : Launch} {e : Env} {R : Room} {s : State} {m : MethodId} {args : Array Value} {below : List Frame} {meth : Method} {c : Code} {T : State} {locs : List Loc} {cells slots : Nat} (X : Stand p l e R s m args below meth c T locs cells slots) (hexec : p.tables.exec = Jvm.exec) {own C : String} {index : Nat} (hown : s.vm.findClass own = some m.cls) (hlink : (Cond.classLink own index C).before args s = true) {a : Addr} (hE : Exact C a T)
    {g : JFrame} (hg : g.method = m) {rest : List Value} (hstack : g.stack = .ref a :: rest) (hdg : decode c.code g.pc = .ok (.instanceof index, 3)) :
    ∃ T', Stand p l e R s m args below meth c T' locs cells slots ∧ T'.heap = T.heap ∧ ∀ target, Steps p.tables e below (T'.setTop { g with pc := g.pc + 3, stack := .int 1 :: rest }) target → Steps p.tables e below (T.setTop g) target := by
  obtain ⟨cB, h1, D, h2, h3, h4⟩ := hE
  have h1' : s.vm.findClass C = some cB := by rw [← X.warmed.alike.findClass]; exact h1
  obtain ⟨vm', X', st⟩ := X.instanceofYes hexec hown hlink h2 h4 h1' (by rw [h3]; exact Jvm.Free.SB.assignable_self _ _) hg hstack hdg
  exact ⟨_, X', rfl, st⟩
theorem cself {p : Program} {l : Launch} {e : Env} {R : Room} {s : State} {m : MethodId} {args : Array Value} {below : List Frame} {meth : Method} {c : Code} {T : State} {locs : List Loc} {cells slots : Nat} (X : Stand p l e R s m args below meth c T locs cells slots) (hexec : p.tables.exec = Jvm.exec) {own C : String} {index : Nat} (hown : s.vm.findClass own = some m.cls) (hlink : (Cond.classLink own index C).before args s = true) {a : Addr} (hE : Exact C a T)
    {g : JFrame} (hg : g.method = m) {rest : List Value} (hstack : g.stack = .ref a :: rest) (hdg : decode c.code g.pc = .ok (.checkcast index, 3)) :
    ∃ T', Stand p l e R s m args below meth c T' locs cells slots ∧ T'.heap = T.heap ∧ ∀ target, Steps p.tables e below (T'.setTop { g with pc := g.pc + 3, stack := .ref a :: rest }) target → Steps p.tables e below (T.setTop g) target := by
  obtain ⟨cB, h1, D, h2, h3, h4⟩ := hE
  have h1' : s.vm.findClass C = some cB := by rw [← X.warmed.alike.findClass]; exact h1
  obtain ⟨vm', X', st⟩ := X.checkcastYes hexec hown hlink h2 h4 h1' (by rw [h3]; exact Jvm.Free.SB.assignable_self _ _) hg hstack hdg
  exact ⟨_, X', rfl, fun t h => st t (by rw [← hstack] at h; exact h)⟩
namespace SEq
def yN : MethodName := ⟨"java/lang/String", "equals", "(Ljava/lang/Object;)Z"⟩
abbrev yB : ByteArray := jdk_42_method_66_code
theorem d0 : decode yB 0 = .ok (.aload_n 0, 1) := by decide +kernel
theorem d1 : decode yB 1 = .ok (.aload_n 1, 1) := by decide +kernel
theorem d2 : decode yB 2 = .ok (.if_acmp (.ne) 5, 3) := by decide +kernel
theorem d5 : decode yB 5 = .ok (.iconst 1, 1) := by decide +kernel
theorem d6 : decode yB 6 = .ok (.ireturn, 1) := by decide +kernel
theorem d7 : decode yB 7 = .ok (.aload_n 1, 1) := by decide +kernel
theorem d8 : decode yB 8 = .ok (.instanceof 10, 3) := by decide +kernel
theorem d11 : decode yB 11 = .ok (.ifCond (.eq) 43, 3) := by decide +kernel
theorem d14 : decode yB 14 = .ok (.aload_n 1, 1) := by decide +kernel
theorem d15 : decode yB 15 = .ok (.checkcast 10, 3) := by decide +kernel
theorem d18 : decode yB 18 = .ok (.astore_n 2, 1) := by decide +kernel
theorem d19 : decode yB 19 = .ok (.getstatic 38, 3) := by decide +kernel
theorem d22 : decode yB 22 = .ok (.ifCond (.eq) 14, 3) := by decide +kernel
theorem d25 : decode yB 25 = .ok (.aload_n 0, 1) := by decide +kernel
theorem d26 : decode yB 26 = .ok (.getfield 15, 3) := by decide +kernel
theorem d29 : decode yB 29 = .ok (.aload_n 2, 1) := by decide +kernel
theorem d30 : decode yB 30 = .ok (.getfield 15, 3) := by decide +kernel
theorem d33 : decode yB 33 = .ok (.if_icmp (.ne) 21, 3) := by decide +kernel
theorem d36 : decode yB 36 = .ok (.aload_n 0, 1) := by decide +kernel
theorem d37 : decode yB 37 = .ok (.getfield 9, 3) := by decide +kernel
theorem d40 : decode yB 40 = .ok (.aload_n 2, 1) := by decide +kernel
theorem d41 : decode yB 41 = .ok (.getfield 9, 3) := by decide +kernel
theorem d44 : decode yB 44 = .ok (.invokestatic 541, 3) := by decide +kernel
theorem d47 : decode yB 47 = .ok (.ifCond (.eq) 7, 3) := by decide +kernel
theorem d50 : decode yB 50 = .ok (.iconst 1, 1) := by decide +kernel
theorem d51 : decode yB 51 = .ok (.goto 4, 3) := by decide +kernel
theorem d54 : decode yB 54 = .ok (.iconst 0, 1) := by decide +kernel
theorem d55 : decode yB 55 = .ok (.ireturn, 1) := by decide +kernel
def site : List Cond := [.classLink "java/lang/String" 10 "java/lang/String", .fieldLink "java/lang/String" 38 "java/lang/String" "COMPACT_STRINGS" "Z", .fieldLink "java/lang/String" 15 "java/lang/String" "coder" "B", .fieldLink "java/lang/String" 9 "java/lang/String" "value" "[B", LEq.tab] ++ staticW "java/lang/String" 541 LEq.yN
def tab : Cond := tabOf yN yB 3 (some .boolean) site
def P (x t : Addr) (V : Cell) (cd : Int32) (n : Nat) (f : Nat → Int32) (y t' : Addr) (V' : Cell) (cd' : Int32) (k : Nat) (g : Nat → Int32) (z : Int32) (args : Array Value) (s : State) : Prop := args = #[.ref x, .ref y] ∧ Txt x t V cd n f s ∧ Txt y t' V' cd' k g s ∧ StaticIs s "java/lang/String" "COMPACT_STRINGS" "Z" (.int z) ∧ ¬ z = 0
/-- equals(Object) of two Strings: whether the texts are the same -/
theorem law (l : Launch) (x t : Addr) (V : Cell) (cd : Int32) (n : Nat) (f : Nat → Int32) (y t' : Addr) (V' : Cell) (cd' : Int32) (k : Nat) (g : Nat → Int32) (z : Int32) : Law l yN 2 1 1 14 yB 3 (some .boolean) site (P x t V cd n f y t' V' cd' k g z) (Says01 (SameT n f k g)) [] 0 0 := by
  refine Law.of_walk (plainFor_of_name (by decide +kernel)) (by decide +kernel) (by decide +kernel) (by decide) (fun _ _ h => by rw [h.1]; rfl) (fun _ U U' hal hh h => ⟨h.1, h.2.1.mv hal hh, h.2.2.1.mv hal hh, h.2.2.2.1.there hal hh, h.2.2.2.2⟩) (fun r U U' V V' h1 hal h2 h => Says01.mv r U U' V V' h1 hal h2 h) ?_
  intro p e s m args below meth c s₁ X0 hexec hbytes hml hret hlk hnm hown hh0 W hP
  obtain ⟨rfl, hx, hy, s1, hz⟩ := hP
  have c1 : Steps p.tables e below (s₁.setTop (entryFrame m #[.ref x, .ref y] 3)) (s₁.setTop (mkF m 2 #[.val (.ref x), .val (.ref y), .unset] [.ref y, .ref x])) := Steps.trans (entry rfl) (by
    show Steps p.tables e below (s₁.setTop (mkF m 0 #[.val (.ref x), .val (.ref y), .unset] [])) _
    refine XS.aloadN X0.here hexec rfl (hb hbytes d0) rfl rfl ?_
    refine XS.aloadN X0.here hexec rfl (hb hbytes d1) rfl rfl ?_
    exact Steps.refl _)
  by_cases hxy : x = y
  · have c2 : Steps p.tables e below (s₁.setTop (entryFrame m #[.ref x, .ref y] 3)) (s₁.setTop (mkF m 6 #[.val (.ref x), .val (.ref y), .unset] [.int 1])) := c1.trans (by
      refine acmpNo X0.here hexec rfl (hb hbytes d2) rfl rfl rfl (by simp [acmp, hxy]) ?_
      refine iconstV X0.here hexec rfl 1 (hb hbytes d5) (by decide) ?_
      exact Steps.refl _)
    subst hxy
    have ec : cd = cd' := by
      obtain ⟨D, fd, a1, a2, a3⟩ := hx.2.2.1
      obtain ⟨D', fd', b1, b2, b3⟩ := hy.2.2.1
      cases a1.symm.trans b1
      obtain ⟨q1, q2, q3, q4⟩ := a2.1
      obtain ⟨r1, r2, r3, r4⟩ := b2.1
      cases q4.symm.trans r4
      cases a3.symm.trans b3; rfl
    have et : t = t' := by
      obtain ⟨D, fd, a1, a2, a3⟩ := hx.2.1
      obtain ⟨D', fd', b1, b2, b3⟩ := hy.2.1
      cases a1.symm.trans b1
      obtain ⟨q1, q2, q3, q4⟩ := a2.1
      obtain ⟨r1, r2, r3, r4⟩ := b2.1
      cases q4.symm.trans r4
      cases a3.symm.trans b3; rfl
    subst ec et
    have ev : V = V' := by cases hx.2.2.2.1.1.symm.trans hy.2.2.2.1.1; rfl
    subst ev
    have hs : SameT n f k g := (Cod.eqv hx.2.2.2.2.1 hy.2.2.2.2.1 hx.2.2.2.2.2 hy.2.2.2.2.2).mp ⟨rfl, fun _ _ => rfl⟩
    exact ⟨s₁, some (.int 1), _, _, _, X0, rfl, rfl, rfl, (fun h => by cases h), ⟨1, rfl, hh0, Or.inl ⟨rfl, hs⟩⟩, fun fs hl => c2.trans (X0.ireturnOut hexec hret rfl (Or.inr (Or.inl rfl)) (hb hbytes d6) hl)⟩
  · have c2 : Steps p.tables e below (s₁.setTop (entryFrame m #[.ref x, .ref y] 3)) (s₁.setTop (mkF m 8 #[.val (.ref x), .val (.ref y), .unset] [.ref y])) := c1.trans (by
      refine acmpYes X0.here hexec rfl (pc0 := 2) rfl (hb hbytes d2) rfl rfl rfl (by simp [acmp, hxy]) (by decide) rfl ?_
      refine XS.aloadN X0.here hexec rfl (hb hbytes d7) rfl rfl ?_
      exact Steps.refl _)
    obtain ⟨T3, X3, q3, st3⟩ := cinst X0 hexec hown (wk W (.classLink "java/lang/String" 10 "java/lang/String")) (hy.mv X0.warmed.alike hh0).1 (g := (mkF m 8 #[.val (.ref x), .val (.ref y), .unset] [.ref y])) rfl (rest := []) rfl (hb hbytes d8)
    have hh3 := q3.trans hh0
    have c4 : Steps p.tables e below (s₁.setTop (entryFrame m #[.ref x, .ref y] 3)) (T3.setTop (mkF m 15 #[.val (.ref x), .val (.ref y), .unset] [.ref y])) := (c2.trans (st3 _ (Steps.refl _))).trans (by
      refine XS.ifNo X3.here hexec rfl (hb hbytes d11) rfl (i0_eq_f (by decide)) ?_
      refine XS.aloadN X3.here hexec rfl (hb hbytes d14) rfl rfl ?_
      exact Steps.refl _)
    obtain ⟨T5, X5, q5, st5⟩ := cself X3 hexec hown (wk W (.classLink "java/lang/String" 10 "java/lang/String")) (hy.mv X3.warmed.alike hh3).1 (g := (mkF m 15 #[.val (.ref x), .val (.ref y), .unset] [.ref y])) rfl (rest := []) rfl (hb hbytes d15)
    have hh5 := q5.trans hh3
    have c6 : Steps p.tables e below (s₁.setTop (entryFrame m #[.ref x, .ref y] 3)) (T5.setTop (mkF m 19 #[.val (.ref x), .val (.ref y), .val (.ref y)] [])) := (c4.trans (st5 _ (Steps.refl _))).trans (by
      refine XS.astoreN X5.here hexec rfl (hb hbytes d18) rfl rfl rfl ?_
      exact Steps.refl _)
    obtain ⟨T7, X7, q7, st7⟩ := X5.sget hexec hown (wk W (.fieldLink "java/lang/String" 38 "java/lang/String" "COMPACT_STRINGS" "Z")) s1 (fun _ _ h => by rw [hh5]; exact h) (g := (mkF m 19 #[.val (.ref x), .val (.ref y), .val (.ref y)] [])) rfl (hb hbytes d19)
    have hh7 := q7.trans hh5
    have c8 : Steps p.tables e below (s₁.setTop (entryFrame m #[.ref x, .ref y] 3)) (T7.setTop (mkF m 26 #[.val (.ref x), .val (.ref y), .val (.ref y)] [.ref x])) := (c6.trans (st7 _ (Steps.refl _))).trans (by
      refine XS.ifNo X7.here hexec rfl (hb hbytes d22) rfl (i0_eq_f hz) ?_
      refine XS.aloadN X7.here hexec rfl (hb hbytes d25) rfl rfl ?_
      exact Steps.refl _)
    obtain ⟨T9, X9, q9, st9⟩ := X7.hget hexec hown (wk W (.fieldLink "java/lang/String" 15 "java/lang/String" "coder" "B")) (hx.mv X7.warmed.alike hh7).2.2.1 (g := (mkF m 26 #[.val (.ref x), .val (.ref y), .val (.ref y)] [.ref x])) rfl (rest := []) rfl (hb hbytes d26)
    have hh9 := q9.trans hh7
    have c10 : Steps p.tables e below (s₁.setTop (entryFrame m #[.ref x, .ref y] 3)) (T9.setTop (mkF m 30 #[.val (.ref x), .val (.ref y), .val (.ref y)] [.ref y, .int cd])) := (c8.trans (st9 _ (Steps.refl _))).trans (by
      refine XS.aloadN X9.here hexec rfl (hb hbytes d29) rfl rfl ?_
      exact Steps.refl _)
    obtain ⟨T11, X11, q11, st11⟩ := X9.hget hexec hown (wk W (.fieldLink "java/lang/String" 15 "java/lang/String" "coder" "B")) (hy.mv X9.warmed.alike hh9).2.2.1 (g := (mkF m 30 #[.val (.ref x), .val (.ref y), .val (.ref y)] [.ref y, .int cd])) rfl (rest := [.int cd]) rfl (hb hbytes d30)
    have hh11 := q11.trans hh9
    have c12 : Steps p.tables e below (s₁.setTop (entryFrame m #[.ref x, .ref y] 3)) (T11.setTop (mkF m 33 #[.val (.ref x), .val (.ref y), .val (.ref y)] [.int cd', .int cd])) := c10.trans (st11 _ (Steps.refl _))
    by_cases hcd : cd = cd'
    · subst hcd
      have c13 : Steps p.tables e below (s₁.setTop (entryFrame m #[.ref x, .ref y] 3)) (T11.setTop (mkF m 37 #[.val (.ref x), .val (.ref y), .val (.ref y)] [.ref x])) := c12.trans (by
        refine XS.icmpNo X11.here hexec rfl (hb hbytes d33) rfl (ii_ne_f rfl) ?_
        refine XS.aloadN X11.here hexec rfl (hb hbytes d36) rfl rfl ?_
        exact Steps.refl _)
      obtain ⟨T14, X14, q14, st14⟩ := X11.hget hexec hown (wk W (.fieldLink "java/lang/String" 9 "java/lang/String" "value" "[B")) (hx.mv X11.warmed.alike hh11).2.1 (g := (mkF m 37 #[.val (.ref x), .val (.ref y), .val (.ref y)] [.ref x])) rfl (rest := []) rfl (hb hbytes d37)
      have hh14 := q14.trans hh11
      have c15 : Steps p.tables e below (s₁.setTop (entryFrame m #[.ref x, .ref y] 3)) (T14.setTop (mkF m 41 #[.val (.ref x), .val (.ref y), .val (.ref y)] [.ref y, .ref t])) := (c13.trans (st14 _ (Steps.refl _))).trans (by
        refine XS.aloadN X14.here hexec rfl (hb hbytes d40) rfl rfl ?_
        exact Steps.refl _)
      obtain ⟨T16, X16, q16, st16⟩ := X14.hget hexec hown (wk W (.fieldLink "java/lang/String" 9 "java/lang/String" "value" "[B")) (hy.mv X14.warmed.alike hh14).2.1 (g := (mkF m 41 #[.val (.ref x), .val (.ref y), .val (.ref y)] [.ref y, .ref t])) rfl (rest := [.ref t]) rfl (hb hbytes d41)
      have hh16 := q16.trans hh14
      have c17 : Steps p.tables e below (s₁.setTop (entryFrame m #[.ref x, .ref y] 3)) (T16.setTop (mkF m 44 #[.val (.ref x), .val (.ref y), .val (.ref y)] [.ref t', .ref t])) := c15.trans (st16 _ (Steps.refl _))
      obtain ⟨v18, T18, X18, E18, g18⟩ := X16.callS hexec (LEq.law l t V t' V') hown (wks W (staticW "java/lang/String" 541 LEq.yN)) (wk W LEq.tab) (W := 0) (Nat.le_of_ble_eq_true rfl) (Nat.le_of_ble_eq_true rfl) (Nat.le_refl _) (Nat.le_refl _) (g := (mkF m 44 #[.val (.ref x), .val (.ref y), .val (.ref y)] [.ref t', .ref t])) rfl (by rw [hml]; rfl) c17 (argsL := [.ref t, .ref t']) (rest := []) rfl rfl (by show 2 * 0 + 0 ≤ _; decide) (hb hbytes d44) (⟨rfl, hx.2.2.2.1.mv X16.warmed.alike hh16, hx.2.2.2.2.1.ty, hy.2.2.2.1.mv X16.warmed.alike hh16, hy.2.2.2.2.1.ty⟩)
      obtain ⟨v, rfl, q18, hv⟩ := E18
      have iff := Cod.eqv hx.2.2.2.2.1 hy.2.2.2.2.1 hx.2.2.2.2.2 hy.2.2.2.2.2
      rcases hv with ⟨rfl, he⟩ | ⟨rfl, he⟩
      · have c19 : Steps p.tables e below (s₁.setTop (entryFrame m #[.ref x, .ref y] 3)) (T18.setTop (mkF m 55 #[.val (.ref x), .val (.ref y), .val (.ref y)] [.int 1])) := Steps.trans g18 (by
          refine XS.ifNo X18.here hexec rfl (hb hbytes d47) rfl (i0_eq_f (by decide)) ?_
          refine iconstV X18.here hexec rfl 1 (hb hbytes d50) (by decide) ?_
          refine XS.goto X18.here hexec rfl (pc0 := 51) rfl (hb hbytes d51) (by decide) rfl ?_
          exact Steps.refl _)
        exact ⟨T18, some (.int 1), _, _, _, X18, rfl, rfl, rfl, (fun h => by cases h), ⟨1, rfl, q18.trans hh16, Or.inl ⟨rfl, iff.mp he⟩⟩, fun fs hl => c19.trans (X18.ireturnOut hexec hret rfl (Or.inr (Or.inl rfl)) (hb hbytes d55) hl)⟩
      · have c19 : Steps p.tables e below (s₁.setTop (entryFrame m #[.ref x, .ref y] 3)) (T18.setTop (mkF m 55 #[.val (.ref x), .val (.ref y), .val (.ref y)] [.int 0])) := Steps.trans g18 (by
          refine XS.ifYes X18.here hexec rfl (pc0 := 47) rfl (hb hbytes d47) rfl (i0_eq_t rfl) (by decide) rfl ?_
          refine iconstV X18.here hexec rfl 0 (hb hbytes d54) (by decide) ?_
          exact Steps.refl _)
        exact ⟨T18, some (.int 0), _, _, _, X18, rfl, rfl, rfl, (fun h => by cases h), ⟨0, rfl, q18.trans hh16, Or.inr ⟨rfl, fun q => he (iff.mpr q)⟩⟩, fun fs hl => c19.trans (X18.ireturnOut hexec hret rfl (Or.inr (Or.inl rfl)) (hb hbytes d55) hl)⟩
    · have c13 : Steps p.tables e below (s₁.setTop (entryFrame m #[.ref x, .ref y] 3)) (T11.setTop (mkF m 55 #[.val (.ref x), .val (.ref y), .val (.ref y)] [.int 0])) := c12.trans (by
        refine XS.icmpYes X11.here hexec rfl (pc0 := 33) rfl (hb hbytes d33) rfl (ii_ne_t hcd) (by decide) rfl ?_
        refine iconstV X11.here hexec rfl 0 (hb hbytes d54) (by decide) ?_
        exact Steps.refl _)
      exact ⟨T11, some (.int 0), _, _, _, X11, rfl, rfl, rfl, (fun h => by cases h), ⟨0, rfl, hh11, Or.inr ⟨rfl, Cod.dif hx.2.2.2.2.1 hy.2.2.2.2.1 hcd⟩⟩, fun fs hl => c13.trans (X11.ireturnOut hexec hret rfl (Or.inr (Or.inl rfl)) (hb hbytes d55) hl)⟩
theorem pays {l : Launch} {R : Room} {p : Program} {e : Env} {below : List Frame} {s : State} {sargs : Array Value} {len W : Nat} (x t : Addr) (V : Cell) (cd : Int32) (n : Nat) (f : Nat → Int32) (y t' : Addr) (V' : Cell) (cd' : Int32) (k : Nat) (g : Nat → Int32) (z : Int32) (htab : tab.before sargs s = true) (hfr : 2 ≤ R.frames) (hlo : W + 28 ≤ R.locals) :
    Back l R p e below s sargs yN len W (fun A₁ a₁ => A₁.cells + 0 ≤ R.cells ∧ A₁.slots + 0 ≤ R.slots ∧ P x t V cd n f y t' V' cd' k g z a₁ A₁.U) (fun A₁ _ v₁ B₁ => Says01 (SameT n f k g) v₁ A₁.U B₁.U ∧ B₁.locs = A₁.locs ++ [] ∧ B₁.cells = A₁.cells + 0 ∧ B₁.slots = A₁.slots + 0) :=
  (law l x t V cd n f y t' V' cd' k g z).pays htab hfr (by omega)
end SEq
end StrChars
namespace StrChars.Road
open Jvm Sem ClassFile Op Lib Jvm.Stand Jvm.Free Jvm.Free.XT
open Jvm.Lib.Cold (StaticIs)
/-- the words of String.equals(Object) -/
abbrev wordsEq : List Jvm.Cond := [.code SEq.yN SEq.yB 3 (some .boolean), .initialized ST, .classLink ST 10 ST, .fieldLink ST 38 ST "COMPACT_STRINGS" "Z", .fieldLink ST 15 ST "coder" "B", .fieldLink ST 9 ST "value" "[B", .methodLink ST 541 LEq.yN, .static LEq.yN, .code LEq.yN LEq.yB 3 (some .boolean), .initialized "java/lang/StringLatin1"]
theorem tabEq_of {a : Array Value} {s : State} (h : ∀ w ∈ wordsEq, w.before a s = true) : SEq.tab.before a s = true := by
  have hl : LEq.tab.before a s = true := unparts (wk h (.code LEq.yN LEq.yB 3 (some .boolean))) (wks h (.initialized LEq.yN.cls :: LEq.site))
  have q := consq hl h
  exact unparts (wk q (.code SEq.yN SEq.yB 3 (some .boolean))) (wks q (.initialized SEq.yN.cls :: SEq.site))
theorem movedEq {Z s : State} {a0 args : Array Value} (hZ : Z.Warmed39 s.vm) (hw : ∀ d ∈ wordsEq, d.before a0 Z = true) : ∀ d ∈ wordsEq, d.before args s = true := fun d hd => by
  have t : ∀ d ∈ wordsEq, (d.onTables && d.keepsFace) = true := by decide +kernel
  exact RoadKit.mv hZ (hw d hd) (t d hd)
/-- the road's facts of a String, as the laws ask it -/
theorem txt_of {Z U : State} {a0 : Array Value} {kI : Nat} (wi : (Jvm.Cond.instantiable ST kI).before a0 Z = true) (al : Z.vm.Alike U.vm) {x t : Addr} {kb : ClassId} {cs : List Int32} {cd N2 : Int32} {vs : List Value} (E : RoadKit.Exa Z U.heap x ST) (V : RoadKit.Fld Z U.heap x ST "value" "[B" (.ref t)) (C : RoadKit.Fld Z U.heap x ST "coder" "B" (.int cd)) (K : RoadKit.Arv Z U.heap t kb .byte N2 vs (.int 0)) (hc : CodA cs cd N2 vs) (hb : ∀ c ∈ cs, ¬ c < 0 ∧ ¬ (65535 : Int32) < c) (l2 : cs.length ≤ 4000) :
    ∃ A, Txt x t A cd cs.length (fun j => cs.getD j 0) U := by
  obtain ⟨A, K1, K2, K3, K4, K5, K6⟩ := K
  have hcod := hc.cod (by omega) K3 K5
  obtain ⟨D, fV, fC, hB, F1, F2, g1, g2, -, -⟩ := strObj wi al E V C
  exact ⟨A, ⟨_, hB.2.2.1, D, hB.1, rfl, by cases q : D.vm <;> first | rfl | exact absurd q (hB.2.1.2 _)⟩, Has.of hB F1 g1, Has.of hB F2 g2, ⟨K1.1, State.isArrayOf_alike al K1.2.1, K1.2.2, by rcases hcod with ⟨-, q, -⟩ | ⟨-, q, -⟩ <;> omega⟩, hcod, fun j hj => by
    have e : cs.getD j 0 = cs[j] := by simp [List.getD_eq_getElem?_getD, hj]
    show ¬ cs.getD j 0 < 0 ∧ ¬ 65535 < cs.getD j 0
    rw [e]; exact hb _ (List.getElem_mem _)⟩
theorem same_list (cs ds : List Int32) : SameT cs.length (fun j => cs.getD j 0) ds.length (fun j => ds.getD j 0) ↔ cs = ds := by
  constructor
  · rintro ⟨e, q⟩
    refine List.ext_getElem e fun j h1 h2 => ?_
    have := q j h1
    simpa [List.getD_eq_getElem?_getD, h1, h2] using this
  · rintro rfl
    exact ⟨rfl, fun _ _ => rfl⟩
/-- **equals(Object) OF TWO SUCH STRINGS**: 1 just where the chars are the same -/
theorem eqW {p : Program} {l : Launch} {e : Env} {R : Room} {s : State} {args : Array Value} {below : List Frame} {len W : Nat} {Z : State} {a0 : Array Value} {h : Heap} (hZ : Z.Warmed39 s.vm) (hw : ∀ d ∈ wordsEq, d.before a0 Z = true) {kI : Nat} (wi : (Jvm.Cond.instantiable ST kI).before a0 Z = true)
    {x t : Addr} {kb : ClassId} {cs : List Int32} {cd N2 : Int32} {vs : List Value} (E : RoadKit.Exa Z h x ST) (V : RoadKit.Fld Z h x ST "value" "[B" (.ref t)) (C : RoadKit.Fld Z h x ST "coder" "B" (.int cd)) (K : RoadKit.Arv Z h t kb .byte N2 vs (.int 0)) (hc : CodA cs cd N2 vs) (hb : ∀ c ∈ cs, ¬ c < 0 ∧ ¬ (65535 : Int32) < c) (l2 : cs.length ≤ 4000)
    {y t' : Addr} {kb' : ClassId} {ds : List Int32} {cd' N2' : Int32} {vs' : List Value} (E' : RoadKit.Exa Z h y ST) (V' : RoadKit.Fld Z h y ST "value" "[B" (.ref t')) (C' : RoadKit.Fld Z h y ST "coder" "B" (.int cd')) (K' : RoadKit.Arv Z h t' kb' .byte N2' vs' (.int 0)) (hc' : CodA ds cd' N2' vs') (hb' : ∀ c ∈ ds, ¬ c < 0 ∧ ¬ (65535 : Int32) < c) (l2' : ds.length ≤ 4000)
    {z : Int32} (S : RoadKit.Sta Z h ST "COMPACT_STRINGS" "Z" (.int z)) (hz : ¬ z = 0) (hfr : 2 ≤ R.frames) (hlo : W + 28 ≤ R.locals) :
    Back l R p e below s args (⟨"java/lang/String", "equals", "(Ljava/lang/Object;)Z"⟩ : MethodName) len W (fun P a => a = #[.ref x, .ref y] ∧ P.U.heap = h ∧ P.cells + 0 ≤ R.cells ∧ P.slots + 0 ≤ R.slots)
      (fun P _ v B => ∃ L, (((v = some (.int 1) ∧ cs = ds) ∨ (v = some (.int 0) ∧ ¬ cs = ds)) ∧ L = [] ∧ B.U.heap = h) ∧ B.locs = P.locs ++ L ∧ B.cells = P.cells + 0 ∧ B.slots = P.slots + 0) := by
  intro m meth c P g ig mk a X hg hsize hdg hW hn hp'
  obtain ⟨rfl, rfl, r1, r2⟩ := hp'
  have al : Z.vm.Alike P.U.vm := hZ.alike.trans X.warmed.alike
  obtain ⟨A, hx⟩ := txt_of wi al E V C K hc hb l2
  obtain ⟨A', hy⟩ := txt_of wi al E' V' C' K' hc' hb' l2'
  obtain ⟨v, B, X', ⟨⟨w, hv, hh, hq⟩, hl, hk, hs⟩, st⟩ := SEq.pays x t A cd cs.length (fun j => cs.getD j 0) y t' A' cd' ds.length (fun j => ds.getD j 0) z (tabEq_of (movedEq hZ hw)) hfr hlo m meth c P g ig mk _ X hg hsize hdg hW hn ⟨r1, r2, rfl, hx, hy, sta_is al S, hz⟩
  refine ⟨v, B, X', ⟨[], ⟨?_, rfl, hh⟩, hl, hk, hs⟩, st⟩
  rcases hq with ⟨rfl, q⟩ | ⟨rfl, q⟩
  · exact Or.inl ⟨hv, (same_list cs ds).mp q⟩
  · exact Or.inr ⟨hv, fun e => q ((same_list cs ds).mpr e)⟩
end StrChars.Road
namespace StrChars.Road
open Jvm Sem ClassFile Op Lib Jvm.Stand Jvm.Free Jvm.Free.XT
open Jvm.Lib.Cold (StaticIs)
/-- what backV says of its String, as the contracts of this text ask it: cs's low bytes, coder 0 -/
theorem codOf {cs : List Int32} {n : Nat} (hn : cs.length = n) (hb : ∀ c ∈ cs, ¬ 255 < c) : CodA cs 0 (Int32.ofNat n) ((cs.map lo8).map Value.int) := Or.inl ⟨rfl, by rw [hn], by simp [List.map_map, Function.comp_def], hb⟩
end StrChars.Road
end Jvm.Pilot.@@N@@
namespace Jvm.Pilot.@@N@@
open Jvm Jvm.ClassFile Sem Op Lib Jvm.Free Jvm.Stand Jvm.LawKit Jvm.RoadKit Bundle Jvm.Pilot.@@N@@.Jvm.D
def irm (a b : Int32) : Int32 := a - a / b * b
theorem wi {Z : State} {a0 : Array Value} (hw : ∀ d ∈ tables_1, d.before a0 Z = true) {d : Jvm.Cond} (i : Nat) (h : tables_1[i]? = some d) : d.before a0 Z = true := hw d (List.mem_of_getElem? h)
theorem own_uniq {Z : State} {h : Heap} {a : Addr} {C n d : String} {v w : Value} (F : Fld Z h a C n d v) (G : Fld Z h a C n d w) : v = w := by
  obtain ⟨c1, cf1, k1, i1, f1, a1, a2, -, -, -, -, a7⟩ := F
  obtain ⟨c2, cf2, k2, i2, f2, b1, b2, -, -, -, -, b7⟩ := G
  cases a1.symm.trans b1
  cases a2.symm.trans b2
  exact Option.some.inj (a7.symm.trans b7)
theorem own_ne {Z : State} {h : Heap} {a b : Addr} {C n d : String} {v w : Value} (F : Fld Z h a C n d v) (G : Fld Z h b C n d w) (hn : v ≠ w) : a ≠ b := fun e => by
  subst e
  exact hn (own_uniq F G)
theorem own_fldI {s : State} {args : Array Value} {t : Term} {a : Addr} {C n d : String} {k : Int32} (ev : t.eval args s none [] s = some (.ref a)) (h : (Cond.eq (Term.field t C n d) (Term.int k)).value args s none s [] = some true) : Fld s s.heap a C n d (.int k) := Fld.start ((fld_at ev).symm.trans (eqv_i rfl h))
theorem own_len {s : State} {args : Array Value} {t : Term} {a : Addr} {cl : Cell} {ty : FieldType} {n : Int32} (ev : t.eval args s none [] s = some (.ref a)) (A : Arr s s.heap a cl ty) (h : (Cond.eq (Term.length t) (Term.int n)).value args s none s [] = some true) : cl.slots.size < 2 ^ 31 ∧ cl.slots.size.toInt32 = n := by
  have e := eqv_i rfl h
  have ha := A.fin (Vm.Alike.refl _)
  simp only [Term.eval, ev, Option.bind_eq_bind, Option.bind_some, ha] at e
  split at e
  · rename_i hl
    exact ⟨hl, by simpa using e⟩
  · cases e
theorem own_elI {s : State} {args : Array Value} {t : Term} {a : Addr} {cl : Cell} {ty : FieldType} {j v : Int32} (ev : t.eval args s none [] s = some (.ref a)) (A : Arr s s.heap a cl ty) (h : (Cond.eq (Term.elem t (Term.int j)) (Term.int v)).value args s none s [] = some true) : cl.slots[j.toNatClampNeg]? = some (.int v) := (elem_in (eqv_i rfl h) ev rfl A.1).2
theorem own_eqv_r {Z : State} {args : Array Value} {X F : Term} {idx : List Nat} {y : Addr} (hF : F.eval args Z none idx Z = some (.ref y)) (h : (Cond.eq X F).value args Z none Z idx = some true) : X.eval args Z none idx Z = some (.ref y) := by
  obtain ⟨x, y', e1, e2, k1, k2⟩ := cmp_v (Or.inl h)
  cases hF.symm.trans e2
  have hx : x.isRef = true := k2.2
  rw [e1, gotT (eq_R e1 hF hx rfl) h]
theorem own_elR {s : State} {args : Array Value} {t F : Term} {a w : Addr} {cl : Cell} {ty : FieldType} {j : Int32} (ev : t.eval args s none [] s = some (.ref a)) (A : Arr s s.heap a cl ty) (hF : F.eval args s none [] s = some (.ref w)) (h : (Cond.eq (Term.elem t (Term.int j)) F).value args s none s [] = some true) : cl.slots[j.toNatClampNeg]? = some (.ref w) := (elem_in (own_eqv_r hF h) ev rfl A.1).2
theorem own_up (cs : List Int32) (h : ∀ c ∈ cs, ¬ c < 0 ∧ ¬ (255 : Int32) < c) : ∀ c ∈ cs, ¬ c < 0 ∧ ¬ (65535 : Int32) < c := fun c hc => ⟨(h c hc).1, fun q => (h c hc).2 (by rw [Int32.lt_iff_toInt_lt] at q ⊢; have e1 : (65535 : Int32).toInt = 65535 := rfl; have e2 : (255 : Int32).toInt = 255 := rfl; omega)⟩
theorem own_memS {a : Int32} {l : List Int32} (h : ¬ a < 0 ∧ ¬ (255 : Int32) < a) (r : ∀ c ∈ l, ¬ c < 0 ∧ ¬ (255 : Int32) < c) : ∀ c ∈ a :: l, ¬ c < 0 ∧ ¬ (255 : Int32) < c := fun c hc => by
  rcases List.mem_cons.mp hc with q | q
  · rw [q]; exact h
  · exact r c q
theorem own_mem0 : ∀ c ∈ ([] : List Int32), ¬ c < 0 ∧ ¬ (255 : Int32) < c := fun _ q => nomatch q
def Str (Z : State) (h : Heap) (x : Addr) (cs : List Int32) : Prop := ∃ (t : Addr) (kb : ClassId) (N : Int32) (vs : List Value), Exa Z h x "java/lang/String" ∧ Fld Z h x "java/lang/String" "value" "[B" (.ref t) ∧ Fld Z h x "java/lang/String" "coder" "B" (.int 0) ∧ Arv Z h t kb .byte N vs (.int 0) ∧ StrChars.Road.CodA cs 0 N vs ∧ (∀ c ∈ cs, ¬ c < 0 ∧ ¬ (255 : Int32) < c) ∧ cs.length ≤ 4000
theorem Str.ext {Z : State} {h h' : Heap} {x : Addr} {cs : List Int32} (E : Ext h h') (S : Str Z h x cs) : Str Z h' x cs := by
  obtain ⟨t, kb, N, vs, q1, q2, q3, q4, q5, q6, q7⟩ := S
  exact ⟨t, kb, N, vs, q1.ext E, q2.ext E, q3.ext E, q4.ext E, q5, q6, q7⟩
theorem own_ext {h h' : Heap} (K : Keep h h' []) : Ext h h' := ⟨K.1, fun a c q => K.2.1 a c q nin0⟩
def Q8 (Z : State) (kV : ClassId) (vs : List Value) (h0 : Heap) (n0 : Nat) (v : Option Value) (h : Heap) (L : List Loc) : Prop := ∃ b : Addr, v = some (.ref b) ∧ Fr n0 L ∧ Keep h0 h [] ∧ h0.size ≤ b ∧ Arv Z h b kV (.object "dev/tryst/tool/Workload$QueueKind") (3 : Int32) vs .null
theorem d8_0 : decode prog_40_method_1_code 0 = .ok (.getstatic 13, 3) := by decide +kernel
theorem d8_3 : decode prog_40_method_1_code 3 = .ok (.invokevirtual 17, 3) := by decide +kernel
theorem d8_6 : decode prog_40_method_1_code 6 = .ok (.checkcast 18, 3) := by decide +kernel
theorem d8_9 : decode prog_40_method_1_code 9 = .ok (.areturn, 1) := by decide +kernel
theorem ef__0 (m : MethodId)  : entryFrame m #[] 0 = mkF m 0 #[] [] := by first | (simp [entryFrame, mkF, argsToLocals, Value.category]; done) | rfl
theorem pn_0 : plainName "dev/tryst/tool/Workload$QueueKind" = true := by first | (simp [plainName, overriddenIn]; done) | decide +kernel
set_option maxRecDepth 65536 in
set_option maxHeartbeats 40000000 in
theorem rm8 (l : Launch) (Z : State) (a0 : Array Value) (hw : ∀ d ∈ tables_1, d.before a0 Z = true) (ws : List Jvm.Cond) (kV : ClassId) (wV w0 w1 w2 : Addr) (h0 : Heap) (n0 : Nat) (O0 : Old Z n0 h0) (S_V : Sta Z Z.heap "dev/tryst/tool/Workload$QueueKind" "$VALUES" "[Ldev/tryst/tool/Workload$QueueKind;" (.ref wV)) (A_V : Arv Z Z.heap wV kV (.object "dev/tryst/tool/Workload$QueueKind") (3 : Int32) [(.ref w0), (.ref w1), (.ref w2)] .null) (E_V : Exa Z Z.heap wV "[Ldev/tryst/tool/Workload$QueueKind;") :
    MetFree l (⟨"dev/tryst/tool/Workload$QueueKind", "values", "()[Ldev/tryst/tool/Workload$QueueKind;"⟩ : MethodName) (head1 (Jvm.Cond.code (⟨"dev/tryst/tool/Workload$QueueKind", "values", "()[Ldev/tryst/tool/Workload$QueueKind;"⟩ : MethodName) prog_40_method_1_code 0 (some (.array (.object "dev/tryst/tool/Workload$QueueKind"))) :: ws) ({ frames := 1, cells := 1, slots := 3, locals := 14 } : Room)) (fun a_ U => a_ = #[] ∧ Z.Warmed39 U.vm ∧ U.heap = h0) (fun _ _ _ _ _ => True) (fun _ U o U' => ∃ v L, o = .returned v ∧ Q8 Z kV [(.ref w0), (.ref w1), (.ref w2)] h0 n0 v U'.heap L ∧ FrameEnd U o U' L ({ frames := 1, cells := 1, slots := 3, locals := 14 } : Room).cells ({ frames := 1, cells := 1, slots := 3, locals := 14 } : Room).slots) := by
  refine MetFree.of_bodySF (plainFor_of_name pn_0) hisR ?_
  intro p e s m args below meth c s₁ Bd hml0 hP hK
  obtain ⟨rfl, hZ, hh⟩ := hP
  have hx := Bd.exec
  have hby := Bd.bytes
  have hml : c.maxLocals = 0 := hml0
  have hown : s.vm.findClass "dev/tryst/tool/Workload$QueueKind" = some m.cls := findClass_of_methodNamed Bd.named
  have hnm := (name_of_methodNamed Bd.named Bd.method).1
  have X0 : Stand p l e ({ frames := 1, cells := 1, slots := 3, locals := 14 } : Room) s m #[] below meth c s₁ [] 0 0 := Stand.of_body Bd
  have e0 : s₁.heap = h0 := by rw [← hh, Bd.state]; rfl
  have N0 := Fr.nil n0
  have pre0 : ∀ tg, Steps p.tables e below (s₁.setTop (mkF m 0 #[] [])) tg → Steps p.tables e below (s₁.setTop (entryFrame m #[] 0)) tg := fun tg kq => castTop (ef__0 m) kq
  obtain ⟨T101, X101, e101, st101⟩ := getS2 X0 hx hZ hown (host := "") (Or.inl (wi hw 40 rfl)) Via.refl e0 (S_V.ext O0.2) (g := (mkF m 0 #[] [])) rfl (hb hby d8_0)
  obtain ⟨T102, h102, X102, e102, E102, B102, A102, st102⟩ := cloneH X101 hx hZ hown (wi hw 42 rfl) (wi hw 43 rfl) (wi hw 47 rfl) (wi hw 45 rfl) (wi hw 46 rfl) (wi hw 48 rfl) e101 (Arv.arh (A_V.ext O0.2)) (E_V.ext O0.2) (g := (mkF m 3 #[] [(.ref wV)])) rfl (by rw [hml]; rfl) rfl (hb hby d8_3) (by decide) (W := 0) (cap := 3) (by show 2 * 0 + _ ≤ _; exact Nat.le_of_eq rfl) (by decide) (by decide) (by decide) (by decide)
  obtain ⟨b102, g102⟩ : ∃ z, z = h0.size := ⟨_, rfl⟩
  rw [← g102] at B102 A102 st102
  have g_b102 : n0 ≤ b102 := Nat.le_trans (O0.1 ▸ O0.2.1) (Nat.le_of_eq g102.symm)
  have sz_b102 : h0.size ≤ b102 := Nat.le_trans (Nat.le_refl _) (Nat.le_of_eq g102.symm)
  have O102 := O0.ext E102
  have KK102 : Keep h0 h102 [] := (Keep.refl h0 []).ext E102
  have V_b102 : Arv Z h102 b102 kV (.object "dev/tryst/tool/Workload$QueueKind") (3 : Int32) [(.ref w0), (.ref w1), (.ref w2)] .null := B102
  obtain ⟨T103, X103, e103, st103⟩ := castY X102 hx hZ hown (wi hw 52 rfl) e102 (Ins.self A102) (g := (mkF m 6 #[] [(.ref b102)])) rfl rfl (hb hby d8_6)
  obtain ⟨fs, hr, hrun, hended, hW, hsame⟩ := X103.leave (v := some (.ref b102)) (fun h => by rw [Bd.returns] at h; cases h)
  refine ⟨_, _, pre0 _ ?_, hrun, hended, _, _, rfl, ?_, ⟨_, rfl⟩, hW, hsame.mono (by decide) (by decide)⟩
  · show Steps p.tables e below (s₁.setTop (mkF m 0 #[] [])) _
    refine st101 _ ?_
    show Steps p.tables e below (T101.setTop (mkF m 3 #[] [(.ref wV)])) _
    refine st102 _ ?_
    show Steps p.tables e below (T102.setTop (mkF m 6 #[] [(.ref b102)])) _
    refine st103 _ ?_
    show Steps p.tables e below (T103.setTop (mkF m 9 #[] [(.ref b102)])) _
    jvm_step X103.here [X103.here.top, hx, (hb hby d8_9), X103.method', Bd.returns, Value.isRef, FieldType.isReference]
    first | (intro acts; rw [hr _ acts rfl rfl rfl]) | rw [hr _ _ rfl rfl rfl]
    exact Steps.refl _
  · show Q8 Z kV [(.ref w0), (.ref w1), (.ref w2)] h0 n0 _ T103.heap _
    rw [e103]
    exact ⟨_, rfl, N0, KK102, sz_b102, V_b102⟩
def Q7 (r : Value) (h0 : Heap) (n0 : Nat) (v : Option Value) (h : Heap) (L : List Loc) : Prop := v = some r ∧ Fr n0 L ∧ Keep h0 h []
theorem d7_0 : decode prog_40_method_5_code 0 = .ok (.invokestatic 40, 3) := by decide +kernel
theorem pd_0 : parseMethodDescriptor "()[Ldev/tryst/tool/Workload$QueueKind;" = some ⟨[], some (.array (.object "dev/tryst/tool/Workload$QueueKind"))⟩ := by decide +kernel
theorem d7_3 : decode prog_40_method_5_code 3 = .ok (.astore_n 1, 1) := by decide +kernel
theorem d7_4 : decode prog_40_method_5_code 4 = .ok (.aload_n 1, 1) := by decide +kernel
theorem d7_5 : decode prog_40_method_5_code 5 = .ok (.arraylength, 1) := by decide +kernel
theorem d7_6 : decode prog_40_method_5_code 6 = .ok (.istore_n 2, 1) := by decide +kernel
theorem d7_7 : decode prog_40_method_5_code 7 = .ok (.iconst 0, 1) := by decide +kernel
theorem d7_8 : decode prog_40_method_5_code 8 = .ok (.istore_n 3, 1) := by decide +kernel
theorem d7_9 : decode prog_40_method_5_code 9 = .ok (.iload_n 3, 1) := by decide +kernel
theorem d7_10 : decode prog_40_method_5_code 10 = .ok (.iload_n 2, 1) := by decide +kernel
theorem d7_11 : decode prog_40_method_5_code 11 = .ok (.if_icmp .ge 29, 3) := by decide +kernel
theorem d7_14 : decode prog_40_method_5_code 14 = .ok (.aload_n 1, 1) := by decide +kernel
theorem d7_15 : decode prog_40_method_5_code 15 = .ok (.iload_n 3, 1) := by decide +kernel
theorem d7_16 : decode prog_40_method_5_code 16 = .ok (.aaload, 1) := by decide +kernel
theorem d7_17 : decode prog_40_method_5_code 17 = .ok (.astore 4, 2) := by decide +kernel
theorem d7_19 : decode prog_40_method_5_code 19 = .ok (.aload 4, 2) := by decide +kernel
theorem d7_21 : decode prog_40_method_5_code 21 = .ok (.getfield 32, 3) := by decide +kernel
theorem d7_24 : decode prog_40_method_5_code 24 = .ok (.aload_n 0, 1) := by decide +kernel
theorem d7_25 : decode prog_40_method_5_code 25 = .ok (.invokevirtual 46, 3) := by decide +kernel
theorem own_w_eqW : ∀ d ∈ StrChars.Road.wordsEq, d ∈ tables_1 := by decide +kernel
theorem pd_1 : parseMethodDescriptor "(Ljava/lang/Object;)Z" = some ⟨[(.object "java/lang/Object")], some .boolean⟩ := by decide +kernel
theorem d7_28 : decode prog_40_method_5_code 28 = .ok (.ifCond .eq 6, 3) := by decide +kernel
theorem d7_31 : decode prog_40_method_5_code 31 = .ok (.aload 4, 2) := by decide +kernel
theorem d7_33 : decode prog_40_method_5_code 33 = .ok (.areturn, 1) := by decide +kernel
theorem ef_R_5 (m : MethodId) (x0 : Addr) : entryFrame m #[(.ref x0)] 5 = mkF m 0 #[.val (.ref x0), .unset, .unset, .unset, .unset] [] := by first | (simp [entryFrame, mkF, argsToLocals, Value.category]; done) | rfl
set_option maxRecDepth 65536 in
set_option maxHeartbeats 40000000 in
theorem rm7_0 (l : Launch) (Z : State) (a0 : Array Value) (hw : ∀ d ∈ tables_1, d.before a0 Z = true) (ws : List Jvm.Cond) (G1 : Int32) (kV : ClassId) (wV w0 w1 w2 : Addr) (s0 s1 s2 : Addr) (a1 : Addr) (h0 : Heap) (n0 : Nat) (O0 : Old Z n0 h0) (S_CS : Sta Z Z.heap "java/lang/String" "COMPACT_STRINGS" "Z" (.int G1)) (hG1 : ¬ (G1 = (0 : Int32))) (S_V : Sta Z Z.heap "dev/tryst/tool/Workload$QueueKind" "$VALUES" "[Ldev/tryst/tool/Workload$QueueKind;" (.ref wV)) (A_V : Arv Z Z.heap wV kV (.object "dev/tryst/tool/Workload$QueueKind") (3 : Int32) [(.ref w0), (.ref w1), (.ref w2)] .null) (E_V : Exa Z Z.heap wV "[Ldev/tryst/tool/Workload$QueueKind;") (M0 : Fld Z Z.heap w0 "dev/tryst/tool/Workload$QueueKind" "mWord" "Ljava/lang/String;" (.ref s0)) (M1 : Fld Z Z.heap w1 "dev/tryst/tool/Workload$QueueKind" "mWord" "Ljava/lang/String;" (.ref s1)) (M2 : Fld Z Z.heap w2 "dev/tryst/tool/Workload$QueueKind" "mWord" "Ljava/lang/String;" (.ref s2)) (T0 : Str Z Z.heap s0 ([(97 : Int32), (114 : Int32), (114 : Int32), (97 : Int32), (121 : Int32)] : List Int32)) (T1 : Str Z Z.heap s1 ([(108 : Int32), (105 : Int32), (110 : Int32), (107 : Int32), (101 : Int32), (100 : Int32)] : List Int32)) (T2 : Str Z Z.heap s2 ([(108 : Int32), (105 : Int32), (110 : Int32), (107 : Int32), (101 : Int32), (100 : Int32), (45 : Int32), (100 : Int32), (101 : Int32), (113 : Int32), (117 : Int32), (101 : Int32)] : List Int32)) (T : Str Z h0 a1 ([(97 : Int32), (114 : Int32), (114 : Int32), (97 : Int32), (121 : Int32)] : List Int32)) :
    MetFree l (⟨"dev/tryst/tool/Workload$QueueKind", "of", "(Ljava/lang/String;)Ldev/tryst/tool/Workload$QueueKind;"⟩ : MethodName) (head1 (Jvm.Cond.code (⟨"dev/tryst/tool/Workload$QueueKind", "of", "(Ljava/lang/String;)Ldev/tryst/tool/Workload$QueueKind;"⟩ : MethodName) prog_40_method_5_code 5 (some (.object "dev/tryst/tool/Workload$QueueKind")) :: ws) ({ frames := 2, cells := 1, slots := 3, locals := 28 } : Room)) (fun a_ U => a_ = #[(.ref a1)] ∧ Z.Warmed39 U.vm ∧ U.heap = h0) (fun _ _ _ _ _ => True) (fun _ U o U' => ∃ v L, o = .returned v ∧ Q7 (.ref w0) h0 n0 v U'.heap L ∧ FrameEnd U o U' L ({ frames := 2, cells := 1, slots := 3, locals := 28 } : Room).cells ({ frames := 2, cells := 1, slots := 3, locals := 28 } : Room).slots) := by
  refine MetFree.of_bodySF (plainFor_of_name pn_0) hisR ?_
  intro p e s m args below meth c s₁ Bd hml0 hP hK
  obtain ⟨rfl, hZ, hh⟩ := hP
  have hx := Bd.exec
  have hby := Bd.bytes
  have hml : c.maxLocals = 5 := hml0
  have hown : s.vm.findClass "dev/tryst/tool/Workload$QueueKind" = some m.cls := findClass_of_methodNamed Bd.named
  have hnm := (name_of_methodNamed Bd.named Bd.method).1
  have X0 : Stand p l e ({ frames := 2, cells := 1, slots := 3, locals := 28 } : Room) s m #[(.ref a1)] below meth c s₁ [] 0 0 := Stand.of_body Bd
  have e0 : s₁.heap = h0 := by rw [← hh, Bd.state]; rfl
  have N0 := Fr.nil n0
  have pre0 : ∀ tg, Steps p.tables e below (s₁.setTop (mkF m 0 #[.val (.ref a1), .unset, .unset, .unset, .unset] [])) tg → Steps p.tables e below (s₁.setTop (entryFrame m #[(.ref a1)] 5)) tg := fun tg kq => castTop (ef_R_5 m a1) kq
  obtain ⟨tm0, kbm0, Nm0, vsm0, sEm0, sVm0, sCm0, sKm0, scdm0, shpm0, shlm0⟩ := id T0
  obtain ⟨tm1, kbm1, Nm1, vsm1, sEm1, sVm1, sCm1, sKm1, scdm1, shpm1, shlm1⟩ := id T1
  obtain ⟨tm2, kbm2, Nm2, vsm2, sEm2, sVm2, sCm2, sKm2, scdm2, shpm2, shlm2⟩ := id T2
  obtain ⟨ta, kba, Na, vsa, sEa, sVa, sCa, sKa, scda, shpa, shla⟩ := id T
  obtain ⟨_, _, ⟨T101, L101, k101, n101⟩, -, X101, ⟨Lc101, hQ101, l101, y101, z101⟩, st101⟩ := Jvm.LawKit.callS X0 hx (y := (⟨"dev/tryst/tool/Workload$QueueKind", "values", "()[Ldev/tryst/tool/Workload$QueueKind;"⟩ : MethodName)) hown (mvT hZ (wi hw 37 rfl)) (mvT hZ (wi hw 38 rfl)) (mvT hZ (wi hw 3 rfl)) (mvT hZ (wi hw 39 rfl)) (by decide) (backOf (W := 0) (rm8 l Z a0 hw [] kV wV w0 w1 w2 h0 n0 O0 S_V A_V E_V) hZ (wi hw 39 rfl) (wi hw 3 rfl) (by decide) (by decide)) (g := (mkF m 0 #[.val (.ref a1), .unset, .unset, .unset, .unset] [])) rfl (by rw [hml]; rfl) (argsL := []) (rest := []) (lenOf pd_0 rfl) rfl (by show 2 * 0 + _ ≤ _; exact Nat.le_of_eq rfl) (hb hby d7_0) (fun _ _ => ⟨rfl, e0, (by decide : 0 + 1 ≤ _), (by decide : 0 + 3 ≤ _)⟩)
  dsimp only [Pt.U, Pt.locs, Pt.cells, Pt.slots] at X101 l101 y101 z101 st101 hQ101
  subst l101 y101 z101
  obtain ⟨bv101, rfl, N101q, K101, szv101, Av101⟩ := hQ101
  obtain ⟨h101, e101⟩ : ∃ z, T101.heap = z := ⟨_, rfl⟩
  rw [e101] at K101 Av101
  have g_bv101 : n0 ≤ bv101 := Nat.le_trans (O0.1 ▸ O0.2.1) szv101
  have sz_bv101 : h0.size ≤ bv101 := Nat.le_trans (Nat.le_refl _) szv101
  have O101 := O0.keep K101 all0
  have KK101 : Keep h0 h101 [] := (Keep.refl h0 []).trans K101 all0
  have N101 := Fr.app N0 N101q
  obtain ⟨cl_bv101_7, Ar_bv101_7, -, S_bv101_7, N_bv101_7, -, -⟩ := id (Av101)
  obtain ⟨cl_bv101_26, Ar_bv101_26, q_bv101_26, S_bv101_26, N_bv101_26, H_bv101_26, G_bv101_26⟩ := id (Av101)
  have hinbv101_26 : ¬ ((0 : Int32) < 0 ∨ cl_bv101_26.slots.size ≤ ((0 : Int32)).toNatClampNeg) := inb_of S_bv101_26 ⟨by decide, by decide⟩
  have hatbv101_26 : cl_bv101_26.slots[((0 : Int32)).toNatClampNeg]? = some (.ref w0) := H_bv101_26.at hinbv101_26 rfl
  obtain ⟨T102, X102, e102, st102⟩ := getF X101 hx hZ hown (host := "") (Or.inl (wi hw 54 rfl)) Via.refl e101 (M0.ext O101.2) (g := (mkF m 21 #[.val (.ref a1), .val (.ref bv101), .val (.int (3 : Int32)), .val (.int (0 : Int32)), .val (.ref w0)] [(.ref w0)])) rfl rfl (hb hby d7_21)
  have fE_a1_1_103 := (sEa.keep K101)
  have fString_value_1_104 := (sVa.keep K101 nin0)
  have fString_coder_1_105 := (sCa.keep K101 nin0)
  have fV_ta_1_106 := (sKa.keep K101 nin0)
  obtain ⟨cq107, kq107, q107a, q107b, q107c⟩ := isOf hZ e102 (sEm0.ext O101.2)
  obtain ⟨_, _, ⟨T107, L107, k107, n107⟩, -, X107, ⟨Lc107, hQ107, l107, y107, z107⟩, st107⟩ := X102.virtualBack hx (y := (⟨"java/lang/String", "equals", "(Ljava/lang/Object;)Z"⟩ : MethodName)) (z := (⟨"java/lang/String", "equals", "(Ljava/lang/Object;)Z"⟩ : MethodName)) hown (mvT hZ (wi hw 56 rfl)) (mvT hZ (wi hw 57 rfl)) (notFace_of_selects (args := #[]) (mvT hZ (wi hw 59 rfl))) (mvT hZ (wi hw 59 rfl)) (mvT hZ (wi hw 58 rfl)) (by decide) (StrChars.Road.eqW (W := 0) hZ (fun d hd => hw d (own_w_eqW d hd)) (kI := 4) (wi hw 6 rfl) (sEm0.ext O101.2) (sVm0.ext O101.2) (sCm0.ext O101.2) (sKm0.ext O101.2) scdm0 (own_up _ shpm0) shlm0 fE_a1_1_103 fString_value_1_104 fString_coder_1_105 fV_ta_1_106 scda (own_up _ shpa) shla (S_CS.ext O101.2) hG1 (by decide) (by decide)) q107a q107c (g := (mkF m 25 #[.val (.ref a1), .val (.ref bv101), .val (.int (3 : Int32)), .val (.int (0 : Int32)), .val (.ref w0)] [(.ref a1), (.ref s0)])) rfl (by rw [hml]; rfl) (Steps.refl _) (argsL := [(.ref a1)]) (rest := []) (lenOf pd_1 rfl) rfl (by show 2 * 0 + _ ≤ _; exact Nat.le_of_eq rfl) (hb hby d7_25) (fun _ _ => ⟨rfl, e102, (by decide : 1 + 0 ≤ _), (by decide : 3 + 0 ≤ _)⟩)
  dsimp only [Pt.U, Pt.locs, Pt.cells, Pt.slots] at X107 l107 y107 z107 st107 hQ107
  subst l107 y107 z107
  obtain ⟨hv107, rfl, hh107⟩ := hQ107
  obtain rfl := (hv107.resolve_right (fun q => q.2 ((by decide) : ([(97 : Int32), (114 : Int32), (114 : Int32), (97 : Int32), (121 : Int32)] : List Int32) = ([(97 : Int32), (114 : Int32), (114 : Int32), (97 : Int32), (121 : Int32)] : List Int32)))).1
  have N107q : Fr n0 ([] : List Loc) := Fr.nil n0
  have e107 : T107.heap = h101 := hh107
  have N107 := Fr.app N101 N107q
  obtain ⟨fs, hr, hrun, hended, hW, hsame⟩ := X107.leave (v := some (.ref w0)) (fun h => by rw [Bd.returns] at h; cases h)
  refine ⟨_, _, pre0 _ ?_, hrun, hended, _, _, rfl, ?_, ⟨_, rfl⟩, hW, hsame.mono (by decide) (by decide)⟩
  · show Steps p.tables e below (s₁.setTop (mkF m 0 #[.val (.ref a1), .unset, .unset, .unset, .unset] [])) _
    refine st101 _ ?_
    show Steps p.tables e below (T101.setTop (mkF m 3 #[.val (.ref a1), .unset, .unset, .unset, .unset] [(.ref bv101)])) _
    refine XS.astoreN X101.here hx rfl (hb hby d7_3) rfl rfl (l' := #[.val (.ref a1), .val (.ref bv101), .unset, .unset, .unset]) rfl ?_
    show Steps p.tables e below (T101.setTop (mkF m 4 #[.val (.ref a1), .val (.ref bv101), .unset, .unset, .unset] [])) _
    refine XS.aloadN X101.here hx rfl (hb hby d7_4) rfl rfl ?_
    show Steps p.tables e below (T101.setTop (mkF m 5 #[.val (.ref a1), .val (.ref bv101), .unset, .unset, .unset] [(.ref bv101)])) _
    refine X101.arraylength hx (by rw [e101]; exact Ar_bv101_7.1) (State.isArrayOf_alike hZ.alike Ar_bv101_7.2.1) (g := (mkF m 5 #[.val (.ref a1), .val (.ref bv101), .unset, .unset, .unset] [(.ref bv101)])) rfl rfl (hb hby d7_5) _ ?_
    rw [len_of S_bv101_7 N_bv101_7]
    show Steps p.tables e below (T101.setTop (mkF m 6 #[.val (.ref a1), .val (.ref bv101), .unset, .unset, .unset] [(.int (3 : Int32))])) _
    refine XS.istoreN X101.here hx rfl (hb hby d7_6) rfl (l' := #[.val (.ref a1), .val (.ref bv101), .val (.int (3 : Int32)), .unset, .unset]) rfl ?_
    show Steps p.tables e below (T101.setTop (mkF m 7 #[.val (.ref a1), .val (.ref bv101), .val (.int (3 : Int32)), .unset, .unset] [])) _
    refine XS.iconst X101.here hx rfl (hb hby d7_7) ?_
    show Steps p.tables e below (T101.setTop (mkF m 8 #[.val (.ref a1), .val (.ref bv101), .val (.int (3 : Int32)), .unset, .unset] [(.int (0 : Int32))])) _
    refine XS.istoreN X101.here hx rfl (hb hby d7_8) rfl (l' := #[.val (.ref a1), .val (.ref bv101), .val (.int (3 : Int32)), .val (.int (0 : Int32)), .unset]) rfl ?_
    show Steps p.tables e below (T101.setTop (mkF m 9 #[.val (.ref a1), .val (.ref bv101), .val (.int (3 : Int32)), .val (.int (0 : Int32)), .unset] [])) _
    refine XS.iloadN X101.here hx rfl (hb hby d7_9) rfl ?_
    show Steps p.tables e below (T101.setTop (mkF m 10 #[.val (.ref a1), .val (.ref bv101), .val (.int (3 : Int32)), .val (.int (0 : Int32)), .unset] [(.int (0 : Int32))])) _
    refine XS.iloadN X101.here hx rfl (hb hby d7_10) rfl ?_
    show Steps p.tables e below (T101.setTop (mkF m 11 #[.val (.ref a1), .val (.ref bv101), .val (.int (3 : Int32)), .val (.int (0 : Int32)), .unset] [(.int (3 : Int32)), (.int (0 : Int32))])) _
    refine XS.icmpNo X101.here hx rfl (hb hby d7_11) rfl (tlt (by decide : (0 : Int32) < (3 : Int32))).2.1 ?_
    show Steps p.tables e below (T101.setTop (mkF m 14 #[.val (.ref a1), .val (.ref bv101), .val (.int (3 : Int32)), .val (.int (0 : Int32)), .unset] [])) _
    refine XS.aloadN X101.here hx rfl (hb hby d7_14) rfl rfl ?_
    show Steps p.tables e below (T101.setTop (mkF m 15 #[.val (.ref a1), .val (.ref bv101), .val (.int (3 : Int32)), .val (.int (0 : Int32)), .unset] [(.ref bv101)])) _
    refine XS.iloadN X101.here hx rfl (hb hby d7_15) rfl ?_
    show Steps p.tables e below (T101.setTop (mkF m 16 #[.val (.ref a1), .val (.ref bv101), .val (.int (3 : Int32)), .val (.int (0 : Int32)), .unset] [(.int (0 : Int32)), (.ref bv101)])) _
    refine X101.aaload hx (j := (0 : Int32)) (v := (.ref w0)) (by rw [e101]; exact Ar_bv101_26.1) (State.isArrayOf_alike hZ.alike Ar_bv101_26.2.1) rfl Ar_bv101_26.2.2 hinbv101_26 hatbv101_26 (g := (mkF m 16 #[.val (.ref a1), .val (.ref bv101), .val (.int (3 : Int32)), .val (.int (0 : Int32)), .unset] [(.int (0 : Int32)), (.ref bv101)])) rfl rfl (hb hby d7_16) _ ?_
    show Steps p.tables e below (T101.setTop (mkF m 17 #[.val (.ref a1), .val (.ref bv101), .val (.int (3 : Int32)), .val (.int (0 : Int32)), .unset] [(.ref w0)])) _
    refine XS.astore X101.here hx rfl (hb hby d7_17) rfl rfl (l' := #[.val (.ref a1), .val (.ref bv101), .val (.int (3 : Int32)), .val (.int (0 : Int32)), .val (.ref w0)]) rfl ?_
    show Steps p.tables e below (T101.setTop (mkF m 19 #[.val (.ref a1), .val (.ref bv101), .val (.int (3 : Int32)), .val (.int (0 : Int32)), .val (.ref w0)] [])) _
    refine XS.aload X101.here hx rfl (hb hby d7_19) rfl rfl ?_
    show Steps p.tables e below (T101.setTop (mkF m 21 #[.val (.ref a1), .val (.ref bv101), .val (.int (3 : Int32)), .val (.int (0 : Int32)), .val (.ref w0)] [(.ref w0)])) _
    refine st102 _ ?_
    show Steps p.tables e below (T102.setTop (mkF m 24 #[.val (.ref a1), .val (.ref bv101), .val (.int (3 : Int32)), .val (.int (0 : Int32)), .val (.ref w0)] [(.ref s0)])) _
    refine XS.aloadN X102.here hx rfl (hb hby d7_24) rfl rfl ?_
    show Steps p.tables e below (T102.setTop (mkF m 25 #[.val (.ref a1), .val (.ref bv101), .val (.int (3 : Int32)), .val (.int (0 : Int32)), .val (.ref w0)] [(.ref a1), (.ref s0)])) _
    refine st107.trans ?_
    show Steps p.tables e below (T107.setTop (mkF m 28 #[.val (.ref a1), .val (.ref bv101), .val (.int (3 : Int32)), .val (.int (0 : Int32)), .val (.ref w0)] [(.int (1 : Int32))])) _
    refine XS.ifNo X107.here hx rfl (hb hby d7_28) rfl ((if0 _ _).trans (feq (by decide : ¬ ((1 : Int32) = (0 : Int32)))).1) ?_
    show Steps p.tables e below (T107.setTop (mkF m 31 #[.val (.ref a1), .val (.ref bv101), .val (.int (3 : Int32)), .val (.int (0 : Int32)), .val (.ref w0)] [])) _
    refine XS.aload X107.here hx rfl (hb hby d7_31) rfl rfl ?_
    show Steps p.tables e below (T107.setTop (mkF m 33 #[.val (.ref a1), .val (.ref bv101), .val (.int (3 : Int32)), .val (.int (0 : Int32)), .val (.ref w0)] [(.ref w0)])) _
    jvm_step X107.here [X107.here.top, hx, (hb hby d7_33), X107.method', Bd.returns, Value.isRef, FieldType.isReference]
    first | (intro acts; rw [hr _ acts rfl rfl rfl]) | rw [hr _ _ rfl rfl rfl]
    exact Steps.refl _
  · show Q7 (.ref w0) h0 n0 _ T107.heap _
    rw [e107]
    exact ⟨rfl, N107, KK101⟩
theorem d7_34 : decode prog_40_method_5_code 34 = .ok (.iinc 3 1, 3) := by decide +kernel
theorem d7_37 : decode prog_40_method_5_code 37 = .ok (.goto (-28), 3) := by decide +kernel
set_option maxRecDepth 65536 in
set_option maxHeartbeats 40000000 in
theorem rm7_1 (l : Launch) (Z : State) (a0 : Array Value) (hw : ∀ d ∈ tables_1, d.before a0 Z = true) (ws : List Jvm.Cond) (G1 : Int32) (kV : ClassId) (wV w0 w1 w2 : Addr) (s0 s1 s2 : Addr) (a1 : Addr) (h0 : Heap) (n0 : Nat) (O0 : Old Z n0 h0) (S_CS : Sta Z Z.heap "java/lang/String" "COMPACT_STRINGS" "Z" (.int G1)) (hG1 : ¬ (G1 = (0 : Int32))) (S_V : Sta Z Z.heap "dev/tryst/tool/Workload$QueueKind" "$VALUES" "[Ldev/tryst/tool/Workload$QueueKind;" (.ref wV)) (A_V : Arv Z Z.heap wV kV (.object "dev/tryst/tool/Workload$QueueKind") (3 : Int32) [(.ref w0), (.ref w1), (.ref w2)] .null) (E_V : Exa Z Z.heap wV "[Ldev/tryst/tool/Workload$QueueKind;") (M0 : Fld Z Z.heap w0 "dev/tryst/tool/Workload$QueueKind" "mWord" "Ljava/lang/String;" (.ref s0)) (M1 : Fld Z Z.heap w1 "dev/tryst/tool/Workload$QueueKind" "mWord" "Ljava/lang/String;" (.ref s1)) (M2 : Fld Z Z.heap w2 "dev/tryst/tool/Workload$QueueKind" "mWord" "Ljava/lang/String;" (.ref s2)) (T0 : Str Z Z.heap s0 ([(97 : Int32), (114 : Int32), (114 : Int32), (97 : Int32), (121 : Int32)] : List Int32)) (T1 : Str Z Z.heap s1 ([(108 : Int32), (105 : Int32), (110 : Int32), (107 : Int32), (101 : Int32), (100 : Int32)] : List Int32)) (T2 : Str Z Z.heap s2 ([(108 : Int32), (105 : Int32), (110 : Int32), (107 : Int32), (101 : Int32), (100 : Int32), (45 : Int32), (100 : Int32), (101 : Int32), (113 : Int32), (117 : Int32), (101 : Int32)] : List Int32)) (T : Str Z h0 a1 ([(108 : Int32), (105 : Int32), (110 : Int32), (107 : Int32), (101 : Int32), (100 : Int32)] : List Int32)) :
    MetFree l (⟨"dev/tryst/tool/Workload$QueueKind", "of", "(Ljava/lang/String;)Ldev/tryst/tool/Workload$QueueKind;"⟩ : MethodName) (head1 (Jvm.Cond.code (⟨"dev/tryst/tool/Workload$QueueKind", "of", "(Ljava/lang/String;)Ldev/tryst/tool/Workload$QueueKind;"⟩ : MethodName) prog_40_method_5_code 5 (some (.object "dev/tryst/tool/Workload$QueueKind")) :: ws) ({ frames := 2, cells := 1, slots := 3, locals := 28 } : Room)) (fun a_ U => a_ = #[(.ref a1)] ∧ Z.Warmed39 U.vm ∧ U.heap = h0) (fun _ _ _ _ _ => True) (fun _ U o U' => ∃ v L, o = .returned v ∧ Q7 (.ref w1) h0 n0 v U'.heap L ∧ FrameEnd U o U' L ({ frames := 2, cells := 1, slots := 3, locals := 28 } : Room).cells ({ frames := 2, cells := 1, slots := 3, locals := 28 } : Room).slots) := by
  refine MetFree.of_bodySF (plainFor_of_name pn_0) hisR ?_
  intro p e s m args below meth c s₁ Bd hml0 hP hK
  obtain ⟨rfl, hZ, hh⟩ := hP
  have hx := Bd.exec
  have hby := Bd.bytes
  have hml : c.maxLocals = 5 := hml0
  have hown : s.vm.findClass "dev/tryst/tool/Workload$QueueKind" = some m.cls := findClass_of_methodNamed Bd.named
  have hnm := (name_of_methodNamed Bd.named Bd.method).1
  have X0 : Stand p l e ({ frames := 2, cells := 1, slots := 3, locals := 28 } : Room) s m #[(.ref a1)] below meth c s₁ [] 0 0 := Stand.of_body Bd
  have e0 : s₁.heap = h0 := by rw [← hh, Bd.state]; rfl
  have N0 := Fr.nil n0
  have pre0 : ∀ tg, Steps p.tables e below (s₁.setTop (mkF m 0 #[.val (.ref a1), .unset, .unset, .unset, .unset] [])) tg → Steps p.tables e below (s₁.setTop (entryFrame m #[(.ref a1)] 5)) tg := fun tg kq => castTop (ef_R_5 m a1) kq
  obtain ⟨tm0, kbm0, Nm0, vsm0, sEm0, sVm0, sCm0, sKm0, scdm0, shpm0, shlm0⟩ := id T0
  obtain ⟨tm1, kbm1, Nm1, vsm1, sEm1, sVm1, sCm1, sKm1, scdm1, shpm1, shlm1⟩ := id T1
  obtain ⟨tm2, kbm2, Nm2, vsm2, sEm2, sVm2, sCm2, sKm2, scdm2, shpm2, shlm2⟩ := id T2
  obtain ⟨ta, kba, Na, vsa, sEa, sVa, sCa, sKa, scda, shpa, shla⟩ := id T
  obtain ⟨_, _, ⟨T101, L101, k101, n101⟩, -, X101, ⟨Lc101, hQ101, l101, y101, z101⟩, st101⟩ := Jvm.LawKit.callS X0 hx (y := (⟨"dev/tryst/tool/Workload$QueueKind", "values", "()[Ldev/tryst/tool/Workload$QueueKind;"⟩ : MethodName)) hown (mvT hZ (wi hw 37 rfl)) (mvT hZ (wi hw 38 rfl)) (mvT hZ (wi hw 3 rfl)) (mvT hZ (wi hw 39 rfl)) (by decide) (backOf (W := 0) (rm8 l Z a0 hw [] kV wV w0 w1 w2 h0 n0 O0 S_V A_V E_V) hZ (wi hw 39 rfl) (wi hw 3 rfl) (by decide) (by decide)) (g := (mkF m 0 #[.val (.ref a1), .unset, .unset, .unset, .unset] [])) rfl (by rw [hml]; rfl) (argsL := []) (rest := []) (lenOf pd_0 rfl) rfl (by show 2 * 0 + _ ≤ _; exact Nat.le_of_eq rfl) (hb hby d7_0) (fun _ _ => ⟨rfl, e0, (by decide : 0 + 1 ≤ _), (by decide : 0 + 3 ≤ _)⟩)
  dsimp only [Pt.U, Pt.locs, Pt.cells, Pt.slots] at X101 l101 y101 z101 st101 hQ101
  subst l101 y101 z101
  obtain ⟨bv101, rfl, N101q, K101, szv101, Av101⟩ := hQ101
  obtain ⟨h101, e101⟩ : ∃ z, T101.heap = z := ⟨_, rfl⟩
  rw [e101] at K101 Av101
  have g_bv101 : n0 ≤ bv101 := Nat.le_trans (O0.1 ▸ O0.2.1) szv101
  have sz_bv101 : h0.size ≤ bv101 := Nat.le_trans (Nat.le_refl _) szv101
  have O101 := O0.keep K101 all0
  have KK101 : Keep h0 h101 [] := (Keep.refl h0 []).trans K101 all0
  have N101 := Fr.app N0 N101q
  obtain ⟨cl_bv101_7, Ar_bv101_7, -, S_bv101_7, N_bv101_7, -, -⟩ := id (Av101)
  obtain ⟨cl_bv101_26, Ar_bv101_26, q_bv101_26, S_bv101_26, N_bv101_26, H_bv101_26, G_bv101_26⟩ := id (Av101)
  have hinbv101_26 : ¬ ((0 : Int32) < 0 ∨ cl_bv101_26.slots.size ≤ ((0 : Int32)).toNatClampNeg) := inb_of S_bv101_26 ⟨by decide, by decide⟩
  have hatbv101_26 : cl_bv101_26.slots[((0 : Int32)).toNatClampNeg]? = some (.ref w0) := H_bv101_26.at hinbv101_26 rfl
  obtain ⟨T102, X102, e102, st102⟩ := getF X101 hx hZ hown (host := "") (Or.inl (wi hw 54 rfl)) Via.refl e101 (M0.ext O101.2) (g := (mkF m 21 #[.val (.ref a1), .val (.ref bv101), .val (.int (3 : Int32)), .val (.int (0 : Int32)), .val (.ref w0)] [(.ref w0)])) rfl rfl (hb hby d7_21)
  have fE_a1_1_103 := (sEa.keep K101)
  have fString_value_1_104 := (sVa.keep K101 nin0)
  have fString_coder_1_105 := (sCa.keep K101 nin0)
  have fV_ta_1_106 := (sKa.keep K101 nin0)
  obtain ⟨cq107, kq107, q107a, q107b, q107c⟩ := isOf hZ e102 (sEm0.ext O101.2)
  obtain ⟨_, _, ⟨T107, L107, k107, n107⟩, -, X107, ⟨Lc107, hQ107, l107, y107, z107⟩, st107⟩ := X102.virtualBack hx (y := (⟨"java/lang/String", "equals", "(Ljava/lang/Object;)Z"⟩ : MethodName)) (z := (⟨"java/lang/String", "equals", "(Ljava/lang/Object;)Z"⟩ : MethodName)) hown (mvT hZ (wi hw 56 rfl)) (mvT hZ (wi hw 57 rfl)) (notFace_of_selects (args := #[]) (mvT hZ (wi hw 59 rfl))) (mvT hZ (wi hw 59 rfl)) (mvT hZ (wi hw 58 rfl)) (by decide) (StrChars.Road.eqW (W := 0) hZ (fun d hd => hw d (own_w_eqW d hd)) (kI := 4) (wi hw 6 rfl) (sEm0.ext O101.2) (sVm0.ext O101.2) (sCm0.ext O101.2) (sKm0.ext O101.2) scdm0 (own_up _ shpm0) shlm0 fE_a1_1_103 fString_value_1_104 fString_coder_1_105 fV_ta_1_106 scda (own_up _ shpa) shla (S_CS.ext O101.2) hG1 (by decide) (by decide)) q107a q107c (g := (mkF m 25 #[.val (.ref a1), .val (.ref bv101), .val (.int (3 : Int32)), .val (.int (0 : Int32)), .val (.ref w0)] [(.ref a1), (.ref s0)])) rfl (by rw [hml]; rfl) (Steps.refl _) (argsL := [(.ref a1)]) (rest := []) (lenOf pd_1 rfl) rfl (by show 2 * 0 + _ ≤ _; exact Nat.le_of_eq rfl) (hb hby d7_25) (fun _ _ => ⟨rfl, e102, (by decide : 1 + 0 ≤ _), (by decide : 3 + 0 ≤ _)⟩)
  dsimp only [Pt.U, Pt.locs, Pt.cells, Pt.slots] at X107 l107 y107 z107 st107 hQ107
  subst l107 y107 z107
  obtain ⟨hv107, rfl, hh107⟩ := hQ107
  obtain rfl := (hv107.resolve_left (fun q => ((by decide) : ¬ ([(97 : Int32), (114 : Int32), (114 : Int32), (97 : Int32), (121 : Int32)] : List Int32) = ([(108 : Int32), (105 : Int32), (110 : Int32), (107 : Int32), (101 : Int32), (100 : Int32)] : List Int32)) q.2)).1
  have N107q : Fr n0 ([] : List Loc) := Fr.nil n0
  have e107 : T107.heap = h101 := hh107
  have N107 := Fr.app N101 N107q
  obtain ⟨cl_bv101_54, Ar_bv101_54, q_bv101_54, S_bv101_54, N_bv101_54, H_bv101_54, G_bv101_54⟩ := id (Av101)
  have hinbv101_54 : ¬ ((1 : Int32) < 0 ∨ cl_bv101_54.slots.size ≤ ((1 : Int32)).toNatClampNeg) := inb_of S_bv101_54 ⟨by decide, by decide⟩
  have hatbv101_54 : cl_bv101_54.slots[((1 : Int32)).toNatClampNeg]? = some (.ref w1) := H_bv101_54.at hinbv101_54 rfl
  obtain ⟨T108, X108, e108, st108⟩ := getF X107 hx hZ hown (host := "") (Or.inl (wi hw 54 rfl)) Via.refl e107 (M1.ext O101.2) (g := (mkF m 21 #[.val (.ref a1), .val (.ref bv101), .val (.int (3 : Int32)), .val (.int (1 : Int32)), .val (.ref w1)] [(.ref w1)])) rfl rfl (hb hby d7_21)
  obtain ⟨cq109, kq109, q109a, q109b, q109c⟩ := isOf hZ e108 (sEm1.ext O101.2)
  obtain ⟨_, _, ⟨T109, L109, k109, n109⟩, -, X109, ⟨Lc109, hQ109, l109, y109, z109⟩, st109⟩ := X108.virtualBack hx (y := (⟨"java/lang/String", "equals", "(Ljava/lang/Object;)Z"⟩ : MethodName)) (z := (⟨"java/lang/String", "equals", "(Ljava/lang/Object;)Z"⟩ : MethodName)) hown (mvT hZ (wi hw 56 rfl)) (mvT hZ (wi hw 57 rfl)) (notFace_of_selects (args := #[]) (mvT hZ (wi hw 59 rfl))) (mvT hZ (wi hw 59 rfl)) (mvT hZ (wi hw 58 rfl)) (by decide) (StrChars.Road.eqW (W := 0) hZ (fun d hd => hw d (own_w_eqW d hd)) (kI := 4) (wi hw 6 rfl) (sEm1.ext O101.2) (sVm1.ext O101.2) (sCm1.ext O101.2) (sKm1.ext O101.2) scdm1 (own_up _ shpm1) shlm1 fE_a1_1_103 fString_value_1_104 fString_coder_1_105 fV_ta_1_106 scda (own_up _ shpa) shla (S_CS.ext O101.2) hG1 (by decide) (by decide)) q109a q109c (g := (mkF m 25 #[.val (.ref a1), .val (.ref bv101), .val (.int (3 : Int32)), .val (.int (1 : Int32)), .val (.ref w1)] [(.ref a1), (.ref s1)])) rfl (by rw [hml]; rfl) (Steps.refl _) (argsL := [(.ref a1)]) (rest := []) (lenOf pd_1 rfl) rfl (by show 2 * 0 + _ ≤ _; exact Nat.le_of_eq rfl) (hb hby d7_25) (fun _ _ => ⟨rfl, e108, (by decide : 1 + 0 ≤ _), (by decide : 3 + 0 ≤ _)⟩)
  dsimp only [Pt.U, Pt.locs, Pt.cells, Pt.slots] at X109 l109 y109 z109 st109 hQ109
  subst l109 y109 z109
  obtain ⟨hv109, rfl, hh109⟩ := hQ109
  obtain rfl := (hv109.resolve_right (fun q => q.2 ((by decide) : ([(108 : Int32), (105 : Int32), (110 : Int32), (107 : Int32), (101 : Int32), (100 : Int32)] : List Int32) = ([(108 : Int32), (105 : Int32), (110 : Int32), (107 : Int32), (101 : Int32), (100 : Int32)] : List Int32)))).1
  have N109q : Fr n0 ([] : List Loc) := Fr.nil n0
  have e109 : T109.heap = h101 := hh109
  have N109 := Fr.app N107 N109q
  obtain ⟨fs, hr, hrun, hended, hW, hsame⟩ := X109.leave (v := some (.ref w1)) (fun h => by rw [Bd.returns] at h; cases h)
  refine ⟨_, _, pre0 _ ?_, hrun, hended, _, _, rfl, ?_, ⟨_, rfl⟩, hW, hsame.mono (by decide) (by decide)⟩
  · show Steps p.tables e below (s₁.setTop (mkF m 0 #[.val (.ref a1), .unset, .unset, .unset, .unset] [])) _
    refine st101 _ ?_
    show Steps p.tables e below (T101.setTop (mkF m 3 #[.val (.ref a1), .unset, .unset, .unset, .unset] [(.ref bv101)])) _
    refine XS.astoreN X101.here hx rfl (hb hby d7_3) rfl rfl (l' := #[.val (.ref a1), .val (.ref bv101), .unset, .unset, .unset]) rfl ?_
    show Steps p.tables e below (T101.setTop (mkF m 4 #[.val (.ref a1), .val (.ref bv101), .unset, .unset, .unset] [])) _
    refine XS.aloadN X101.here hx rfl (hb hby d7_4) rfl rfl ?_
    show Steps p.tables e below (T101.setTop (mkF m 5 #[.val (.ref a1), .val (.ref bv101), .unset, .unset, .unset] [(.ref bv101)])) _
    refine X101.arraylength hx (by rw [e101]; exact Ar_bv101_7.1) (State.isArrayOf_alike hZ.alike Ar_bv101_7.2.1) (g := (mkF m 5 #[.val (.ref a1), .val (.ref bv101), .unset, .unset, .unset] [(.ref bv101)])) rfl rfl (hb hby d7_5) _ ?_
    rw [len_of S_bv101_7 N_bv101_7]
    show Steps p.tables e below (T101.setTop (mkF m 6 #[.val (.ref a1), .val (.ref bv101), .unset, .unset, .unset] [(.int (3 : Int32))])) _
    refine XS.istoreN X101.here hx rfl (hb hby d7_6) rfl (l' := #[.val (.ref a1), .val (.ref bv101), .val (.int (3 : Int32)), .unset, .unset]) rfl ?_
    show Steps p.tables e below (T101.setTop (mkF m 7 #[.val (.ref a1), .val (.ref bv101), .val (.int (3 : Int32)), .unset, .unset] [])) _
    refine XS.iconst X101.here hx rfl (hb hby d7_7) ?_
    show Steps p.tables e below (T101.setTop (mkF m 8 #[.val (.ref a1), .val (.ref bv101), .val (.int (3 : Int32)), .unset, .unset] [(.int (0 : Int32))])) _
    refine XS.istoreN X101.here hx rfl (hb hby d7_8) rfl (l' := #[.val (.ref a1), .val (.ref bv101), .val (.int (3 : Int32)), .val (.int (0 : Int32)), .unset]) rfl ?_
    show Steps p.tables e below (T101.setTop (mkF m 9 #[.val (.ref a1), .val (.ref bv101), .val (.int (3 : Int32)), .val (.int (0 : Int32)), .unset] [])) _
    refine XS.iloadN X101.here hx rfl (hb hby d7_9) rfl ?_
    show Steps p.tables e below (T101.setTop (mkF m 10 #[.val (.ref a1), .val (.ref bv101), .val (.int (3 : Int32)), .val (.int (0 : Int32)), .unset] [(.int (0 : Int32))])) _
    refine XS.iloadN X101.here hx rfl (hb hby d7_10) rfl ?_
    show Steps p.tables e below (T101.setTop (mkF m 11 #[.val (.ref a1), .val (.ref bv101), .val (.int (3 : Int32)), .val (.int (0 : Int32)), .unset] [(.int (3 : Int32)), (.int (0 : Int32))])) _
    refine XS.icmpNo X101.here hx rfl (hb hby d7_11) rfl (tlt (by decide : (0 : Int32) < (3 : Int32))).2.1 ?_
    show Steps p.tables e below (T101.setTop (mkF m 14 #[.val (.ref a1), .val (.ref bv101), .val (.int (3 : Int32)), .val (.int (0 : Int32)), .unset] [])) _
    refine XS.aloadN X101.here hx rfl (hb hby d7_14) rfl rfl ?_
    show Steps p.tables e below (T101.setTop (mkF m 15 #[.val (.ref a1), .val (.ref bv101), .val (.int (3 : Int32)), .val (.int (0 : Int32)), .unset] [(.ref bv101)])) _
    refine XS.iloadN X101.here hx rfl (hb hby d7_15) rfl ?_
    show Steps p.tables e below (T101.setTop (mkF m 16 #[.val (.ref a1), .val (.ref bv101), .val (.int (3 : Int32)), .val (.int (0 : Int32)), .unset] [(.int (0 : Int32)), (.ref bv101)])) _
    refine X101.aaload hx (j := (0 : Int32)) (v := (.ref w0)) (by rw [e101]; exact Ar_bv101_26.1) (State.isArrayOf_alike hZ.alike Ar_bv101_26.2.1) rfl Ar_bv101_26.2.2 hinbv101_26 hatbv101_26 (g := (mkF m 16 #[.val (.ref a1), .val (.ref bv101), .val (.int (3 : Int32)), .val (.int (0 : Int32)), .unset] [(.int (0 : Int32)), (.ref bv101)])) rfl rfl (hb hby d7_16) _ ?_
    show Steps p.tables e below (T101.setTop (mkF m 17 #[.val (.ref a1), .val (.ref bv101), .val (.int (3 : Int32)), .val (.int (0 : Int32)), .unset] [(.ref w0)])) _
    refine XS.astore X101.here hx rfl (hb hby d7_17) rfl rfl (l' := #[.val (.ref a1), .val (.ref bv101), .val (.int (3 : Int32)), .val (.int (0 : Int32)), .val (.ref w0)]) rfl ?_
    show Steps p.tables e below (T101.setTop (mkF m 19 #[.val (.ref a1), .val (.ref bv101), .val (.int (3 : Int32)), .val (.int (0 : Int32)), .val (.ref w0)] [])) _
    refine XS.aload X101.here hx rfl (hb hby d7_19) rfl rfl ?_
    show Steps p.tables e below (T101.setTop (mkF m 21 #[.val (.ref a1), .val (.ref bv101), .val (.int (3 : Int32)), .val (.int (0 : Int32)), .val (.ref w0)] [(.ref w0)])) _
    refine st102 _ ?_
    show Steps p.tables e below (T102.setTop (mkF m 24 #[.val (.ref a1), .val (.ref bv101), .val (.int (3 : Int32)), .val (.int (0 : Int32)), .val (.ref w0)] [(.ref s0)])) _
    refine XS.aloadN X102.here hx rfl (hb hby d7_24) rfl rfl ?_
    show Steps p.tables e below (T102.setTop (mkF m 25 #[.val (.ref a1), .val (.ref bv101), .val (.int (3 : Int32)), .val (.int (0 : Int32)), .val (.ref w0)] [(.ref a1), (.ref s0)])) _
    refine st107.trans ?_
    show Steps p.tables e below (T107.setTop (mkF m 28 #[.val (.ref a1), .val (.ref bv101), .val (.int (3 : Int32)), .val (.int (0 : Int32)), .val (.ref w0)] [(.int (0 : Int32))])) _
    refine XS.ifYes X107.here hx rfl (pc0 := 28) (pc' := 34) rfl (hb hby d7_28) rfl ((if0 _ _).trans (teq (by decide : (0 : Int32) = (0 : Int32))).1) (by decide) (by decide) ?_
    show Steps p.tables e below (T107.setTop (mkF m 34 #[.val (.ref a1), .val (.ref bv101), .val (.int (3 : Int32)), .val (.int (0 : Int32)), .val (.ref w0)] [])) _
    refine XS.iinc X107.here hx rfl (hb hby d7_34) rfl (l' := #[.val (.ref a1), .val (.ref bv101), .val (.int (3 : Int32)), .val (.int (1 : Int32)), .val (.ref w0)]) rfl ?_
    show Steps p.tables e below (T107.setTop (mkF m 37 #[.val (.ref a1), .val (.ref bv101), .val (.int (3 : Int32)), .val (.int (1 : Int32)), .val (.ref w0)] [])) _
    refine XS.goto X107.here hx rfl (pc0 := 37) (pc' := 9) rfl (hb hby d7_37) (by decide) (by decide) ?_
    show Steps p.tables e below (T107.setTop (mkF m 9 #[.val (.ref a1), .val (.ref bv101), .val (.int (3 : Int32)), .val (.int (1 : Int32)), .val (.ref w0)] [])) _
    refine XS.iloadN X107.here hx rfl (hb hby d7_9) rfl ?_
    show Steps p.tables e below (T107.setTop (mkF m 10 #[.val (.ref a1), .val (.ref bv101), .val (.int (3 : Int32)), .val (.int (1 : Int32)), .val (.ref w0)] [(.int (1 : Int32))])) _
    refine XS.iloadN X107.here hx rfl (hb hby d7_10) rfl ?_
    show Steps p.tables e below (T107.setTop (mkF m 11 #[.val (.ref a1), .val (.ref bv101), .val (.int (3 : Int32)), .val (.int (1 : Int32)), .val (.ref w0)] [(.int (3 : Int32)), (.int (1 : Int32))])) _
    refine XS.icmpNo X107.here hx rfl (hb hby d7_11) rfl (tlt (by decide : (1 : Int32) < (3 : Int32))).2.1 ?_
    show Steps p.tables e below (T107.setTop (mkF m 14 #[.val (.ref a1), .val (.ref bv101), .val (.int (3 : Int32)), .val (.int (1 : Int32)), .val (.ref w0)] [])) _
    refine XS.aloadN X107.here hx rfl (hb hby d7_14) rfl rfl ?_
    show Steps p.tables e below (T107.setTop (mkF m 15 #[.val (.ref a1), .val (.ref bv101), .val (.int (3 : Int32)), .val (.int (1 : Int32)), .val (.ref w0)] [(.ref bv101)])) _
    refine XS.iloadN X107.here hx rfl (hb hby d7_15) rfl ?_
    show Steps p.tables e below (T107.setTop (mkF m 16 #[.val (.ref a1), .val (.ref bv101), .val (.int (3 : Int32)), .val (.int (1 : Int32)), .val (.ref w0)] [(.int (1 : Int32)), (.ref bv101)])) _
    refine X107.aaload hx (j := (1 : Int32)) (v := (.ref w1)) (by rw [e107]; exact Ar_bv101_54.1) (State.isArrayOf_alike hZ.alike Ar_bv101_54.2.1) rfl Ar_bv101_54.2.2 hinbv101_54 hatbv101_54 (g := (mkF m 16 #[.val (.ref a1), .val (.ref bv101), .val (.int (3 : Int32)), .val (.int (1 : Int32)), .val (.ref w0)] [(.int (1 : Int32)), (.ref bv101)])) rfl rfl (hb hby d7_16) _ ?_
    show Steps p.tables e below (T107.setTop (mkF m 17 #[.val (.ref a1), .val (.ref bv101), .val (.int (3 : Int32)), .val (.int (1 : Int32)), .val (.ref w0)] [(.ref w1)])) _
    refine XS.astore X107.here hx rfl (hb hby d7_17) rfl rfl (l' := #[.val (.ref a1), .val (.ref bv101), .val (.int (3 : Int32)), .val (.int (1 : Int32)), .val (.ref w1)]) rfl ?_
    show Steps p.tables e below (T107.setTop (mkF m 19 #[.val (.ref a1), .val (.ref bv101), .val (.int (3 : Int32)), .val (.int (1 : Int32)), .val (.ref w1)] [])) _
    refine XS.aload X107.here hx rfl (hb hby d7_19) rfl rfl ?_
    show Steps p.tables e below (T107.setTop (mkF m 21 #[.val (.ref a1), .val (.ref bv101), .val (.int (3 : Int32)), .val (.int (1 : Int32)), .val (.ref w1)] [(.ref w1)])) _
    refine st108 _ ?_
    show Steps p.tables e below (T108.setTop (mkF m 24 #[.val (.ref a1), .val (.ref bv101), .val (.int (3 : Int32)), .val (.int (1 : Int32)), .val (.ref w1)] [(.ref s1)])) _
    refine XS.aloadN X108.here hx rfl (hb hby d7_24) rfl rfl ?_
    show Steps p.tables e below (T108.setTop (mkF m 25 #[.val (.ref a1), .val (.ref bv101), .val (.int (3 : Int32)), .val (.int (1 : Int32)), .val (.ref w1)] [(.ref a1), (.ref s1)])) _
    refine st109.trans ?_
    show Steps p.tables e below (T109.setTop (mkF m 28 #[.val (.ref a1), .val (.ref bv101), .val (.int (3 : Int32)), .val (.int (1 : Int32)), .val (.ref w1)] [(.int (1 : Int32))])) _
    refine XS.ifNo X109.here hx rfl (hb hby d7_28) rfl ((if0 _ _).trans (feq (by decide : ¬ ((1 : Int32) = (0 : Int32)))).1) ?_
    show Steps p.tables e below (T109.setTop (mkF m 31 #[.val (.ref a1), .val (.ref bv101), .val (.int (3 : Int32)), .val (.int (1 : Int32)), .val (.ref w1)] [])) _
    refine XS.aload X109.here hx rfl (hb hby d7_31) rfl rfl ?_
    show Steps p.tables e below (T109.setTop (mkF m 33 #[.val (.ref a1), .val (.ref bv101), .val (.int (3 : Int32)), .val (.int (1 : Int32)), .val (.ref w1)] [(.ref w1)])) _
    jvm_step X109.here [X109.here.top, hx, (hb hby d7_33), X109.method', Bd.returns, Value.isRef, FieldType.isReference]
    first | (intro acts; rw [hr _ acts rfl rfl rfl]) | rw [hr _ _ rfl rfl rfl]
    exact Steps.refl _
  · show Q7 (.ref w1) h0 n0 _ T109.heap _
    rw [e109]
    exact ⟨rfl, N109, KK101⟩
set_option maxRecDepth 65536 in
set_option maxHeartbeats 40000000 in
theorem rm7_2 (l : Launch) (Z : State) (a0 : Array Value) (hw : ∀ d ∈ tables_1, d.before a0 Z = true) (ws : List Jvm.Cond) (G1 : Int32) (kV : ClassId) (wV w0 w1 w2 : Addr) (s0 s1 s2 : Addr) (a1 : Addr) (h0 : Heap) (n0 : Nat) (O0 : Old Z n0 h0) (S_CS : Sta Z Z.heap "java/lang/String" "COMPACT_STRINGS" "Z" (.int G1)) (hG1 : ¬ (G1 = (0 : Int32))) (S_V : Sta Z Z.heap "dev/tryst/tool/Workload$QueueKind" "$VALUES" "[Ldev/tryst/tool/Workload$QueueKind;" (.ref wV)) (A_V : Arv Z Z.heap wV kV (.object "dev/tryst/tool/Workload$QueueKind") (3 : Int32) [(.ref w0), (.ref w1), (.ref w2)] .null) (E_V : Exa Z Z.heap wV "[Ldev/tryst/tool/Workload$QueueKind;") (M0 : Fld Z Z.heap w0 "dev/tryst/tool/Workload$QueueKind" "mWord" "Ljava/lang/String;" (.ref s0)) (M1 : Fld Z Z.heap w1 "dev/tryst/tool/Workload$QueueKind" "mWord" "Ljava/lang/String;" (.ref s1)) (M2 : Fld Z Z.heap w2 "dev/tryst/tool/Workload$QueueKind" "mWord" "Ljava/lang/String;" (.ref s2)) (T0 : Str Z Z.heap s0 ([(97 : Int32), (114 : Int32), (114 : Int32), (97 : Int32), (121 : Int32)] : List Int32)) (T1 : Str Z Z.heap s1 ([(108 : Int32), (105 : Int32), (110 : Int32), (107 : Int32), (101 : Int32), (100 : Int32)] : List Int32)) (T2 : Str Z Z.heap s2 ([(108 : Int32), (105 : Int32), (110 : Int32), (107 : Int32), (101 : Int32), (100 : Int32), (45 : Int32), (100 : Int32), (101 : Int32), (113 : Int32), (117 : Int32), (101 : Int32)] : List Int32)) (T : Str Z h0 a1 ([(108 : Int32), (105 : Int32), (110 : Int32), (107 : Int32), (101 : Int32), (100 : Int32), (45 : Int32), (100 : Int32), (101 : Int32), (113 : Int32), (117 : Int32), (101 : Int32)] : List Int32)) :
    MetFree l (⟨"dev/tryst/tool/Workload$QueueKind", "of", "(Ljava/lang/String;)Ldev/tryst/tool/Workload$QueueKind;"⟩ : MethodName) (head1 (Jvm.Cond.code (⟨"dev/tryst/tool/Workload$QueueKind", "of", "(Ljava/lang/String;)Ldev/tryst/tool/Workload$QueueKind;"⟩ : MethodName) prog_40_method_5_code 5 (some (.object "dev/tryst/tool/Workload$QueueKind")) :: ws) ({ frames := 2, cells := 1, slots := 3, locals := 28 } : Room)) (fun a_ U => a_ = #[(.ref a1)] ∧ Z.Warmed39 U.vm ∧ U.heap = h0) (fun _ _ _ _ _ => True) (fun _ U o U' => ∃ v L, o = .returned v ∧ Q7 (.ref w2) h0 n0 v U'.heap L ∧ FrameEnd U o U' L ({ frames := 2, cells := 1, slots := 3, locals := 28 } : Room).cells ({ frames := 2, cells := 1, slots := 3, locals := 28 } : Room).slots) := by
  refine MetFree.of_bodySF (plainFor_of_name pn_0) hisR ?_
  intro p e s m args below meth c s₁ Bd hml0 hP hK
  obtain ⟨rfl, hZ, hh⟩ := hP
  have hx := Bd.exec
  have hby := Bd.bytes
  have hml : c.maxLocals = 5 := hml0
  have hown : s.vm.findClass "dev/tryst/tool/Workload$QueueKind" = some m.cls := findClass_of_methodNamed Bd.named
  have hnm := (name_of_methodNamed Bd.named Bd.method).1
  have X0 : Stand p l e ({ frames := 2, cells := 1, slots := 3, locals := 28 } : Room) s m #[(.ref a1)] below meth c s₁ [] 0 0 := Stand.of_body Bd
  have e0 : s₁.heap = h0 := by rw [← hh, Bd.state]; rfl
  have N0 := Fr.nil n0
  have pre0 : ∀ tg, Steps p.tables e below (s₁.setTop (mkF m 0 #[.val (.ref a1), .unset, .unset, .unset, .unset] [])) tg → Steps p.tables e below (s₁.setTop (entryFrame m #[(.ref a1)] 5)) tg := fun tg kq => castTop (ef_R_5 m a1) kq
  obtain ⟨tm0, kbm0, Nm0, vsm0, sEm0, sVm0, sCm0, sKm0, scdm0, shpm0, shlm0⟩ := id T0
  obtain ⟨tm1, kbm1, Nm1, vsm1, sEm1, sVm1, sCm1, sKm1, scdm1, shpm1, shlm1⟩ := id T1
  obtain ⟨tm2, kbm2, Nm2, vsm2, sEm2, sVm2, sCm2, sKm2, scdm2, shpm2, shlm2⟩ := id T2
  obtain ⟨ta, kba, Na, vsa, sEa, sVa, sCa, sKa, scda, shpa, shla⟩ := id T
  obtain ⟨_, _, ⟨T101, L101, k101, n101⟩, -, X101, ⟨Lc101, hQ101, l101, y101, z101⟩, st101⟩ := Jvm.LawKit.callS X0 hx (y := (⟨"dev/tryst/tool/Workload$QueueKind", "values", "()[Ldev/tryst/tool/Workload$QueueKind;"⟩ : MethodName)) hown (mvT hZ (wi hw 37 rfl)) (mvT hZ (wi hw 38 rfl)) (mvT hZ (wi hw 3 rfl)) (mvT hZ (wi hw 39 rfl)) (by decide) (backOf (W := 0) (rm8 l Z a0 hw [] kV wV w0 w1 w2 h0 n0 O0 S_V A_V E_V) hZ (wi hw 39 rfl) (wi hw 3 rfl) (by decide) (by decide)) (g := (mkF m 0 #[.val (.ref a1), .unset, .unset, .unset, .unset] [])) rfl (by rw [hml]; rfl) (argsL := []) (rest := []) (lenOf pd_0 rfl) rfl (by show 2 * 0 + _ ≤ _; exact Nat.le_of_eq rfl) (hb hby d7_0) (fun _ _ => ⟨rfl, e0, (by decide : 0 + 1 ≤ _), (by decide : 0 + 3 ≤ _)⟩)
  dsimp only [Pt.U, Pt.locs, Pt.cells, Pt.slots] at X101 l101 y101 z101 st101 hQ101
  subst l101 y101 z101
  obtain ⟨bv101, rfl, N101q, K101, szv101, Av101⟩ := hQ101
  obtain ⟨h101, e101⟩ : ∃ z, T101.heap = z := ⟨_, rfl⟩
  rw [e101] at K101 Av101
  have g_bv101 : n0 ≤ bv101 := Nat.le_trans (O0.1 ▸ O0.2.1) szv101
  have sz_bv101 : h0.size ≤ bv101 := Nat.le_trans (Nat.le_refl _) szv101
  have O101 := O0.keep K101 all0
  have KK101 : Keep h0 h101 [] := (Keep.refl h0 []).trans K101 all0
  have N101 := Fr.app N0 N101q
  obtain ⟨cl_bv101_7, Ar_bv101_7, -, S_bv101_7, N_bv101_7, -, -⟩ := id (Av101)
  obtain ⟨cl_bv101_26, Ar_bv101_26, q_bv101_26, S_bv101_26, N_bv101_26, H_bv101_26, G_bv101_26⟩ := id (Av101)
  have hinbv101_26 : ¬ ((0 : Int32) < 0 ∨ cl_bv101_26.slots.size ≤ ((0 : Int32)).toNatClampNeg) := inb_of S_bv101_26 ⟨by decide, by decide⟩
  have hatbv101_26 : cl_bv101_26.slots[((0 : Int32)).toNatClampNeg]? = some (.ref w0) := H_bv101_26.at hinbv101_26 rfl
  obtain ⟨T102, X102, e102, st102⟩ := getF X101 hx hZ hown (host := "") (Or.inl (wi hw 54 rfl)) Via.refl e101 (M0.ext O101.2) (g := (mkF m 21 #[.val (.ref a1), .val (.ref bv101), .val (.int (3 : Int32)), .val (.int (0 : Int32)), .val (.ref w0)] [(.ref w0)])) rfl rfl (hb hby d7_21)
  have fE_a1_1_103 := (sEa.keep K101)
  have fString_value_1_104 := (sVa.keep K101 nin0)
  have fString_coder_1_105 := (sCa.keep K101 nin0)
  have fV_ta_1_106 := (sKa.keep K101 nin0)
  obtain ⟨cq107, kq107, q107a, q107b, q107c⟩ := isOf hZ e102 (sEm0.ext O101.2)
  obtain ⟨_, _, ⟨T107, L107, k107, n107⟩, -, X107, ⟨Lc107, hQ107, l107, y107, z107⟩, st107⟩ := X102.virtualBack hx (y := (⟨"java/lang/String", "equals", "(Ljava/lang/Object;)Z"⟩ : MethodName)) (z := (⟨"java/lang/String", "equals", "(Ljava/lang/Object;)Z"⟩ : MethodName)) hown (mvT hZ (wi hw 56 rfl)) (mvT hZ (wi hw 57 rfl)) (notFace_of_selects (args := #[]) (mvT hZ (wi hw 59 rfl))) (mvT hZ (wi hw 59 rfl)) (mvT hZ (wi hw 58 rfl)) (by decide) (StrChars.Road.eqW (W := 0) hZ (fun d hd => hw d (own_w_eqW d hd)) (kI := 4) (wi hw 6 rfl) (sEm0.ext O101.2) (sVm0.ext O101.2) (sCm0.ext O101.2) (sKm0.ext O101.2) scdm0 (own_up _ shpm0) shlm0 fE_a1_1_103 fString_value_1_104 fString_coder_1_105 fV_ta_1_106 scda (own_up _ shpa) shla (S_CS.ext O101.2) hG1 (by decide) (by decide)) q107a q107c (g := (mkF m 25 #[.val (.ref a1), .val (.ref bv101), .val (.int (3 : Int32)), .val (.int (0 : Int32)), .val (.ref w0)] [(.ref a1), (.ref s0)])) rfl (by rw [hml]; rfl) (Steps.refl _) (argsL := [(.ref a1)]) (rest := []) (lenOf pd_1 rfl) rfl (by show 2 * 0 + _ ≤ _; exact Nat.le_of_eq rfl) (hb hby d7_25) (fun _ _ => ⟨rfl, e102, (by decide : 1 + 0 ≤ _), (by decide : 3 + 0 ≤ _)⟩)
  dsimp only [Pt.U, Pt.locs, Pt.cells, Pt.slots] at X107 l107 y107 z107 st107 hQ107
  subst l107 y107 z107
  obtain ⟨hv107, rfl, hh107⟩ := hQ107
  obtain rfl := (hv107.resolve_left (fun q => ((by decide) : ¬ ([(97 : Int32), (114 : Int32), (114 : Int32), (97 : Int32), (121 : Int32)] : List Int32) = ([(108 : Int32), (105 : Int32), (110 : Int32), (107 : Int32), (101 : Int32), (100 : Int32), (45 : Int32), (100 : Int32), (101 : Int32), (113 : Int32), (117 : Int32), (101 : Int32)] : List Int32)) q.2)).1
  have N107q : Fr n0 ([] : List Loc) := Fr.nil n0
  have e107 : T107.heap = h101 := hh107
  have N107 := Fr.app N101 N107q
  obtain ⟨cl_bv101_54, Ar_bv101_54, q_bv101_54, S_bv101_54, N_bv101_54, H_bv101_54, G_bv101_54⟩ := id (Av101)
  have hinbv101_54 : ¬ ((1 : Int32) < 0 ∨ cl_bv101_54.slots.size ≤ ((1 : Int32)).toNatClampNeg) := inb_of S_bv101_54 ⟨by decide, by decide⟩
  have hatbv101_54 : cl_bv101_54.slots[((1 : Int32)).toNatClampNeg]? = some (.ref w1) := H_bv101_54.at hinbv101_54 rfl
  obtain ⟨T108, X108, e108, st108⟩ := getF X107 hx hZ hown (host := "") (Or.inl (wi hw 54 rfl)) Via.refl e107 (M1.ext O101.2) (g := (mkF m 21 #[.val (.ref a1), .val (.ref bv101), .val (.int (3 : Int32)), .val (.int (1 : Int32)), .val (.ref w1)] [(.ref w1)])) rfl rfl (hb hby d7_21)
  obtain ⟨cq109, kq109, q109a, q109b, q109c⟩ := isOf hZ e108 (sEm1.ext O101.2)
  obtain ⟨_, _, ⟨T109, L109, k109, n109⟩, -, X109, ⟨Lc109, hQ109, l109, y109, z109⟩, st109⟩ := X108.virtualBack hx (y := (⟨"java/lang/String", "equals", "(Ljava/lang/Object;)Z"⟩ : MethodName)) (z := (⟨"java/lang/String", "equals", "(Ljava/lang/Object;)Z"⟩ : MethodName)) hown (mvT hZ (wi hw 56 rfl)) (mvT hZ (wi hw 57 rfl)) (notFace_of_selects (args := #[]) (mvT hZ (wi hw 59 rfl))) (mvT hZ (wi hw 59 rfl)) (mvT hZ (wi hw 58 rfl)) (by decide) (StrChars.Road.eqW (W := 0) hZ (fun d hd => hw d (own_w_eqW d hd)) (kI := 4) (wi hw 6 rfl) (sEm1.ext O101.2) (sVm1.ext O101.2) (sCm1.ext O101.2) (sKm1.ext O101.2) scdm1 (own_up _ shpm1) shlm1 fE_a1_1_103 fString_value_1_104 fString_coder_1_105 fV_ta_1_106 scda (own_up _ shpa) shla (S_CS.ext O101.2) hG1 (by decide) (by decide)) q109a q109c (g := (mkF m 25 #[.val (.ref a1), .val (.ref bv101), .val (.int (3 : Int32)), .val (.int (1 : Int32)), .val (.ref w1)] [(.ref a1), (.ref s1)])) rfl (by rw [hml]; rfl) (Steps.refl _) (argsL := [(.ref a1)]) (rest := []) (lenOf pd_1 rfl) rfl (by show 2 * 0 + _ ≤ _; exact Nat.le_of_eq rfl) (hb hby d7_25) (fun _ _ => ⟨rfl, e108, (by decide : 1 + 0 ≤ _), (by decide : 3 + 0 ≤ _)⟩)
  dsimp only [Pt.U, Pt.locs, Pt.cells, Pt.slots] at X109 l109 y109 z109 st109 hQ109
  subst l109 y109 z109
  obtain ⟨hv109, rfl, hh109⟩ := hQ109
  obtain rfl := (hv109.resolve_left (fun q => ((by decide) : ¬ ([(108 : Int32), (105 : Int32), (110 : Int32), (107 : Int32), (101 : Int32), (100 : Int32)] : List Int32) = ([(108 : Int32), (105 : Int32), (110 : Int32), (107 : Int32), (101 : Int32), (100 : Int32), (45 : Int32), (100 : Int32), (101 : Int32), (113 : Int32), (117 : Int32), (101 : Int32)] : List Int32)) q.2)).1
  have N109q : Fr n0 ([] : List Loc) := Fr.nil n0
  have e109 : T109.heap = h101 := hh109
  have N109 := Fr.app N107 N109q
  obtain ⟨cl_bv101_82, Ar_bv101_82, q_bv101_82, S_bv101_82, N_bv101_82, H_bv101_82, G_bv101_82⟩ := id (Av101)
  have hinbv101_82 : ¬ ((2 : Int32) < 0 ∨ cl_bv101_82.slots.size ≤ ((2 : Int32)).toNatClampNeg) := inb_of S_bv101_82 ⟨by decide, by decide⟩
  have hatbv101_82 : cl_bv101_82.slots[((2 : Int32)).toNatClampNeg]? = some (.ref w2) := H_bv101_82.at hinbv101_82 rfl
  obtain ⟨T110, X110, e110, st110⟩ := getF X109 hx hZ hown (host := "") (Or.inl (wi hw 54 rfl)) Via.refl e109 (M2.ext O101.2) (g := (mkF m 21 #[.val (.ref a1), .val (.ref bv101), .val (.int (3 : Int32)), .val (.int (2 : Int32)), .val (.ref w2)] [(.ref w2)])) rfl rfl (hb hby d7_21)
  obtain ⟨cq111, kq111, q111a, q111b, q111c⟩ := isOf hZ e110 (sEm2.ext O101.2)
  obtain ⟨_, _, ⟨T111, L111, k111, n111⟩, -, X111, ⟨Lc111, hQ111, l111, y111, z111⟩, st111⟩ := X110.virtualBack hx (y := (⟨"java/lang/String", "equals", "(Ljava/lang/Object;)Z"⟩ : MethodName)) (z := (⟨"java/lang/String", "equals", "(Ljava/lang/Object;)Z"⟩ : MethodName)) hown (mvT hZ (wi hw 56 rfl)) (mvT hZ (wi hw 57 rfl)) (notFace_of_selects (args := #[]) (mvT hZ (wi hw 59 rfl))) (mvT hZ (wi hw 59 rfl)) (mvT hZ (wi hw 58 rfl)) (by decide) (StrChars.Road.eqW (W := 0) hZ (fun d hd => hw d (own_w_eqW d hd)) (kI := 4) (wi hw 6 rfl) (sEm2.ext O101.2) (sVm2.ext O101.2) (sCm2.ext O101.2) (sKm2.ext O101.2) scdm2 (own_up _ shpm2) shlm2 fE_a1_1_103 fString_value_1_104 fString_coder_1_105 fV_ta_1_106 scda (own_up _ shpa) shla (S_CS.ext O101.2) hG1 (by decide) (by decide)) q111a q111c (g := (mkF m 25 #[.val (.ref a1), .val (.ref bv101), .val (.int (3 : Int32)), .val (.int (2 : Int32)), .val (.ref w2)] [(.ref a1), (.ref s2)])) rfl (by rw [hml]; rfl) (Steps.refl _) (argsL := [(.ref a1)]) (rest := []) (lenOf pd_1 rfl) rfl (by show 2 * 0 + _ ≤ _; exact Nat.le_of_eq rfl) (hb hby d7_25) (fun _ _ => ⟨rfl, e110, (by decide : 1 + 0 ≤ _), (by decide : 3 + 0 ≤ _)⟩)
  dsimp only [Pt.U, Pt.locs, Pt.cells, Pt.slots] at X111 l111 y111 z111 st111 hQ111
  subst l111 y111 z111
  obtain ⟨hv111, rfl, hh111⟩ := hQ111
  obtain rfl := (hv111.resolve_right (fun q => q.2 ((by decide) : ([(108 : Int32), (105 : Int32), (110 : Int32), (107 : Int32), (101 : Int32), (100 : Int32), (45 : Int32), (100 : Int32), (101 : Int32), (113 : Int32), (117 : Int32), (101 : Int32)] : List Int32) = ([(108 : Int32), (105 : Int32), (110 : Int32), (107 : Int32), (101 : Int32), (100 : Int32), (45 : Int32), (100 : Int32), (101 : Int32), (113 : Int32), (117 : Int32), (101 : Int32)] : List Int32)))).1
  have N111q : Fr n0 ([] : List Loc) := Fr.nil n0
  have e111 : T111.heap = h101 := hh111
  have N111 := Fr.app N109 N111q
  obtain ⟨fs, hr, hrun, hended, hW, hsame⟩ := X111.leave (v := some (.ref w2)) (fun h => by rw [Bd.returns] at h; cases h)
  refine ⟨_, _, pre0 _ ?_, hrun, hended, _, _, rfl, ?_, ⟨_, rfl⟩, hW, hsame.mono (by decide) (by decide)⟩
  · show Steps p.tables e below (s₁.setTop (mkF m 0 #[.val (.ref a1), .unset, .unset, .unset, .unset] [])) _
    refine st101 _ ?_
    show Steps p.tables e below (T101.setTop (mkF m 3 #[.val (.ref a1), .unset, .unset, .unset, .unset] [(.ref bv101)])) _
    refine XS.astoreN X101.here hx rfl (hb hby d7_3) rfl rfl (l' := #[.val (.ref a1), .val (.ref bv101), .unset, .unset, .unset]) rfl ?_
    show Steps p.tables e below (T101.setTop (mkF m 4 #[.val (.ref a1), .val (.ref bv101), .unset, .unset, .unset] [])) _
    refine XS.aloadN X101.here hx rfl (hb hby d7_4) rfl rfl ?_
    show Steps p.tables e below (T101.setTop (mkF m 5 #[.val (.ref a1), .val (.ref bv101), .unset, .unset, .unset] [(.ref bv101)])) _
    refine X101.arraylength hx (by rw [e101]; exact Ar_bv101_7.1) (State.isArrayOf_alike hZ.alike Ar_bv101_7.2.1) (g := (mkF m 5 #[.val (.ref a1), .val (.ref bv101), .unset, .unset, .unset] [(.ref bv101)])) rfl rfl (hb hby d7_5) _ ?_
    rw [len_of S_bv101_7 N_bv101_7]
    show Steps p.tables e below (T101.setTop (mkF m 6 #[.val (.ref a1), .val (.ref bv101), .unset, .unset, .unset] [(.int (3 : Int32))])) _
    refine XS.istoreN X101.here hx rfl (hb hby d7_6) rfl (l' := #[.val (.ref a1), .val (.ref bv101), .val (.int (3 : Int32)), .unset, .unset]) rfl ?_
    show Steps p.tables e below (T101.setTop (mkF m 7 #[.val (.ref a1), .val (.ref bv101), .val (.int (3 : Int32)), .unset, .unset] [])) _
    refine XS.iconst X101.here hx rfl (hb hby d7_7) ?_
    show Steps p.tables e below (T101.setTop (mkF m 8 #[.val (.ref a1), .val (.ref bv101), .val (.int (3 : Int32)), .unset, .unset] [(.int (0 : Int32))])) _
    refine XS.istoreN X101.here hx rfl (hb hby d7_8) rfl (l' := #[.val (.ref a1), .val (.ref bv101), .val (.int (3 : Int32)), .val (.int (0 : Int32)), .unset]) rfl ?_
    show Steps p.tables e below (T101.setTop (mkF m 9 #[.val (.ref a1), .val (.ref bv101), .val (.int (3 : Int32)), .val (.int (0 : Int32)), .unset] [])) _
    refine XS.iloadN X101.here hx rfl (hb hby d7_9) rfl ?_
    show Steps p.tables e below (T101.setTop (mkF m 10 #[.val (.ref a1), .val (.ref bv101), .val (.int (3 : Int32)), .val (.int (0 : Int32)), .unset] [(.int (0 : Int32))])) _
    refine XS.iloadN X101.here hx rfl (hb hby d7_10) rfl ?_
    show Steps p.tables e below (T101.setTop (mkF m 11 #[.val (.ref a1), .val (.ref bv101), .val (.int (3 : Int32)), .val (.int (0 : Int32)), .unset] [(.int (3 : Int32)), (.int (0 : Int32))])) _
    refine XS.icmpNo X101.here hx rfl (hb hby d7_11) rfl (tlt (by decide : (0 : Int32) < (3 : Int32))).2.1 ?_
    show Steps p.tables e below (T101.setTop (mkF m 14 #[.val (.ref a1), .val (.ref bv101), .val (.int (3 : Int32)), .val (.int (0 : Int32)), .unset] [])) _
    refine XS.aloadN X101.here hx rfl (hb hby d7_14) rfl rfl ?_
    show Steps p.tables e below (T101.setTop (mkF m 15 #[.val (.ref a1), .val (.ref bv101), .val (.int (3 : Int32)), .val (.int (0 : Int32)), .unset] [(.ref bv101)])) _
    refine XS.iloadN X101.here hx rfl (hb hby d7_15) rfl ?_
    show Steps p.tables e below (T101.setTop (mkF m 16 #[.val (.ref a1), .val (.ref bv101), .val (.int (3 : Int32)), .val (.int (0 : Int32)), .unset] [(.int (0 : Int32)), (.ref bv101)])) _
    refine X101.aaload hx (j := (0 : Int32)) (v := (.ref w0)) (by rw [e101]; exact Ar_bv101_26.1) (State.isArrayOf_alike hZ.alike Ar_bv101_26.2.1) rfl Ar_bv101_26.2.2 hinbv101_26 hatbv101_26 (g := (mkF m 16 #[.val (.ref a1), .val (.ref bv101), .val (.int (3 : Int32)), .val (.int (0 : Int32)), .unset] [(.int (0 : Int32)), (.ref bv101)])) rfl rfl (hb hby d7_16) _ ?_
    show Steps p.tables e below (T101.setTop (mkF m 17 #[.val (.ref a1), .val (.ref bv101), .val (.int (3 : Int32)), .val (.int (0 : Int32)), .unset] [(.ref w0)])) _
    refine XS.astore X101.here hx rfl (hb hby d7_17) rfl rfl (l' := #[.val (.ref a1), .val (.ref bv101), .val (.int (3 : Int32)), .val (.int (0 : Int32)), .val (.ref w0)]) rfl ?_
    show Steps p.tables e below (T101.setTop (mkF m 19 #[.val (.ref a1), .val (.ref bv101), .val (.int (3 : Int32)), .val (.int (0 : Int32)), .val (.ref w0)] [])) _
    refine XS.aload X101.here hx rfl (hb hby d7_19) rfl rfl ?_
    show Steps p.tables e below (T101.setTop (mkF m 21 #[.val (.ref a1), .val (.ref bv101), .val (.int (3 : Int32)), .val (.int (0 : Int32)), .val (.ref w0)] [(.ref w0)])) _
    refine st102 _ ?_
    show Steps p.tables e below (T102.setTop (mkF m 24 #[.val (.ref a1), .val (.ref bv101), .val (.int (3 : Int32)), .val (.int (0 : Int32)), .val (.ref w0)] [(.ref s0)])) _
    refine XS.aloadN X102.here hx rfl (hb hby d7_24) rfl rfl ?_
    show Steps p.tables e below (T102.setTop (mkF m 25 #[.val (.ref a1), .val (.ref bv101), .val (.int (3 : Int32)), .val (.int (0 : Int32)), .val (.ref w0)] [(.ref a1), (.ref s0)])) _
    refine st107.trans ?_
    show Steps p.tables e below (T107.setTop (mkF m 28 #[.val (.ref a1), .val (.ref bv101), .val (.int (3 : Int32)), .val (.int (0 : Int32)), .val (.ref w0)] [(.int (0 : Int32))])) _
    refine XS.ifYes X107.here hx rfl (pc0 := 28) (pc' := 34) rfl (hb hby d7_28) rfl ((if0 _ _).trans (teq (by decide : (0 : Int32) = (0 : Int32))).1) (by decide) (by decide) ?_
    show Steps p.tables e below (T107.setTop (mkF m 34 #[.val (.ref a1), .val (.ref bv101), .val (.int (3 : Int32)), .val (.int (0 : Int32)), .val (.ref w0)] [])) _
    refine XS.iinc X107.here hx rfl (hb hby d7_34) rfl (l' := #[.val (.ref a1), .val (.ref bv101), .val (.int (3 : Int32)), .val (.int (1 : Int32)), .val (.ref w0)]) rfl ?_
    show Steps p.tables e below (T107.setTop (mkF m 37 #[.val (.ref a1), .val (.ref bv101), .val (.int (3 : Int32)), .val (.int (1 : Int32)), .val (.ref w0)] [])) _
    refine XS.goto X107.here hx rfl (pc0 := 37) (pc' := 9) rfl (hb hby d7_37) (by decide) (by decide) ?_
    show Steps p.tables e below (T107.setTop (mkF m 9 #[.val (.ref a1), .val (.ref bv101), .val (.int (3 : Int32)), .val (.int (1 : Int32)), .val (.ref w0)] [])) _
    refine XS.iloadN X107.here hx rfl (hb hby d7_9) rfl ?_
    show Steps p.tables e below (T107.setTop (mkF m 10 #[.val (.ref a1), .val (.ref bv101), .val (.int (3 : Int32)), .val (.int (1 : Int32)), .val (.ref w0)] [(.int (1 : Int32))])) _
    refine XS.iloadN X107.here hx rfl (hb hby d7_10) rfl ?_
    show Steps p.tables e below (T107.setTop (mkF m 11 #[.val (.ref a1), .val (.ref bv101), .val (.int (3 : Int32)), .val (.int (1 : Int32)), .val (.ref w0)] [(.int (3 : Int32)), (.int (1 : Int32))])) _
    refine XS.icmpNo X107.here hx rfl (hb hby d7_11) rfl (tlt (by decide : (1 : Int32) < (3 : Int32))).2.1 ?_
    show Steps p.tables e below (T107.setTop (mkF m 14 #[.val (.ref a1), .val (.ref bv101), .val (.int (3 : Int32)), .val (.int (1 : Int32)), .val (.ref w0)] [])) _
    refine XS.aloadN X107.here hx rfl (hb hby d7_14) rfl rfl ?_
    show Steps p.tables e below (T107.setTop (mkF m 15 #[.val (.ref a1), .val (.ref bv101), .val (.int (3 : Int32)), .val (.int (1 : Int32)), .val (.ref w0)] [(.ref bv101)])) _
    refine XS.iloadN X107.here hx rfl (hb hby d7_15) rfl ?_
    show Steps p.tables e below (T107.setTop (mkF m 16 #[.val (.ref a1), .val (.ref bv101), .val (.int (3 : Int32)), .val (.int (1 : Int32)), .val (.ref w0)] [(.int (1 : Int32)), (.ref bv101)])) _
    refine X107.aaload hx (j := (1 : Int32)) (v := (.ref w1)) (by rw [e107]; exact Ar_bv101_54.1) (State.isArrayOf_alike hZ.alike Ar_bv101_54.2.1) rfl Ar_bv101_54.2.2 hinbv101_54 hatbv101_54 (g := (mkF m 16 #[.val (.ref a1), .val (.ref bv101), .val (.int (3 : Int32)), .val (.int (1 : Int32)), .val (.ref w0)] [(.int (1 : Int32)), (.ref bv101)])) rfl rfl (hb hby d7_16) _ ?_
    show Steps p.tables e below (T107.setTop (mkF m 17 #[.val (.ref a1), .val (.ref bv101), .val (.int (3 : Int32)), .val (.int (1 : Int32)), .val (.ref w0)] [(.ref w1)])) _
    refine XS.astore X107.here hx rfl (hb hby d7_17) rfl rfl (l' := #[.val (.ref a1), .val (.ref bv101), .val (.int (3 : Int32)), .val (.int (1 : Int32)), .val (.ref w1)]) rfl ?_
    show Steps p.tables e below (T107.setTop (mkF m 19 #[.val (.ref a1), .val (.ref bv101), .val (.int (3 : Int32)), .val (.int (1 : Int32)), .val (.ref w1)] [])) _
    refine XS.aload X107.here hx rfl (hb hby d7_19) rfl rfl ?_
    show Steps p.tables e below (T107.setTop (mkF m 21 #[.val (.ref a1), .val (.ref bv101), .val (.int (3 : Int32)), .val (.int (1 : Int32)), .val (.ref w1)] [(.ref w1)])) _
    refine st108 _ ?_
    show Steps p.tables e below (T108.setTop (mkF m 24 #[.val (.ref a1), .val (.ref bv101), .val (.int (3 : Int32)), .val (.int (1 : Int32)), .val (.ref w1)] [(.ref s1)])) _
    refine XS.aloadN X108.here hx rfl (hb hby d7_24) rfl rfl ?_
    show Steps p.tables e below (T108.setTop (mkF m 25 #[.val (.ref a1), .val (.ref bv101), .val (.int (3 : Int32)), .val (.int (1 : Int32)), .val (.ref w1)] [(.ref a1), (.ref s1)])) _
    refine st109.trans ?_
    show Steps p.tables e below (T109.setTop (mkF m 28 #[.val (.ref a1), .val (.ref bv101), .val (.int (3 : Int32)), .val (.int (1 : Int32)), .val (.ref w1)] [(.int (0 : Int32))])) _
    refine XS.ifYes X109.here hx rfl (pc0 := 28) (pc' := 34) rfl (hb hby d7_28) rfl ((if0 _ _).trans (teq (by decide : (0 : Int32) = (0 : Int32))).1) (by decide) (by decide) ?_
    show Steps p.tables e below (T109.setTop (mkF m 34 #[.val (.ref a1), .val (.ref bv101), .val (.int (3 : Int32)), .val (.int (1 : Int32)), .val (.ref w1)] [])) _
    refine XS.iinc X109.here hx rfl (hb hby d7_34) rfl (l' := #[.val (.ref a1), .val (.ref bv101), .val (.int (3 : Int32)), .val (.int (2 : Int32)), .val (.ref w1)]) rfl ?_
    show Steps p.tables e below (T109.setTop (mkF m 37 #[.val (.ref a1), .val (.ref bv101), .val (.int (3 : Int32)), .val (.int (2 : Int32)), .val (.ref w1)] [])) _
    refine XS.goto X109.here hx rfl (pc0 := 37) (pc' := 9) rfl (hb hby d7_37) (by decide) (by decide) ?_
    show Steps p.tables e below (T109.setTop (mkF m 9 #[.val (.ref a1), .val (.ref bv101), .val (.int (3 : Int32)), .val (.int (2 : Int32)), .val (.ref w1)] [])) _
    refine XS.iloadN X109.here hx rfl (hb hby d7_9) rfl ?_
    show Steps p.tables e below (T109.setTop (mkF m 10 #[.val (.ref a1), .val (.ref bv101), .val (.int (3 : Int32)), .val (.int (2 : Int32)), .val (.ref w1)] [(.int (2 : Int32))])) _
    refine XS.iloadN X109.here hx rfl (hb hby d7_10) rfl ?_
    show Steps p.tables e below (T109.setTop (mkF m 11 #[.val (.ref a1), .val (.ref bv101), .val (.int (3 : Int32)), .val (.int (2 : Int32)), .val (.ref w1)] [(.int (3 : Int32)), (.int (2 : Int32))])) _
    refine XS.icmpNo X109.here hx rfl (hb hby d7_11) rfl (tlt (by decide : (2 : Int32) < (3 : Int32))).2.1 ?_
    show Steps p.tables e below (T109.setTop (mkF m 14 #[.val (.ref a1), .val (.ref bv101), .val (.int (3 : Int32)), .val (.int (2 : Int32)), .val (.ref w1)] [])) _
    refine XS.aloadN X109.here hx rfl (hb hby d7_14) rfl rfl ?_
    show Steps p.tables e below (T109.setTop (mkF m 15 #[.val (.ref a1), .val (.ref bv101), .val (.int (3 : Int32)), .val (.int (2 : Int32)), .val (.ref w1)] [(.ref bv101)])) _
    refine XS.iloadN X109.here hx rfl (hb hby d7_15) rfl ?_
    show Steps p.tables e below (T109.setTop (mkF m 16 #[.val (.ref a1), .val (.ref bv101), .val (.int (3 : Int32)), .val (.int (2 : Int32)), .val (.ref w1)] [(.int (2 : Int32)), (.ref bv101)])) _
    refine X109.aaload hx (j := (2 : Int32)) (v := (.ref w2)) (by rw [e109]; exact Ar_bv101_82.1) (State.isArrayOf_alike hZ.alike Ar_bv101_82.2.1) rfl Ar_bv101_82.2.2 hinbv101_82 hatbv101_82 (g := (mkF m 16 #[.val (.ref a1), .val (.ref bv101), .val (.int (3 : Int32)), .val (.int (2 : Int32)), .val (.ref w1)] [(.int (2 : Int32)), (.ref bv101)])) rfl rfl (hb hby d7_16) _ ?_
    show Steps p.tables e below (T109.setTop (mkF m 17 #[.val (.ref a1), .val (.ref bv101), .val (.int (3 : Int32)), .val (.int (2 : Int32)), .val (.ref w1)] [(.ref w2)])) _
    refine XS.astore X109.here hx rfl (hb hby d7_17) rfl rfl (l' := #[.val (.ref a1), .val (.ref bv101), .val (.int (3 : Int32)), .val (.int (2 : Int32)), .val (.ref w2)]) rfl ?_
    show Steps p.tables e below (T109.setTop (mkF m 19 #[.val (.ref a1), .val (.ref bv101), .val (.int (3 : Int32)), .val (.int (2 : Int32)), .val (.ref w2)] [])) _
    refine XS.aload X109.here hx rfl (hb hby d7_19) rfl rfl ?_
    show Steps p.tables e below (T109.setTop (mkF m 21 #[.val (.ref a1), .val (.ref bv101), .val (.int (3 : Int32)), .val (.int (2 : Int32)), .val (.ref w2)] [(.ref w2)])) _
    refine st110 _ ?_
    show Steps p.tables e below (T110.setTop (mkF m 24 #[.val (.ref a1), .val (.ref bv101), .val (.int (3 : Int32)), .val (.int (2 : Int32)), .val (.ref w2)] [(.ref s2)])) _
    refine XS.aloadN X110.here hx rfl (hb hby d7_24) rfl rfl ?_
    show Steps p.tables e below (T110.setTop (mkF m 25 #[.val (.ref a1), .val (.ref bv101), .val (.int (3 : Int32)), .val (.int (2 : Int32)), .val (.ref w2)] [(.ref a1), (.ref s2)])) _
    refine st111.trans ?_
    show Steps p.tables e below (T111.setTop (mkF m 28 #[.val (.ref a1), .val (.ref bv101), .val (.int (3 : Int32)), .val (.int (2 : Int32)), .val (.ref w2)] [(.int (1 : Int32))])) _
    refine XS.ifNo X111.here hx rfl (hb hby d7_28) rfl ((if0 _ _).trans (feq (by decide : ¬ ((1 : Int32) = (0 : Int32)))).1) ?_
    show Steps p.tables e below (T111.setTop (mkF m 31 #[.val (.ref a1), .val (.ref bv101), .val (.int (3 : Int32)), .val (.int (2 : Int32)), .val (.ref w2)] [])) _
    refine XS.aload X111.here hx rfl (hb hby d7_31) rfl rfl ?_
    show Steps p.tables e below (T111.setTop (mkF m 33 #[.val (.ref a1), .val (.ref bv101), .val (.int (3 : Int32)), .val (.int (2 : Int32)), .val (.ref w2)] [(.ref w2)])) _
    jvm_step X111.here [X111.here.top, hx, (hb hby d7_33), X111.method', Bd.returns, Value.isRef, FieldType.isReference]
    first | (intro acts; rw [hr _ acts rfl rfl rfl]) | rw [hr _ _ rfl rfl rfl]
    exact Steps.refl _
  · show Q7 (.ref w2) h0 n0 _ T111.heap _
    rw [e111]
    exact ⟨rfl, N111, KK101⟩
def Q0 (h0 : Heap) (n0 : Nat) (v : Option Value) (h : Heap) (L : List Loc) : Prop := v = some (.int (1 : Int32)) ∧ Fr n0 L
theorem own_w_backV : ∀ d ∈ StrChars.Road.words, d ∈ tables_1 := by decide +kernel
theorem pd_2 : parseMethodDescriptor "([C)V" = some ⟨[(.array .char)], none⟩ := by decide +kernel
theorem pd_3 : parseMethodDescriptor "(Ljava/lang/String;)Ldev/tryst/tool/Workload$QueueKind;" = some ⟨[(.object "java/lang/String")], some (.object "dev/tryst/tool/Workload$QueueKind")⟩ := by decide +kernel
theorem ef_I_6m (m : MethodId) (x0 : Int32) : entryFrame m #[(.int x0)] maxLocals = mkF m 0 #[.val (.int x0), .unset, .unset, .unset, .unset, .unset] [] := by first | (simp [entryFrame, mkF, argsToLocals, Value.category, maxLocals]; done) | rfl
theorem pn_1 : plainName "dev/tryst/tool/QueueKindOfPinLaw" = true := by first | (simp [plainName, overriddenIn]; done) | decide +kernel
set_option maxRecDepth 65536 in
set_option maxHeartbeats 40000000 in
theorem rm0_0 (l : Launch) (Z : State) (a0 : Array Value) (hw : ∀ d ∈ tables_1, d.before a0 Z = true) (ws : List Jvm.Cond) (p1 : Int32) (G1 : Int32) (kV : ClassId) (wV w0 w1 w2 : Addr) (s0 s1 s2 : Addr) (h0 : Heap) (n0 : Nat) (O0 : Old Z n0 h0) (S_CS : Sta Z Z.heap "java/lang/String" "COMPACT_STRINGS" "Z" (.int G1)) (hG1 : ¬ (G1 = (0 : Int32))) (S_V : Sta Z Z.heap "dev/tryst/tool/Workload$QueueKind" "$VALUES" "[Ldev/tryst/tool/Workload$QueueKind;" (.ref wV)) (A_V : Arv Z Z.heap wV kV (.object "dev/tryst/tool/Workload$QueueKind") (3 : Int32) [(.ref w0), (.ref w1), (.ref w2)] .null) (E_V : Exa Z Z.heap wV "[Ldev/tryst/tool/Workload$QueueKind;") (M0 : Fld Z Z.heap w0 "dev/tryst/tool/Workload$QueueKind" "mWord" "Ljava/lang/String;" (.ref s0)) (M1 : Fld Z Z.heap w1 "dev/tryst/tool/Workload$QueueKind" "mWord" "Ljava/lang/String;" (.ref s1)) (M2 : Fld Z Z.heap w2 "dev/tryst/tool/Workload$QueueKind" "mWord" "Ljava/lang/String;" (.ref s2)) (T0 : Str Z Z.heap s0 ([(97 : Int32), (114 : Int32), (114 : Int32), (97 : Int32), (121 : Int32)] : List Int32)) (T1 : Str Z Z.heap s1 ([(108 : Int32), (105 : Int32), (110 : Int32), (107 : Int32), (101 : Int32), (100 : Int32)] : List Int32)) (T2 : Str Z Z.heap s2 ([(108 : Int32), (105 : Int32), (110 : Int32), (107 : Int32), (101 : Int32), (100 : Int32), (45 : Int32), (100 : Int32), (101 : Int32), (113 : Int32), (117 : Int32), (101 : Int32)] : List Int32)) (S_K : Sta Z Z.heap "dev/tryst/tool/Workload$QueueKind" "ARRAY" "Ldev/tryst/tool/Workload$QueueKind;" (.ref w0)) (k0 : (irm (p1 &&& (2147483647 : Int32)) (3 : Int32)) = 0) :
    MetFree l x (head1 (Jvm.Cond.code x code maxLocals ret :: ws) room_1) (fun a_ U => a_ = #[(.int p1)] ∧ Z.Warmed39 U.vm ∧ U.heap = h0) (fun _ _ _ _ _ => True) (fun _ U o U' => ∃ v L, o = .returned v ∧ Q0 h0 n0 v U'.heap L ∧ FrameEnd U o U' L room_1.cells room_1.slots) := by
  refine MetFree.of_bodySF (plainFor_of_name pn_1) hisR ?_
  intro p e s m args below meth c s₁ Bd hml0 hP hK
  obtain ⟨rfl, hZ, hh⟩ := hP
  have hx := Bd.exec
  have hby := Bd.bytes
  have hml : c.maxLocals = 6 := hml0
  have hown : s.vm.findClass "dev/tryst/tool/QueueKindOfPinLaw" = some m.cls := findClass_of_methodNamed Bd.named
  have hnm := (name_of_methodNamed Bd.named Bd.method).1
  have X0 : Stand p l e room_1 s m #[(.int p1)] below meth c s₁ [] 0 0 := Stand.of_body Bd
  have e0 : s₁.heap = h0 := by rw [← hh, Bd.state]; rfl
  have N0 := Fr.nil n0
  have pre0 : ∀ tg, Steps p.tables e below (s₁.setTop (mkF m 0 #[.val (.int p1), .unset, .unset, .unset, .unset, .unset] [])) tg → Steps p.tables e below (s₁.setTop (entryFrame m #[(.int p1)] maxLocals)) tg := fun tg kq => castTop (ef_I_6m m p1) kq
  obtain ⟨tm0, kbm0, Nm0, vsm0, sEm0, sVm0, sCm0, sKm0, scdm0, shpm0, shlm0⟩ := id T0
  obtain ⟨tm1, kbm1, Nm1, vsm1, sEm1, sVm1, sCm1, sKm1, scdm1, shpm1, shlm1⟩ := id T1
  obtain ⟨tm2, kbm2, Nm2, vsm2, sEm2, sVm2, sCm2, sKm2, scdm2, shpm2, shlm2⟩ := id T2
  obtain ⟨T101, h101, k101, X101, e101, E101, A101, st101⟩ := newP X0 hx hZ (wi hw 1 rfl) e0 (g := (mkF m 12 #[.val (.int p1), .val (.int (irm (p1 &&& (2147483647 : Int32)) (3 : Int32))), .unset, .unset, .unset, .unset] [(.int (5 : Int32))])) rfl (hb hby at_12) rfl (by decide) (cap := 5) (by decide) (by decide) (by decide) (by decide)
  obtain ⟨b101, g101⟩ : ∃ z, z = h0.size := ⟨_, rfl⟩
  rw [← g101] at A101 st101
  have g_b101 : n0 ≤ b101 := Nat.le_trans (O0.1 ▸ O0.2.1) (Nat.le_of_eq g101.symm)
  have sz_b101 : h0.size ≤ b101 := Nat.le_trans (Nat.le_refl _) (Nat.le_of_eq g101.symm)
  have O101 := O0.ext E101
  have KK101 : Keep h0 h101 [] := (Keep.refl h0 []).ext E101
  have V_b101 : Arv Z h101 b101 k101 .char (5 : Int32) [(.int (0 : Int32)), (.int (0 : Int32)), (.int (0 : Int32)), (.int (0 : Int32)), (.int (0 : Int32))] (.int (0 : Int32)) := (Arv.new A101 (by decide)).pad (pad_rep [] (.int (0 : Int32)) 5)
  obtain ⟨cl_b101_27, Ar_b101_27, q_b101_27, S_b101_27, N_b101_27, H_b101_27, G_b101_27⟩ := id (V_b101)
  have hinb101_27 : ¬ ((0 : Int32) < 0 ∨ cl_b101_27.slots.size ≤ ((0 : Int32)).toNatClampNeg) := inb_of S_b101_27 ⟨by decide, by decide⟩
  obtain ⟨T102, h102, X102, e102, W102, st102⟩ := stC X101 hx hZ e101 Ar_b101_27 (j := (0 : Int32)) hinb101_27 (g := (mkF m 18 #[.val (.int p1), .val (.int (irm (p1 &&& (2147483647 : Int32)) (3 : Int32))), .unset, .unset, .unset, .unset] [(.int (97 : Int32)), (.int (0 : Int32)), (.ref b101), (.ref b101)])) rfl rfl (hb hby at_18)
  have V_b101_102 : Arv Z h102 b101 k101 .char (5 : Int32) [(.int (97 : Int32)), (.int (0 : Int32)), (.int (0 : Int32)), (.int (0 : Int32)), (.int (0 : Int32))] (.int (0 : Int32)) := Arv.set Ar_b101_27 q_b101_27 S_b101_27 N_b101_27 H_b101_27 G_b101_27 (fits_nar_char _) W102 0 rfl (Nat.le_of_ble_eq_true rfl)
  have O102 := O101.wr W102 g_b101
  have KK102 : Keep h0 h102 [] := KK101.wr W102 (Or.inr sz_b101)
  have N102 := Fr.snoc X102 N0 g_b101
  obtain ⟨cl_b101_35, Ar_b101_35, q_b101_35, S_b101_35, N_b101_35, H_b101_35, G_b101_35⟩ := id (V_b101_102)
  have hinb101_35 : ¬ ((1 : Int32) < 0 ∨ cl_b101_35.slots.size ≤ ((1 : Int32)).toNatClampNeg) := inb_of S_b101_35 ⟨by decide, by decide⟩
  obtain ⟨T103, h103, X103, e103, W103, st103⟩ := stC X102 hx hZ e102 Ar_b101_35 (j := (1 : Int32)) hinb101_35 (g := (mkF m 23 #[.val (.int p1), .val (.int (irm (p1 &&& (2147483647 : Int32)) (3 : Int32))), .unset, .unset, .unset, .unset] [(.int (114 : Int32)), (.int (1 : Int32)), (.ref b101), (.ref b101)])) rfl rfl (hb hby at_23)
  have V_b101_103 : Arv Z h103 b101 k101 .char (5 : Int32) [(.int (97 : Int32)), (.int (114 : Int32)), (.int (0 : Int32)), (.int (0 : Int32)), (.int (0 : Int32))] (.int (0 : Int32)) := Arv.set Ar_b101_35 q_b101_35 S_b101_35 N_b101_35 H_b101_35 G_b101_35 (fits_nar_char _) W103 1 rfl (Nat.le_of_ble_eq_true rfl)
  have O103 := O102.wr W103 g_b101
  have KK103 : Keep h0 h103 [] := KK102.wr W103 (Or.inr sz_b101)
  have N103 := Fr.snoc X103 N102 g_b101
  obtain ⟨cl_b101_43, Ar_b101_43, q_b101_43, S_b101_43, N_b101_43, H_b101_43, G_b101_43⟩ := id (V_b101_103)
  have hinb101_43 : ¬ ((2 : Int32) < 0 ∨ cl_b101_43.slots.size ≤ ((2 : Int32)).toNatClampNeg) := inb_of S_b101_43 ⟨by decide, by decide⟩
  obtain ⟨T104, h104, X104, e104, W104, st104⟩ := stC X103 hx hZ e103 Ar_b101_43 (j := (2 : Int32)) hinb101_43 (g := (mkF m 28 #[.val (.int p1), .val (.int (irm (p1 &&& (2147483647 : Int32)) (3 : Int32))), .unset, .unset, .unset, .unset] [(.int (114 : Int32)), (.int (2 : Int32)), (.ref b101), (.ref b101)])) rfl rfl (hb hby at_28)
  have V_b101_104 : Arv Z h104 b101 k101 .char (5 : Int32) [(.int (97 : Int32)), (.int (114 : Int32)), (.int (114 : Int32)), (.int (0 : Int32)), (.int (0 : Int32))] (.int (0 : Int32)) := Arv.set Ar_b101_43 q_b101_43 S_b101_43 N_b101_43 H_b101_43 G_b101_43 (fits_nar_char _) W104 2 rfl (Nat.le_of_ble_eq_true rfl)
  have O104 := O103.wr W104 g_b101
  have KK104 : Keep h0 h104 [] := KK103.wr W104 (Or.inr sz_b101)
  have N104 := Fr.snoc X104 N103 g_b101
  obtain ⟨cl_b101_51, Ar_b101_51, q_b101_51, S_b101_51, N_b101_51, H_b101_51, G_b101_51⟩ := id (V_b101_104)
  have hinb101_51 : ¬ ((3 : Int32) < 0 ∨ cl_b101_51.slots.size ≤ ((3 : Int32)).toNatClampNeg) := inb_of S_b101_51 ⟨by decide, by decide⟩
  obtain ⟨T105, h105, X105, e105, W105, st105⟩ := stC X104 hx hZ e104 Ar_b101_51 (j := (3 : Int32)) hinb101_51 (g := (mkF m 33 #[.val (.int p1), .val (.int (irm (p1 &&& (2147483647 : Int32)) (3 : Int32))), .unset, .unset, .unset, .unset] [(.int (97 : Int32)), (.int (3 : Int32)), (.ref b101), (.ref b101)])) rfl rfl (hb hby at_33)
  have V_b101_105 : Arv Z h105 b101 k101 .char (5 : Int32) [(.int (97 : Int32)), (.int (114 : Int32)), (.int (114 : Int32)), (.int (97 : Int32)), (.int (0 : Int32))] (.int (0 : Int32)) := Arv.set Ar_b101_51 q_b101_51 S_b101_51 N_b101_51 H_b101_51 G_b101_51 (fits_nar_char _) W105 3 rfl (Nat.le_of_ble_eq_true rfl)
  have O105 := O104.wr W105 g_b101
  have KK105 : Keep h0 h105 [] := KK104.wr W105 (Or.inr sz_b101)
  have N105 := Fr.snoc X105 N104 g_b101
  obtain ⟨cl_b101_59, Ar_b101_59, q_b101_59, S_b101_59, N_b101_59, H_b101_59, G_b101_59⟩ := id (V_b101_105)
  have hinb101_59 : ¬ ((4 : Int32) < 0 ∨ cl_b101_59.slots.size ≤ ((4 : Int32)).toNatClampNeg) := inb_of S_b101_59 ⟨by decide, by decide⟩
  obtain ⟨T106, h106, X106, e106, W106, st106⟩ := stC X105 hx hZ e105 Ar_b101_59 (j := (4 : Int32)) hinb101_59 (g := (mkF m 38 #[.val (.int p1), .val (.int (irm (p1 &&& (2147483647 : Int32)) (3 : Int32))), .unset, .unset, .unset, .unset] [(.int (121 : Int32)), (.int (4 : Int32)), (.ref b101), (.ref b101)])) rfl rfl (hb hby at_38)
  have V_b101_106 : Arv Z h106 b101 k101 .char (5 : Int32) [(.int (97 : Int32)), (.int (114 : Int32)), (.int (114 : Int32)), (.int (97 : Int32)), (.int (121 : Int32))] (.int (0 : Int32)) := Arv.set Ar_b101_59 q_b101_59 S_b101_59 N_b101_59 H_b101_59 G_b101_59 (fits_nar_char _) W106 4 rfl (Nat.le_of_ble_eq_true rfl)
  have O106 := O105.wr W106 g_b101
  have KK106 : Keep h0 h106 [] := KK105.wr W106 (Or.inr sz_b101)
  have N106 := Fr.snoc X106 N105 g_b101
  obtain ⟨T107, X107, e107, st107⟩ := getS2 X106 hx hZ hown (host := "") (Or.inl (wi hw 2 rfl)) Via.refl e106 (S_K.ext O106.2) (g := (mkF m 40 #[.val (.int p1), .val (.int (irm (p1 &&& (2147483647 : Int32)) (3 : Int32))), .val (.ref b101), .unset, .unset, .unset] [])) rfl (hb hby at_40)
  obtain ⟨T108, h108, X108, e108, E108, A108, D108, -, st108⟩ := newO X107 hx hZ hown (wi hw 5 rfl) (wi hw 6 rfl) (wi hw 7 rfl) e107 (g := (mkF m 169 #[.val (.int p1), .val (.int (irm (p1 &&& (2147483647 : Int32)) (3 : Int32))), .val (.ref b101), .val (.ref w0), .unset, .unset] [])) rfl (hb hby at_169) (by decide) (by decide)
  obtain ⟨b108, g108⟩ : ∃ z, z = h106.size := ⟨_, rfl⟩
  rw [← g108] at A108 D108 st108
  have g_b108 : n0 ≤ b108 := Nat.le_trans (O106.1 ▸ O106.2.1) (Nat.le_of_eq g108.symm)
  have sz_b108 : h0.size ≤ b108 := Nat.le_trans KK106.1 (Nat.le_of_eq g108.symm)
  have O108 := O106.ext E108
  have KK108 : Keep h0 h108 [] := KK106.ext E108
  have F_coder_b108 : Fld Z h108 b108 "java/lang/String" "coder" "B" (.int (0 : Int32)) := D108 (Or.inr (wi hw 31 rfl)) (ty := .byte) (by decide)
  have F_value_b108 : Fld Z h108 b108 "java/lang/String" "value" "[B" .null := D108 (Or.inr (wi hw 33 rfl)) (ty := (.array .byte)) (by decide)
  have fV_b101_7_109 := (V_b101_106.ext E108)
  have shp110 : ∀ c ∈ ([(97 : Int32), (114 : Int32), (114 : Int32), (97 : Int32), (121 : Int32)] : List Int32), ¬ c < 0 ∧ ¬ (255 : Int32) < c := by decide
  have sA110 : Arv Z h108 b101 k101 .char (5 : Int32) (([(97 : Int32), (114 : Int32), (114 : Int32), (97 : Int32), (121 : Int32)] : List Int32).map Value.int) (.int (0 : Int32)) := fV_b101_7_109
  obtain ⟨_, _, ⟨T111, L111, k111, n111⟩, -, X111, ⟨Lc111, hQ111, l111, y111, z111⟩, st111⟩ := X108.specialBack hx (y := (⟨"java/lang/String", "<init>", "([C)V"⟩ : MethodName)) rfl hown (mvT hZ (wi hw 8 rfl)) (mvT hZ (wi hw 9 rfl)) (mvT hZ (wi hw 10 rfl)) (by decide) (StrChars.Road.backV (W := 1) hZ (fun d hd => hw d (own_w_backV d hd)) (kI := 4) (wi hw 6 rfl) (cs := ([(97 : Int32), (114 : Int32), (114 : Int32), (97 : Int32), (121 : Int32)] : List Int32)) (bs := ([(97 : Int32), (114 : Int32), (114 : Int32), (97 : Int32), (121 : Int32)] : List Int32).map (fun c => c.toInt8.toInt32)) (n := 5) g_b108 (O108.1 ▸ O108.2.1) A108 F_value_b108 F_coder_b108 sA110 (S_CS.ext O108.2) hG1 rfl rfl (by decide) (by decide) shp110 rfl (by decide) (by decide)) (g := (mkF m 174 #[.val (.int p1), .val (.int (irm (p1 &&& (2147483647 : Int32)) (3 : Int32))), .val (.ref b101), .val (.ref w0), .unset, .unset] [(.ref b101), (.ref b108), (.ref b108)])) rfl (by rw [hml]; rfl) (Steps.refl _) (a := b108) (argsL := [(.ref b101)]) (rest := [(.ref b108)]) (lenOf pd_2 rfl) rfl (by show 2 * 0 + _ ≤ _; exact Nat.le_of_eq rfl) (hb hby at_174) (fun _ _ => ⟨rfl, e108, (by decide : 2 + 1 ≤ _), (by decide : 9 + 5 ≤ _)⟩)
  dsimp only [Pt.U, Pt.locs, Pt.cells, Pt.slots] at X111 l111 y111 z111 st111 hQ111
  subst l111 y111 z111
  obtain ⟨rfl, N111q, K111, sE110, sC110, t110, kb110, sg110, ssz110, sne110, sV110, sK110⟩ := hQ111
  obtain ⟨h111, e111⟩ : ∃ z, T111.heap = z := ⟨_, rfl⟩
  rw [e111] at K111 sE110 sC110 sV110 sK110
  have g_t110 : n0 ≤ t110 := Nat.le_trans (O108.1 ▸ O108.2.1) ssz110
  have sz_t110 : h0.size ≤ t110 := Nat.le_trans KK108.1 ssz110
  have O111 := O108.keep K111 (allS g_b108 all0)
  have KK111 : Keep h0 h111 [] := KK108.trans K111 (allS (Or.inr sz_b108) all0)
  have N111 := Fr.app N106 N111q
  have scd110 : StrChars.Road.CodA ([(97 : Int32), (114 : Int32), (114 : Int32), (97 : Int32), (121 : Int32)] : List Int32) 0 (5 : Int32) ((([(97 : Int32), (114 : Int32), (114 : Int32), (97 : Int32), (121 : Int32)] : List Int32).map (fun c => c.toInt8.toInt32)).map Value.int) := StrChars.Road.codOf (n := 5) rfl (fun c hc => (shp110 c hc).2)
  obtain ⟨_, _, ⟨T112, L112, k112, n112⟩, -, X112, ⟨Lc112, hQ112, l112, y112, z112⟩, st112⟩ := Jvm.LawKit.callS X111 hx (y := (⟨"dev/tryst/tool/Workload$QueueKind", "of", "(Ljava/lang/String;)Ldev/tryst/tool/Workload$QueueKind;"⟩ : MethodName)) hown (mvT hZ (wi hw 34 rfl)) (mvT hZ (wi hw 35 rfl)) (mvT hZ (wi hw 3 rfl)) (mvT hZ (wi hw 36 rfl)) (by decide) (backOf (W := 0) (rm7_0 l Z a0 hw [] G1 kV wV w0 w1 w2 s0 s1 s2 b108 h111 n0 O111 S_CS hG1 S_V A_V E_V M0 M1 M2 T0 T1 T2 ⟨_, _, _, _, sE110, sV110, sC110, sK110, scd110, shp110, (Nat.le_of_ble_eq_true rfl)⟩) hZ (wi hw 36 rfl) (wi hw 3 rfl) (by decide) (by decide)) (g := (mkF m 181 #[.val (.int p1), .val (.int (irm (p1 &&& (2147483647 : Int32)) (3 : Int32))), .val (.ref b101), .val (.ref w0), .val (.ref b108), .unset] [(.ref b108)])) rfl (by rw [hml]; rfl) (argsL := [(.ref b108)]) (rest := []) (lenOf pd_3 rfl) rfl (by show 2 * 0 + _ ≤ _; exact Nat.le_of_eq rfl) (hb hby at_181) (fun _ _ => ⟨rfl, e111, (by decide : 3 + 1 ≤ _), (by decide : 14 + 3 ≤ _)⟩)
  dsimp only [Pt.U, Pt.locs, Pt.cells, Pt.slots] at X112 l112 y112 z112 st112 hQ112
  subst l112 y112 z112
  obtain ⟨rfl, N112q, K112⟩ := hQ112
  obtain ⟨h112, e112⟩ : ∃ z, T112.heap = z := ⟨_, rfl⟩
  rw [e112] at K112
  have O112 := O111.keep K112 all0
  have KK112 : Keep h0 h112 [] := KK111.trans K112 all0
  have N112 := Fr.app N111 N112q
  obtain ⟨T113, X113, e113, st113⟩ := getF X112 hx hZ hown (host := "") (Or.inl (wi hw 66 rfl)) Via.refl e112 (M0.ext O112.2) (g := (mkF m 194 #[.val (.int p1), .val (.int (irm (p1 &&& (2147483647 : Int32)) (3 : Int32))), .val (.ref b101), .val (.ref w0), .val (.ref b108), .val (.ref w0)] [(.ref w0)])) rfl rfl (hb hby at_194)
  have fE_b108_9_114 := (sE110.keep K112)
  have fString_value_9_115 := (sV110.keep K112 nin0)
  have fString_coder_9_116 := (sC110.keep K112 nin0)
  have fV_t110_9_117 := (sK110.keep K112 nin0)
  obtain ⟨cq118, kq118, q118a, q118b, q118c⟩ := isOf hZ e113 (sEm0.ext O112.2)
  obtain ⟨_, _, ⟨T118, L118, k118, n118⟩, -, X118, ⟨Lc118, hQ118, l118, y118, z118⟩, st118⟩ := X113.virtualBack hx (y := (⟨"java/lang/String", "equals", "(Ljava/lang/Object;)Z"⟩ : MethodName)) (z := (⟨"java/lang/String", "equals", "(Ljava/lang/Object;)Z"⟩ : MethodName)) hown (mvT hZ (wi hw 67 rfl)) (mvT hZ (wi hw 57 rfl)) (notFace_of_selects (args := #[]) (mvT hZ (wi hw 59 rfl))) (mvT hZ (wi hw 59 rfl)) (mvT hZ (wi hw 58 rfl)) (by decide) (StrChars.Road.eqW (W := 0) hZ (fun d hd => hw d (own_w_eqW d hd)) (kI := 4) (wi hw 6 rfl) (sEm0.ext O112.2) (sVm0.ext O112.2) (sCm0.ext O112.2) (sKm0.ext O112.2) scdm0 (own_up _ shpm0) shlm0 fE_b108_9_114 fString_value_9_115 fString_coder_9_116 fV_t110_9_117 scd110 (own_up _ shp110) (Nat.le_of_ble_eq_true rfl) (S_CS.ext O112.2) hG1 (by decide) (by decide)) q118a q118c (g := (mkF m 199 #[.val (.int p1), .val (.int (irm (p1 &&& (2147483647 : Int32)) (3 : Int32))), .val (.ref b101), .val (.ref w0), .val (.ref b108), .val (.ref w0)] [(.ref b108), (.ref s0)])) rfl (by rw [hml]; rfl) (Steps.refl _) (argsL := [(.ref b108)]) (rest := []) (lenOf pd_1 rfl) rfl (by show 2 * 0 + _ ≤ _; exact Nat.le_of_eq rfl) (hb hby at_199) (fun _ _ => ⟨rfl, e113, (by decide : 4 + 0 ≤ _), (by decide : 17 + 0 ≤ _)⟩)
  dsimp only [Pt.U, Pt.locs, Pt.cells, Pt.slots] at X118 l118 y118 z118 st118 hQ118
  subst l118 y118 z118
  obtain ⟨hv118, rfl, hh118⟩ := hQ118
  obtain rfl := (hv118.resolve_right (fun q => q.2 ((by decide) : ([(97 : Int32), (114 : Int32), (114 : Int32), (97 : Int32), (121 : Int32)] : List Int32) = ([(97 : Int32), (114 : Int32), (114 : Int32), (97 : Int32), (121 : Int32)] : List Int32)))).1
  have N118q : Fr n0 ([] : List Loc) := Fr.nil n0
  have e118 : T118.heap = h112 := hh118
  have N118 := Fr.app N112 N118q
  obtain ⟨fs, hr, hrun, hended, hW, hsame⟩ := X118.leave (v := some (.int (1 : Int32))) (fun h => by rw [Bd.returns] at h; cases h)
  refine ⟨_, _, pre0 _ ?_, hrun, hended, _, _, rfl, ?_, ⟨_, rfl⟩, hW, hsame.mono (by decide) (by decide)⟩
  · show Steps p.tables e below (s₁.setTop (mkF m 0 #[.val (.int p1), .unset, .unset, .unset, .unset, .unset] [])) _
    refine XS.iloadN X0.here hx rfl (hb hby at_0) rfl ?_
    show Steps p.tables e below (s₁.setTop (mkF m 1 #[.val (.int p1), .unset, .unset, .unset, .unset, .unset] [(.int p1)])) _
    refine X0.ldcInt hx hown (mvT hZ (wi hw 0 rfl)) (g := (mkF m 1 #[.val (.int p1), .unset, .unset, .unset, .unset, .unset] [(.int p1)])) rfl (hb hby at_1) _ ?_
    show Steps p.tables e below (s₁.setTop (mkF m 3 #[.val (.int p1), .unset, .unset, .unset, .unset, .unset] [(.int (2147483647 : Int32)), (.int p1)])) _
    refine XS.iand X0.here hx rfl (hb hby at_3) rfl ?_
    show Steps p.tables e below (s₁.setTop (mkF m 4 #[.val (.int p1), .unset, .unset, .unset, .unset, .unset] [(.int (p1 &&& (2147483647 : Int32)))])) _
    refine XS.iconst X0.here hx rfl (hb hby at_4) ?_
    show Steps p.tables e below (s₁.setTop (mkF m 5 #[.val (.int p1), .unset, .unset, .unset, .unset, .unset] [(.int (3 : Int32)), (.int (p1 &&& (2147483647 : Int32)))])) _
    refine XS.irem X0.here hx rfl (hb hby at_5) rfl (by decide) ?_
    show Steps p.tables e below (s₁.setTop (mkF m 6 #[.val (.int p1), .unset, .unset, .unset, .unset, .unset] [(.int (irm (p1 &&& (2147483647 : Int32)) (3 : Int32)))])) _
    refine XS.istoreN X0.here hx rfl (hb hby at_6) rfl (l' := #[.val (.int p1), .val (.int (irm (p1 &&& (2147483647 : Int32)) (3 : Int32))), .unset, .unset, .unset, .unset]) rfl ?_
    show Steps p.tables e below (s₁.setTop (mkF m 7 #[.val (.int p1), .val (.int (irm (p1 &&& (2147483647 : Int32)) (3 : Int32))), .unset, .unset, .unset, .unset] [])) _
    refine XS.iloadN X0.here hx rfl (hb hby at_7) rfl ?_
    show Steps p.tables e below (s₁.setTop (mkF m 8 #[.val (.int p1), .val (.int (irm (p1 &&& (2147483647 : Int32)) (3 : Int32))), .unset, .unset, .unset, .unset] [(.int (irm (p1 &&& (2147483647 : Int32)) (3 : Int32)))])) _
    refine XS.ifNo X0.here hx rfl (hb hby at_8) rfl ((if0 _ _).trans (teq k0).2) ?_
    show Steps p.tables e below (s₁.setTop (mkF m 11 #[.val (.int p1), .val (.int (irm (p1 &&& (2147483647 : Int32)) (3 : Int32))), .unset, .unset, .unset, .unset] [])) _
    refine XS.iconst X0.here hx rfl (hb hby at_11) ?_
    show Steps p.tables e below (s₁.setTop (mkF m 12 #[.val (.int p1), .val (.int (irm (p1 &&& (2147483647 : Int32)) (3 : Int32))), .unset, .unset, .unset, .unset] [(.int (5 : Int32))])) _
    refine st101 _ ?_
    show Steps p.tables e below (T101.setTop (mkF m 14 #[.val (.int p1), .val (.int (irm (p1 &&& (2147483647 : Int32)) (3 : Int32))), .unset, .unset, .unset, .unset] [(.ref b101)])) _
    refine XS.dup X101.here hx rfl (hb hby at_14) rfl rfl ?_
    show Steps p.tables e below (T101.setTop (mkF m 15 #[.val (.int p1), .val (.int (irm (p1 &&& (2147483647 : Int32)) (3 : Int32))), .unset, .unset, .unset, .unset] [(.ref b101), (.ref b101)])) _
    refine XS.iconst X101.here hx rfl (hb hby at_15) ?_
    show Steps p.tables e below (T101.setTop (mkF m 16 #[.val (.int p1), .val (.int (irm (p1 &&& (2147483647 : Int32)) (3 : Int32))), .unset, .unset, .unset, .unset] [(.int (0 : Int32)), (.ref b101), (.ref b101)])) _
    refine XS.bipush X101.here hx rfl (hb hby at_16) ?_
    show Steps p.tables e below (T101.setTop (mkF m 18 #[.val (.int p1), .val (.int (irm (p1 &&& (2147483647 : Int32)) (3 : Int32))), .unset, .unset, .unset, .unset] [(.int (97 : Int32)), (.int (0 : Int32)), (.ref b101), (.ref b101)])) _
    refine st102 _ ?_
    show Steps p.tables e below (T102.setTop (mkF m 19 #[.val (.int p1), .val (.int (irm (p1 &&& (2147483647 : Int32)) (3 : Int32))), .unset, .unset, .unset, .unset] [(.ref b101)])) _
    refine XS.dup X102.here hx rfl (hb hby at_19) rfl rfl ?_
    show Steps p.tables e below (T102.setTop (mkF m 20 #[.val (.int p1), .val (.int (irm (p1 &&& (2147483647 : Int32)) (3 : Int32))), .unset, .unset, .unset, .unset] [(.ref b101), (.ref b101)])) _
    refine XS.iconst X102.here hx rfl (hb hby at_20) ?_
    show Steps p.tables e below (T102.setTop (mkF m 21 #[.val (.int p1), .val (.int (irm (p1 &&& (2147483647 : Int32)) (3 : Int32))), .unset, .unset, .unset, .unset] [(.int (1 : Int32)), (.ref b101), (.ref b101)])) _
    refine XS.bipush X102.here hx rfl (hb hby at_21) ?_
    show Steps p.tables e below (T102.setTop (mkF m 23 #[.val (.int p1), .val (.int (irm (p1 &&& (2147483647 : Int32)) (3 : Int32))), .unset, .unset, .unset, .unset] [(.int (114 : Int32)), (.int (1 : Int32)), (.ref b101), (.ref b101)])) _
    refine st103 _ ?_
    show Steps p.tables e below (T103.setTop (mkF m 24 #[.val (.int p1), .val (.int (irm (p1 &&& (2147483647 : Int32)) (3 : Int32))), .unset, .unset, .unset, .unset] [(.ref b101)])) _
    refine XS.dup X103.here hx rfl (hb hby at_24) rfl rfl ?_
    show Steps p.tables e below (T103.setTop (mkF m 25 #[.val (.int p1), .val (.int (irm (p1 &&& (2147483647 : Int32)) (3 : Int32))), .unset, .unset, .unset, .unset] [(.ref b101), (.ref b101)])) _
    refine XS.iconst X103.here hx rfl (hb hby at_25) ?_
    show Steps p.tables e below (T103.setTop (mkF m 26 #[.val (.int p1), .val (.int (irm (p1 &&& (2147483647 : Int32)) (3 : Int32))), .unset, .unset, .unset, .unset] [(.int (2 : Int32)), (.ref b101), (.ref b101)])) _
    refine XS.bipush X103.here hx rfl (hb hby at_26) ?_
    show Steps p.tables e below (T103.setTop (mkF m 28 #[.val (.int p1), .val (.int (irm (p1 &&& (2147483647 : Int32)) (3 : Int32))), .unset, .unset, .unset, .unset] [(.int (114 : Int32)), (.int (2 : Int32)), (.ref b101), (.ref b101)])) _
    refine st104 _ ?_
    show Steps p.tables e below (T104.setTop (mkF m 29 #[.val (.int p1), .val (.int (irm (p1 &&& (2147483647 : Int32)) (3 : Int32))), .unset, .unset, .unset, .unset] [(.ref b101)])) _
    refine XS.dup X104.here hx rfl (hb hby at_29) rfl rfl ?_
    show Steps p.tables e below (T104.setTop (mkF m 30 #[.val (.int p1), .val (.int (irm (p1 &&& (2147483647 : Int32)) (3 : Int32))), .unset, .unset, .unset, .unset] [(.ref b101), (.ref b101)])) _
    refine XS.iconst X104.here hx rfl (hb hby at_30) ?_
    show Steps p.tables e below (T104.setTop (mkF m 31 #[.val (.int p1), .val (.int (irm (p1 &&& (2147483647 : Int32)) (3 : Int32))), .unset, .unset, .unset, .unset] [(.int (3 : Int32)), (.ref b101), (.ref b101)])) _
    refine XS.bipush X104.here hx rfl (hb hby at_31) ?_
    show Steps p.tables e below (T104.setTop (mkF m 33 #[.val (.int p1), .val (.int (irm (p1 &&& (2147483647 : Int32)) (3 : Int32))), .unset, .unset, .unset, .unset] [(.int (97 : Int32)), (.int (3 : Int32)), (.ref b101), (.ref b101)])) _
    refine st105 _ ?_
    show Steps p.tables e below (T105.setTop (mkF m 34 #[.val (.int p1), .val (.int (irm (p1 &&& (2147483647 : Int32)) (3 : Int32))), .unset, .unset, .unset, .unset] [(.ref b101)])) _
    refine XS.dup X105.here hx rfl (hb hby at_34) rfl rfl ?_
    show Steps p.tables e below (T105.setTop (mkF m 35 #[.val (.int p1), .val (.int (irm (p1 &&& (2147483647 : Int32)) (3 : Int32))), .unset, .unset, .unset, .unset] [(.ref b101), (.ref b101)])) _
    refine XS.iconst X105.here hx rfl (hb hby at_35) ?_
    show Steps p.tables e below (T105.setTop (mkF m 36 #[.val (.int p1), .val (.int (irm (p1 &&& (2147483647 : Int32)) (3 : Int32))), .unset, .unset, .unset, .unset] [(.int (4 : Int32)), (.ref b101), (.ref b101)])) _
    refine XS.bipush X105.here hx rfl (hb hby at_36) ?_
    show Steps p.tables e below (T105.setTop (mkF m 38 #[.val (.int p1), .val (.int (irm (p1 &&& (2147483647 : Int32)) (3 : Int32))), .unset, .unset, .unset, .unset] [(.int (121 : Int32)), (.int (4 : Int32)), (.ref b101), (.ref b101)])) _
    refine st106 _ ?_
    show Steps p.tables e below (T106.setTop (mkF m 39 #[.val (.int p1), .val (.int (irm (p1 &&& (2147483647 : Int32)) (3 : Int32))), .unset, .unset, .unset, .unset] [(.ref b101)])) _
    refine XS.astoreN X106.here hx rfl (hb hby at_39) rfl rfl (l' := #[.val (.int p1), .val (.int (irm (p1 &&& (2147483647 : Int32)) (3 : Int32))), .val (.ref b101), .unset, .unset, .unset]) rfl ?_
    show Steps p.tables e below (T106.setTop (mkF m 40 #[.val (.int p1), .val (.int (irm (p1 &&& (2147483647 : Int32)) (3 : Int32))), .val (.ref b101), .unset, .unset, .unset] [])) _
    refine st107 _ ?_
    show Steps p.tables e below (T107.setTop (mkF m 43 #[.val (.int p1), .val (.int (irm (p1 &&& (2147483647 : Int32)) (3 : Int32))), .val (.ref b101), .unset, .unset, .unset] [(.ref w0)])) _
    refine XS.astoreN X107.here hx rfl (hb hby at_43) rfl rfl (l' := #[.val (.int p1), .val (.int (irm (p1 &&& (2147483647 : Int32)) (3 : Int32))), .val (.ref b101), .val (.ref w0), .unset, .unset]) rfl ?_
    show Steps p.tables e below (T107.setTop (mkF m 44 #[.val (.int p1), .val (.int (irm (p1 &&& (2147483647 : Int32)) (3 : Int32))), .val (.ref b101), .val (.ref w0), .unset, .unset] [])) _
    refine XS.goto X107.here hx rfl (pc0 := 44) (pc' := 169) rfl (hb hby at_44) (by decide) (by decide) ?_
    show Steps p.tables e below (T107.setTop (mkF m 169 #[.val (.int p1), .val (.int (irm (p1 &&& (2147483647 : Int32)) (3 : Int32))), .val (.ref b101), .val (.ref w0), .unset, .unset] [])) _
    refine st108 _ ?_
    show Steps p.tables e below (T108.setTop (mkF m 172 #[.val (.int p1), .val (.int (irm (p1 &&& (2147483647 : Int32)) (3 : Int32))), .val (.ref b101), .val (.ref w0), .unset, .unset] [(.ref b108)])) _
    refine XS.dup X108.here hx rfl (hb hby at_172) rfl rfl ?_
    show Steps p.tables e below (T108.setTop (mkF m 173 #[.val (.int p1), .val (.int (irm (p1 &&& (2147483647 : Int32)) (3 : Int32))), .val (.ref b101), .val (.ref w0), .unset, .unset] [(.ref b108), (.ref b108)])) _
    refine XS.aloadN X108.here hx rfl (hb hby at_173) rfl rfl ?_
    show Steps p.tables e below (T108.setTop (mkF m 174 #[.val (.int p1), .val (.int (irm (p1 &&& (2147483647 : Int32)) (3 : Int32))), .val (.ref b101), .val (.ref w0), .unset, .unset] [(.ref b101), (.ref b108), (.ref b108)])) _
    refine st111.trans ?_
    show Steps p.tables e below (T111.setTop (mkF m 177 #[.val (.int p1), .val (.int (irm (p1 &&& (2147483647 : Int32)) (3 : Int32))), .val (.ref b101), .val (.ref w0), .unset, .unset] [(.ref b108)])) _
    refine XS.astore X111.here hx rfl (hb hby at_177) rfl rfl (l' := #[.val (.int p1), .val (.int (irm (p1 &&& (2147483647 : Int32)) (3 : Int32))), .val (.ref b101), .val (.ref w0), .val (.ref b108), .unset]) rfl ?_
    show Steps p.tables e below (T111.setTop (mkF m 179 #[.val (.int p1), .val (.int (irm (p1 &&& (2147483647 : Int32)) (3 : Int32))), .val (.ref b101), .val (.ref w0), .val (.ref b108), .unset] [])) _
    refine XS.aload X111.here hx rfl (hb hby at_179) rfl rfl ?_
    show Steps p.tables e below (T111.setTop (mkF m 181 #[.val (.int p1), .val (.int (irm (p1 &&& (2147483647 : Int32)) (3 : Int32))), .val (.ref b101), .val (.ref w0), .val (.ref b108), .unset] [(.ref b108)])) _
    refine st112 _ ?_
    show Steps p.tables e below (T112.setTop (mkF m 184 #[.val (.int p1), .val (.int (irm (p1 &&& (2147483647 : Int32)) (3 : Int32))), .val (.ref b101), .val (.ref w0), .val (.ref b108), .unset] [(.ref w0)])) _
    refine XS.astore X112.here hx rfl (hb hby at_184) rfl rfl (l' := #[.val (.int p1), .val (.int (irm (p1 &&& (2147483647 : Int32)) (3 : Int32))), .val (.ref b101), .val (.ref w0), .val (.ref b108), .val (.ref w0)]) rfl ?_
    show Steps p.tables e below (T112.setTop (mkF m 186 #[.val (.int p1), .val (.int (irm (p1 &&& (2147483647 : Int32)) (3 : Int32))), .val (.ref b101), .val (.ref w0), .val (.ref b108), .val (.ref w0)] [])) _
    refine XS.aload X112.here hx rfl (hb hby at_186) rfl rfl ?_
    show Steps p.tables e below (T112.setTop (mkF m 188 #[.val (.int p1), .val (.int (irm (p1 &&& (2147483647 : Int32)) (3 : Int32))), .val (.ref b101), .val (.ref w0), .val (.ref b108), .val (.ref w0)] [(.ref w0)])) _
    refine XS.aloadN X112.here hx rfl (hb hby at_188) rfl rfl ?_
    show Steps p.tables e below (T112.setTop (mkF m 189 #[.val (.int p1), .val (.int (irm (p1 &&& (2147483647 : Int32)) (3 : Int32))), .val (.ref b101), .val (.ref w0), .val (.ref b108), .val (.ref w0)] [(.ref w0), (.ref w0)])) _
    refine Jvm.RoadKit.acmp (g := (mkF m 189 #[.val (.int p1), .val (.int (irm (p1 &&& (2147483647 : Int32)) (3 : Int32))), .val (.ref b101), .val (.ref w0), .val (.ref b108), .val (.ref w0)] [(.ref w0), (.ref w0)])) X112 hx rfl rfl rfl (pc0 := 189) (pc' := 192) (same := true) rfl (hb hby at_189) rfl (decide_eq_true rfl) (by decide) (by decide) ?_
    show Steps p.tables e below (T112.setTop (mkF m 192 #[.val (.int p1), .val (.int (irm (p1 &&& (2147483647 : Int32)) (3 : Int32))), .val (.ref b101), .val (.ref w0), .val (.ref b108), .val (.ref w0)] [])) _
    refine XS.aload X112.here hx rfl (hb hby at_192) rfl rfl ?_
    show Steps p.tables e below (T112.setTop (mkF m 194 #[.val (.int p1), .val (.int (irm (p1 &&& (2147483647 : Int32)) (3 : Int32))), .val (.ref b101), .val (.ref w0), .val (.ref b108), .val (.ref w0)] [(.ref w0)])) _
    refine st113 _ ?_
    show Steps p.tables e below (T113.setTop (mkF m 197 #[.val (.int p1), .val (.int (irm (p1 &&& (2147483647 : Int32)) (3 : Int32))), .val (.ref b101), .val (.ref w0), .val (.ref b108), .val (.ref w0)] [(.ref s0)])) _
    refine XS.aload X113.here hx rfl (hb hby at_197) rfl rfl ?_
    show Steps p.tables e below (T113.setTop (mkF m 199 #[.val (.int p1), .val (.int (irm (p1 &&& (2147483647 : Int32)) (3 : Int32))), .val (.ref b101), .val (.ref w0), .val (.ref b108), .val (.ref w0)] [(.ref b108), (.ref s0)])) _
    refine st118.trans ?_
    show Steps p.tables e below (T118.setTop (mkF m 202 #[.val (.int p1), .val (.int (irm (p1 &&& (2147483647 : Int32)) (3 : Int32))), .val (.ref b101), .val (.ref w0), .val (.ref b108), .val (.ref w0)] [(.int (1 : Int32))])) _
    refine XS.ifNo X118.here hx rfl (hb hby at_202) rfl ((if0 _ _).trans (feq (by decide : ¬ ((1 : Int32) = (0 : Int32)))).1) ?_
    show Steps p.tables e below (T118.setTop (mkF m 205 #[.val (.int p1), .val (.int (irm (p1 &&& (2147483647 : Int32)) (3 : Int32))), .val (.ref b101), .val (.ref w0), .val (.ref b108), .val (.ref w0)] [])) _
    refine XS.iconst X118.here hx rfl (hb hby at_205) ?_
    show Steps p.tables e below (T118.setTop (mkF m 206 #[.val (.int p1), .val (.int (irm (p1 &&& (2147483647 : Int32)) (3 : Int32))), .val (.ref b101), .val (.ref w0), .val (.ref b108), .val (.ref w0)] [(.int (1 : Int32))])) _
    refine XS.goto X118.here hx rfl (pc0 := 206) (pc' := 210) rfl (hb hby at_206) (by decide) (by decide) ?_
    show Steps p.tables e below (T118.setTop (mkF m 210 #[.val (.int p1), .val (.int (irm (p1 &&& (2147483647 : Int32)) (3 : Int32))), .val (.ref b101), .val (.ref w0), .val (.ref b108), .val (.ref w0)] [(.int (1 : Int32))])) _
    exact retN X118 hx (t := .boolean) Bd.returns (by simp) (hb hby at_210) hr
  · show Q0 h0 n0 _ T118.heap _
    rw [e118]
    exact ⟨rfl, N118⟩
set_option maxRecDepth 65536 in
set_option maxHeartbeats 40000000 in
theorem rm0_1 (l : Launch) (Z : State) (a0 : Array Value) (hw : ∀ d ∈ tables_1, d.before a0 Z = true) (ws : List Jvm.Cond) (p1 : Int32) (G1 : Int32) (kV : ClassId) (wV w0 w1 w2 : Addr) (s0 s1 s2 : Addr) (h0 : Heap) (n0 : Nat) (O0 : Old Z n0 h0) (S_CS : Sta Z Z.heap "java/lang/String" "COMPACT_STRINGS" "Z" (.int G1)) (hG1 : ¬ (G1 = (0 : Int32))) (S_V : Sta Z Z.heap "dev/tryst/tool/Workload$QueueKind" "$VALUES" "[Ldev/tryst/tool/Workload$QueueKind;" (.ref wV)) (A_V : Arv Z Z.heap wV kV (.object "dev/tryst/tool/Workload$QueueKind") (3 : Int32) [(.ref w0), (.ref w1), (.ref w2)] .null) (E_V : Exa Z Z.heap wV "[Ldev/tryst/tool/Workload$QueueKind;") (M0 : Fld Z Z.heap w0 "dev/tryst/tool/Workload$QueueKind" "mWord" "Ljava/lang/String;" (.ref s0)) (M1 : Fld Z Z.heap w1 "dev/tryst/tool/Workload$QueueKind" "mWord" "Ljava/lang/String;" (.ref s1)) (M2 : Fld Z Z.heap w2 "dev/tryst/tool/Workload$QueueKind" "mWord" "Ljava/lang/String;" (.ref s2)) (T0 : Str Z Z.heap s0 ([(97 : Int32), (114 : Int32), (114 : Int32), (97 : Int32), (121 : Int32)] : List Int32)) (T1 : Str Z Z.heap s1 ([(108 : Int32), (105 : Int32), (110 : Int32), (107 : Int32), (101 : Int32), (100 : Int32)] : List Int32)) (T2 : Str Z Z.heap s2 ([(108 : Int32), (105 : Int32), (110 : Int32), (107 : Int32), (101 : Int32), (100 : Int32), (45 : Int32), (100 : Int32), (101 : Int32), (113 : Int32), (117 : Int32), (101 : Int32)] : List Int32)) (S_K : Sta Z Z.heap "dev/tryst/tool/Workload$QueueKind" "LINKED" "Ldev/tryst/tool/Workload$QueueKind;" (.ref w1)) (k0 : ¬ ((irm (p1 &&& (2147483647 : Int32)) (3 : Int32)) = 0)) (k1 : (irm (p1 &&& (2147483647 : Int32)) (3 : Int32)) = 1) :
    MetFree l x (head1 (Jvm.Cond.code x code maxLocals ret :: ws) room_1) (fun a_ U => a_ = #[(.int p1)] ∧ Z.Warmed39 U.vm ∧ U.heap = h0) (fun _ _ _ _ _ => True) (fun _ U o U' => ∃ v L, o = .returned v ∧ Q0 h0 n0 v U'.heap L ∧ FrameEnd U o U' L room_1.cells room_1.slots) := by
  refine MetFree.of_bodySF (plainFor_of_name pn_1) hisR ?_
  intro p e s m args below meth c s₁ Bd hml0 hP hK
  obtain ⟨rfl, hZ, hh⟩ := hP
  have hx := Bd.exec
  have hby := Bd.bytes
  have hml : c.maxLocals = 6 := hml0
  have hown : s.vm.findClass "dev/tryst/tool/QueueKindOfPinLaw" = some m.cls := findClass_of_methodNamed Bd.named
  have hnm := (name_of_methodNamed Bd.named Bd.method).1
  have X0 : Stand p l e room_1 s m #[(.int p1)] below meth c s₁ [] 0 0 := Stand.of_body Bd
  have e0 : s₁.heap = h0 := by rw [← hh, Bd.state]; rfl
  have N0 := Fr.nil n0
  have pre0 : ∀ tg, Steps p.tables e below (s₁.setTop (mkF m 0 #[.val (.int p1), .unset, .unset, .unset, .unset, .unset] [])) tg → Steps p.tables e below (s₁.setTop (entryFrame m #[(.int p1)] maxLocals)) tg := fun tg kq => castTop (ef_I_6m m p1) kq
  obtain ⟨tm0, kbm0, Nm0, vsm0, sEm0, sVm0, sCm0, sKm0, scdm0, shpm0, shlm0⟩ := id T0
  obtain ⟨tm1, kbm1, Nm1, vsm1, sEm1, sVm1, sCm1, sKm1, scdm1, shpm1, shlm1⟩ := id T1
  obtain ⟨tm2, kbm2, Nm2, vsm2, sEm2, sVm2, sCm2, sKm2, scdm2, shpm2, shlm2⟩ := id T2
  obtain ⟨T101, h101, k101, X101, e101, E101, A101, st101⟩ := newP X0 hx hZ (wi hw 1 rfl) e0 (g := (mkF m 54 #[.val (.int p1), .val (.int (irm (p1 &&& (2147483647 : Int32)) (3 : Int32))), .unset, .unset, .unset, .unset] [(.int (6 : Int32))])) rfl (hb hby at_54) rfl (by decide) (cap := 6) (by decide) (by decide) (by decide) (by decide)
  obtain ⟨b101, g101⟩ : ∃ z, z = h0.size := ⟨_, rfl⟩
  rw [← g101] at A101 st101
  have g_b101 : n0 ≤ b101 := Nat.le_trans (O0.1 ▸ O0.2.1) (Nat.le_of_eq g101.symm)
  have sz_b101 : h0.size ≤ b101 := Nat.le_trans (Nat.le_refl _) (Nat.le_of_eq g101.symm)
  have O101 := O0.ext E101
  have KK101 : Keep h0 h101 [] := (Keep.refl h0 []).ext E101
  have V_b101 : Arv Z h101 b101 k101 .char (6 : Int32) [(.int (0 : Int32)), (.int (0 : Int32)), (.int (0 : Int32)), (.int (0 : Int32)), (.int (0 : Int32)), (.int (0 : Int32))] (.int (0 : Int32)) := (Arv.new A101 (by decide)).pad (pad_rep [] (.int (0 : Int32)) 6)
  obtain ⟨cl_b101_33, Ar_b101_33, q_b101_33, S_b101_33, N_b101_33, H_b101_33, G_b101_33⟩ := id (V_b101)
  have hinb101_33 : ¬ ((0 : Int32) < 0 ∨ cl_b101_33.slots.size ≤ ((0 : Int32)).toNatClampNeg) := inb_of S_b101_33 ⟨by decide, by decide⟩
  obtain ⟨T102, h102, X102, e102, W102, st102⟩ := stC X101 hx hZ e101 Ar_b101_33 (j := (0 : Int32)) hinb101_33 (g := (mkF m 60 #[.val (.int p1), .val (.int (irm (p1 &&& (2147483647 : Int32)) (3 : Int32))), .unset, .unset, .unset, .unset] [(.int (108 : Int32)), (.int (0 : Int32)), (.ref b101), (.ref b101)])) rfl rfl (hb hby at_60)
  have V_b101_102 : Arv Z h102 b101 k101 .char (6 : Int32) [(.int (108 : Int32)), (.int (0 : Int32)), (.int (0 : Int32)), (.int (0 : Int32)), (.int (0 : Int32)), (.int (0 : Int32))] (.int (0 : Int32)) := Arv.set Ar_b101_33 q_b101_33 S_b101_33 N_b101_33 H_b101_33 G_b101_33 (fits_nar_char _) W102 0 rfl (Nat.le_of_ble_eq_true rfl)
  have O102 := O101.wr W102 g_b101
  have KK102 : Keep h0 h102 [] := KK101.wr W102 (Or.inr sz_b101)
  have N102 := Fr.snoc X102 N0 g_b101
  obtain ⟨cl_b101_41, Ar_b101_41, q_b101_41, S_b101_41, N_b101_41, H_b101_41, G_b101_41⟩ := id (V_b101_102)
  have hinb101_41 : ¬ ((1 : Int32) < 0 ∨ cl_b101_41.slots.size ≤ ((1 : Int32)).toNatClampNeg) := inb_of S_b101_41 ⟨by decide, by decide⟩
  obtain ⟨T103, h103, X103, e103, W103, st103⟩ := stC X102 hx hZ e102 Ar_b101_41 (j := (1 : Int32)) hinb101_41 (g := (mkF m 65 #[.val (.int p1), .val (.int (irm (p1 &&& (2147483647 : Int32)) (3 : Int32))), .unset, .unset, .unset, .unset] [(.int (105 : Int32)), (.int (1 : Int32)), (.ref b101), (.ref b101)])) rfl rfl (hb hby at_65)
  have V_b101_103 : Arv Z h103 b101 k101 .char (6 : Int32) [(.int (108 : Int32)), (.int (105 : Int32)), (.int (0 : Int32)), (.int (0 : Int32)), (.int (0 : Int32)), (.int (0 : Int32))] (.int (0 : Int32)) := Arv.set Ar_b101_41 q_b101_41 S_b101_41 N_b101_41 H_b101_41 G_b101_41 (fits_nar_char _) W103 1 rfl (Nat.le_of_ble_eq_true rfl)
  have O103 := O102.wr W103 g_b101
  have KK103 : Keep h0 h103 [] := KK102.wr W103 (Or.inr sz_b101)
  have N103 := Fr.snoc X103 N102 g_b101
  obtain ⟨cl_b101_49, Ar_b101_49, q_b101_49, S_b101_49, N_b101_49, H_b101_49, G_b101_49⟩ := id (V_b101_103)
  have hinb101_49 : ¬ ((2 : Int32) < 0 ∨ cl_b101_49.slots.size ≤ ((2 : Int32)).toNatClampNeg) := inb_of S_b101_49 ⟨by decide, by decide⟩
  obtain ⟨T104, h104, X104, e104, W104, st104⟩ := stC X103 hx hZ e103 Ar_b101_49 (j := (2 : Int32)) hinb101_49 (g := (mkF m 70 #[.val (.int p1), .val (.int (irm (p1 &&& (2147483647 : Int32)) (3 : Int32))), .unset, .unset, .unset, .unset] [(.int (110 : Int32)), (.int (2 : Int32)), (.ref b101), (.ref b101)])) rfl rfl (hb hby at_70)
  have V_b101_104 : Arv Z h104 b101 k101 .char (6 : Int32) [(.int (108 : Int32)), (.int (105 : Int32)), (.int (110 : Int32)), (.int (0 : Int32)), (.int (0 : Int32)), (.int (0 : Int32))] (.int (0 : Int32)) := Arv.set Ar_b101_49 q_b101_49 S_b101_49 N_b101_49 H_b101_49 G_b101_49 (fits_nar_char _) W104 2 rfl (Nat.le_of_ble_eq_true rfl)
  have O104 := O103.wr W104 g_b101
  have KK104 : Keep h0 h104 [] := KK103.wr W104 (Or.inr sz_b101)
  have N104 := Fr.snoc X104 N103 g_b101
  obtain ⟨cl_b101_57, Ar_b101_57, q_b101_57, S_b101_57, N_b101_57, H_b101_57, G_b101_57⟩ := id (V_b101_104)
  have hinb101_57 : ¬ ((3 : Int32) < 0 ∨ cl_b101_57.slots.size ≤ ((3 : Int32)).toNatClampNeg) := inb_of S_b101_57 ⟨by decide, by decide⟩
  obtain ⟨T105, h105, X105, e105, W105, st105⟩ := stC X104 hx hZ e104 Ar_b101_57 (j := (3 : Int32)) hinb101_57 (g := (mkF m 75 #[.val (.int p1), .val (.int (irm (p1 &&& (2147483647 : Int32)) (3 : Int32))), .unset, .unset, .unset, .unset] [(.int (107 : Int32)), (.int (3 : Int32)), (.ref b101), (.ref b101)])) rfl rfl (hb hby at_75)
  have V_b101_105 : Arv Z h105 b101 k101 .char (6 : Int32) [(.int (108 : Int32)), (.int (105 : Int32)), (.int (110 : Int32)), (.int (107 : Int32)), (.int (0 : Int32)), (.int (0 : Int32))] (.int (0 : Int32)) := Arv.set Ar_b101_57 q_b101_57 S_b101_57 N_b101_57 H_b101_57 G_b101_57 (fits_nar_char _) W105 3 rfl (Nat.le_of_ble_eq_true rfl)
  have O105 := O104.wr W105 g_b101
  have KK105 : Keep h0 h105 [] := KK104.wr W105 (Or.inr sz_b101)
  have N105 := Fr.snoc X105 N104 g_b101
  obtain ⟨cl_b101_65, Ar_b101_65, q_b101_65, S_b101_65, N_b101_65, H_b101_65, G_b101_65⟩ := id (V_b101_105)
  have hinb101_65 : ¬ ((4 : Int32) < 0 ∨ cl_b101_65.slots.size ≤ ((4 : Int32)).toNatClampNeg) := inb_of S_b101_65 ⟨by decide, by decide⟩
  obtain ⟨T106, h106, X106, e106, W106, st106⟩ := stC X105 hx hZ e105 Ar_b101_65 (j := (4 : Int32)) hinb101_65 (g := (mkF m 80 #[.val (.int p1), .val (.int (irm (p1 &&& (2147483647 : Int32)) (3 : Int32))), .unset, .unset, .unset, .unset] [(.int (101 : Int32)), (.int (4 : Int32)), (.ref b101), (.ref b101)])) rfl rfl (hb hby at_80)
  have V_b101_106 : Arv Z h106 b101 k101 .char (6 : Int32) [(.int (108 : Int32)), (.int (105 : Int32)), (.int (110 : Int32)), (.int (107 : Int32)), (.int (101 : Int32)), (.int (0 : Int32))] (.int (0 : Int32)) := Arv.set Ar_b101_65 q_b101_65 S_b101_65 N_b101_65 H_b101_65 G_b101_65 (fits_nar_char _) W106 4 rfl (Nat.le_of_ble_eq_true rfl)
  have O106 := O105.wr W106 g_b101
  have KK106 : Keep h0 h106 [] := KK105.wr W106 (Or.inr sz_b101)
  have N106 := Fr.snoc X106 N105 g_b101
  obtain ⟨cl_b101_73, Ar_b101_73, q_b101_73, S_b101_73, N_b101_73, H_b101_73, G_b101_73⟩ := id (V_b101_106)
  have hinb101_73 : ¬ ((5 : Int32) < 0 ∨ cl_b101_73.slots.size ≤ ((5 : Int32)).toNatClampNeg) := inb_of S_b101_73 ⟨by decide, by decide⟩
  obtain ⟨T107, h107, X107, e107, W107, st107⟩ := stC X106 hx hZ e106 Ar_b101_73 (j := (5 : Int32)) hinb101_73 (g := (mkF m 85 #[.val (.int p1), .val (.int (irm (p1 &&& (2147483647 : Int32)) (3 : Int32))), .unset, .unset, .unset, .unset] [(.int (100 : Int32)), (.int (5 : Int32)), (.ref b101), (.ref b101)])) rfl rfl (hb hby at_85)
  have V_b101_107 : Arv Z h107 b101 k101 .char (6 : Int32) [(.int (108 : Int32)), (.int (105 : Int32)), (.int (110 : Int32)), (.int (107 : Int32)), (.int (101 : Int32)), (.int (100 : Int32))] (.int (0 : Int32)) := Arv.set Ar_b101_73 q_b101_73 S_b101_73 N_b101_73 H_b101_73 G_b101_73 (fits_nar_char _) W107 5 rfl (Nat.le_of_ble_eq_true rfl)
  have O107 := O106.wr W107 g_b101
  have KK107 : Keep h0 h107 [] := KK106.wr W107 (Or.inr sz_b101)
  have N107 := Fr.snoc X107 N106 g_b101
  obtain ⟨T108, X108, e108, st108⟩ := getS2 X107 hx hZ hown (host := "") (Or.inl (wi hw 69 rfl)) Via.refl e107 (S_K.ext O107.2) (g := (mkF m 87 #[.val (.int p1), .val (.int (irm (p1 &&& (2147483647 : Int32)) (3 : Int32))), .val (.ref b101), .unset, .unset, .unset] [])) rfl (hb hby at_87)
  obtain ⟨T109, h109, X109, e109, E109, A109, D109, -, st109⟩ := newO X108 hx hZ hown (wi hw 5 rfl) (wi hw 6 rfl) (wi hw 7 rfl) e108 (g := (mkF m 169 #[.val (.int p1), .val (.int (irm (p1 &&& (2147483647 : Int32)) (3 : Int32))), .val (.ref b101), .val (.ref w1), .unset, .unset] [])) rfl (hb hby at_169) (by decide) (by decide)
  obtain ⟨b109, g109⟩ : ∃ z, z = h107.size := ⟨_, rfl⟩
  rw [← g109] at A109 D109 st109
  have g_b109 : n0 ≤ b109 := Nat.le_trans (O107.1 ▸ O107.2.1) (Nat.le_of_eq g109.symm)
  have sz_b109 : h0.size ≤ b109 := Nat.le_trans KK107.1 (Nat.le_of_eq g109.symm)
  have O109 := O107.ext E109
  have KK109 : Keep h0 h109 [] := KK107.ext E109
  have F_coder_b109 : Fld Z h109 b109 "java/lang/String" "coder" "B" (.int (0 : Int32)) := D109 (Or.inr (wi hw 31 rfl)) (ty := .byte) (by decide)
  have F_value_b109 : Fld Z h109 b109 "java/lang/String" "value" "[B" .null := D109 (Or.inr (wi hw 33 rfl)) (ty := (.array .byte)) (by decide)
  have fV_b101_8_110 := (V_b101_107.ext E109)
  have shp111 : ∀ c ∈ ([(108 : Int32), (105 : Int32), (110 : Int32), (107 : Int32), (101 : Int32), (100 : Int32)] : List Int32), ¬ c < 0 ∧ ¬ (255 : Int32) < c := by decide
  have sA111 : Arv Z h109 b101 k101 .char (6 : Int32) (([(108 : Int32), (105 : Int32), (110 : Int32), (107 : Int32), (101 : Int32), (100 : Int32)] : List Int32).map Value.int) (.int (0 : Int32)) := fV_b101_8_110
  obtain ⟨_, _, ⟨T112, L112, k112, n112⟩, -, X112, ⟨Lc112, hQ112, l112, y112, z112⟩, st112⟩ := X109.specialBack hx (y := (⟨"java/lang/String", "<init>", "([C)V"⟩ : MethodName)) rfl hown (mvT hZ (wi hw 8 rfl)) (mvT hZ (wi hw 9 rfl)) (mvT hZ (wi hw 10 rfl)) (by decide) (StrChars.Road.backV (W := 1) hZ (fun d hd => hw d (own_w_backV d hd)) (kI := 4) (wi hw 6 rfl) (cs := ([(108 : Int32), (105 : Int32), (110 : Int32), (107 : Int32), (101 : Int32), (100 : Int32)] : List Int32)) (bs := ([(108 : Int32), (105 : Int32), (110 : Int32), (107 : Int32), (101 : Int32), (100 : Int32)] : List Int32).map (fun c => c.toInt8.toInt32)) (n := 6) g_b109 (O109.1 ▸ O109.2.1) A109 F_value_b109 F_coder_b109 sA111 (S_CS.ext O109.2) hG1 rfl rfl (by decide) (by decide) shp111 rfl (by decide) (by decide)) (g := (mkF m 174 #[.val (.int p1), .val (.int (irm (p1 &&& (2147483647 : Int32)) (3 : Int32))), .val (.ref b101), .val (.ref w1), .unset, .unset] [(.ref b101), (.ref b109), (.ref b109)])) rfl (by rw [hml]; rfl) (Steps.refl _) (a := b109) (argsL := [(.ref b101)]) (rest := [(.ref b109)]) (lenOf pd_2 rfl) rfl (by show 2 * 0 + _ ≤ _; exact Nat.le_of_eq rfl) (hb hby at_174) (fun _ _ => ⟨rfl, e109, (by decide : 2 + 1 ≤ _), (by decide : 10 + 6 ≤ _)⟩)
  dsimp only [Pt.U, Pt.locs, Pt.cells, Pt.slots] at X112 l112 y112 z112 st112 hQ112
  subst l112 y112 z112
  obtain ⟨rfl, N112q, K112, sE111, sC111, t111, kb111, sg111, ssz111, sne111, sV111, sK111⟩ := hQ112
  obtain ⟨h112, e112⟩ : ∃ z, T112.heap = z := ⟨_, rfl⟩
  rw [e112] at K112 sE111 sC111 sV111 sK111
  have g_t111 : n0 ≤ t111 := Nat.le_trans (O109.1 ▸ O109.2.1) ssz111
  have sz_t111 : h0.size ≤ t111 := Nat.le_trans KK109.1 ssz111
  have O112 := O109.keep K112 (allS g_b109 all0)
  have KK112 : Keep h0 h112 [] := KK109.trans K112 (allS (Or.inr sz_b109) all0)
  have N112 := Fr.app N107 N112q
  have scd111 : StrChars.Road.CodA ([(108 : Int32), (105 : Int32), (110 : Int32), (107 : Int32), (101 : Int32), (100 : Int32)] : List Int32) 0 (6 : Int32) ((([(108 : Int32), (105 : Int32), (110 : Int32), (107 : Int32), (101 : Int32), (100 : Int32)] : List Int32).map (fun c => c.toInt8.toInt32)).map Value.int) := StrChars.Road.codOf (n := 6) rfl (fun c hc => (shp111 c hc).2)
  obtain ⟨_, _, ⟨T113, L113, k113, n113⟩, -, X113, ⟨Lc113, hQ113, l113, y113, z113⟩, st113⟩ := Jvm.LawKit.callS X112 hx (y := (⟨"dev/tryst/tool/Workload$QueueKind", "of", "(Ljava/lang/String;)Ldev/tryst/tool/Workload$QueueKind;"⟩ : MethodName)) hown (mvT hZ (wi hw 34 rfl)) (mvT hZ (wi hw 35 rfl)) (mvT hZ (wi hw 3 rfl)) (mvT hZ (wi hw 36 rfl)) (by decide) (backOf (W := 0) (rm7_1 l Z a0 hw [] G1 kV wV w0 w1 w2 s0 s1 s2 b109 h112 n0 O112 S_CS hG1 S_V A_V E_V M0 M1 M2 T0 T1 T2 ⟨_, _, _, _, sE111, sV111, sC111, sK111, scd111, shp111, (Nat.le_of_ble_eq_true rfl)⟩) hZ (wi hw 36 rfl) (wi hw 3 rfl) (by decide) (by decide)) (g := (mkF m 181 #[.val (.int p1), .val (.int (irm (p1 &&& (2147483647 : Int32)) (3 : Int32))), .val (.ref b101), .val (.ref w1), .val (.ref b109), .unset] [(.ref b109)])) rfl (by rw [hml]; rfl) (argsL := [(.ref b109)]) (rest := []) (lenOf pd_3 rfl) rfl (by show 2 * 0 + _ ≤ _; exact Nat.le_of_eq rfl) (hb hby at_181) (fun _ _ => ⟨rfl, e112, (by decide : 3 + 1 ≤ _), (by decide : 16 + 3 ≤ _)⟩)
  dsimp only [Pt.U, Pt.locs, Pt.cells, Pt.slots] at X113 l113 y113 z113 st113 hQ113
  subst l113 y113 z113
  obtain ⟨rfl, N113q, K113⟩ := hQ113
  obtain ⟨h113, e113⟩ : ∃ z, T113.heap = z := ⟨_, rfl⟩
  rw [e113] at K113
  have O113 := O112.keep K113 all0
  have KK113 : Keep h0 h113 [] := KK112.trans K113 all0
  have N113 := Fr.app N112 N113q
  obtain ⟨T114, X114, e114, st114⟩ := getF X113 hx hZ hown (host := "") (Or.inl (wi hw 66 rfl)) Via.refl e113 (M1.ext O113.2) (g := (mkF m 194 #[.val (.int p1), .val (.int (irm (p1 &&& (2147483647 : Int32)) (3 : Int32))), .val (.ref b101), .val (.ref w1), .val (.ref b109), .val (.ref w1)] [(.ref w1)])) rfl rfl (hb hby at_194)
  have fE_b109_10_115 := (sE111.keep K113)
  have fString_value_10_116 := (sV111.keep K113 nin0)
  have fString_coder_10_117 := (sC111.keep K113 nin0)
  have fV_t111_10_118 := (sK111.keep K113 nin0)
  obtain ⟨cq119, kq119, q119a, q119b, q119c⟩ := isOf hZ e114 (sEm1.ext O113.2)
  obtain ⟨_, _, ⟨T119, L119, k119, n119⟩, -, X119, ⟨Lc119, hQ119, l119, y119, z119⟩, st119⟩ := X114.virtualBack hx (y := (⟨"java/lang/String", "equals", "(Ljava/lang/Object;)Z"⟩ : MethodName)) (z := (⟨"java/lang/String", "equals", "(Ljava/lang/Object;)Z"⟩ : MethodName)) hown (mvT hZ (wi hw 67 rfl)) (mvT hZ (wi hw 57 rfl)) (notFace_of_selects (args := #[]) (mvT hZ (wi hw 59 rfl))) (mvT hZ (wi hw 59 rfl)) (mvT hZ (wi hw 58 rfl)) (by decide) (StrChars.Road.eqW (W := 0) hZ (fun d hd => hw d (own_w_eqW d hd)) (kI := 4) (wi hw 6 rfl) (sEm1.ext O113.2) (sVm1.ext O113.2) (sCm1.ext O113.2) (sKm1.ext O113.2) scdm1 (own_up _ shpm1) shlm1 fE_b109_10_115 fString_value_10_116 fString_coder_10_117 fV_t111_10_118 scd111 (own_up _ shp111) (Nat.le_of_ble_eq_true rfl) (S_CS.ext O113.2) hG1 (by decide) (by decide)) q119a q119c (g := (mkF m 199 #[.val (.int p1), .val (.int (irm (p1 &&& (2147483647 : Int32)) (3 : Int32))), .val (.ref b101), .val (.ref w1), .val (.ref b109), .val (.ref w1)] [(.ref b109), (.ref s1)])) rfl (by rw [hml]; rfl) (Steps.refl _) (argsL := [(.ref b109)]) (rest := []) (lenOf pd_1 rfl) rfl (by show 2 * 0 + _ ≤ _; exact Nat.le_of_eq rfl) (hb hby at_199) (fun _ _ => ⟨rfl, e114, (by decide : 4 + 0 ≤ _), (by decide : 19 + 0 ≤ _)⟩)
  dsimp only [Pt.U, Pt.locs, Pt.cells, Pt.slots] at X119 l119 y119 z119 st119 hQ119
  subst l119 y119 z119
  obtain ⟨hv119, rfl, hh119⟩ := hQ119
  obtain rfl := (hv119.resolve_right (fun q => q.2 ((by decide) : ([(108 : Int32), (105 : Int32), (110 : Int32), (107 : Int32), (101 : Int32), (100 : Int32)] : List Int32) = ([(108 : Int32), (105 : Int32), (110 : Int32), (107 : Int32), (101 : Int32), (100 : Int32)] : List Int32)))).1
  have N119q : Fr n0 ([] : List Loc) := Fr.nil n0
  have e119 : T119.heap = h113 := hh119
  have N119 := Fr.app N113 N119q
  obtain ⟨fs, hr, hrun, hended, hW, hsame⟩ := X119.leave (v := some (.int (1 : Int32))) (fun h => by rw [Bd.returns] at h; cases h)
  refine ⟨_, _, pre0 _ ?_, hrun, hended, _, _, rfl, ?_, ⟨_, rfl⟩, hW, hsame.mono (by decide) (by decide)⟩
  · show Steps p.tables e below (s₁.setTop (mkF m 0 #[.val (.int p1), .unset, .unset, .unset, .unset, .unset] [])) _
    refine XS.iloadN X0.here hx rfl (hb hby at_0) rfl ?_
    show Steps p.tables e below (s₁.setTop (mkF m 1 #[.val (.int p1), .unset, .unset, .unset, .unset, .unset] [(.int p1)])) _
    refine X0.ldcInt hx hown (mvT hZ (wi hw 0 rfl)) (g := (mkF m 1 #[.val (.int p1), .unset, .unset, .unset, .unset, .unset] [(.int p1)])) rfl (hb hby at_1) _ ?_
    show Steps p.tables e below (s₁.setTop (mkF m 3 #[.val (.int p1), .unset, .unset, .unset, .unset, .unset] [(.int (2147483647 : Int32)), (.int p1)])) _
    refine XS.iand X0.here hx rfl (hb hby at_3) rfl ?_
    show Steps p.tables e below (s₁.setTop (mkF m 4 #[.val (.int p1), .unset, .unset, .unset, .unset, .unset] [(.int (p1 &&& (2147483647 : Int32)))])) _
    refine XS.iconst X0.here hx rfl (hb hby at_4) ?_
    show Steps p.tables e below (s₁.setTop (mkF m 5 #[.val (.int p1), .unset, .unset, .unset, .unset, .unset] [(.int (3 : Int32)), (.int (p1 &&& (2147483647 : Int32)))])) _
    refine XS.irem X0.here hx rfl (hb hby at_5) rfl (by decide) ?_
    show Steps p.tables e below (s₁.setTop (mkF m 6 #[.val (.int p1), .unset, .unset, .unset, .unset, .unset] [(.int (irm (p1 &&& (2147483647 : Int32)) (3 : Int32)))])) _
    refine XS.istoreN X0.here hx rfl (hb hby at_6) rfl (l' := #[.val (.int p1), .val (.int (irm (p1 &&& (2147483647 : Int32)) (3 : Int32))), .unset, .unset, .unset, .unset]) rfl ?_
    show Steps p.tables e below (s₁.setTop (mkF m 7 #[.val (.int p1), .val (.int (irm (p1 &&& (2147483647 : Int32)) (3 : Int32))), .unset, .unset, .unset, .unset] [])) _
    refine XS.iloadN X0.here hx rfl (hb hby at_7) rfl ?_
    show Steps p.tables e below (s₁.setTop (mkF m 8 #[.val (.int p1), .val (.int (irm (p1 &&& (2147483647 : Int32)) (3 : Int32))), .unset, .unset, .unset, .unset] [(.int (irm (p1 &&& (2147483647 : Int32)) (3 : Int32)))])) _
    refine XS.ifYes X0.here hx rfl (pc0 := 8) (pc' := 47) rfl (hb hby at_8) rfl ((if0 _ _).trans (feq k0).2) (by decide) (by decide) ?_
    show Steps p.tables e below (s₁.setTop (mkF m 47 #[.val (.int p1), .val (.int (irm (p1 &&& (2147483647 : Int32)) (3 : Int32))), .unset, .unset, .unset, .unset] [])) _
    refine XS.iloadN X0.here hx rfl (hb hby at_47) rfl ?_
    show Steps p.tables e below (s₁.setTop (mkF m 48 #[.val (.int p1), .val (.int (irm (p1 &&& (2147483647 : Int32)) (3 : Int32))), .unset, .unset, .unset, .unset] [(.int (irm (p1 &&& (2147483647 : Int32)) (3 : Int32)))])) _
    refine XS.iconst X0.here hx rfl (hb hby at_48) ?_
    show Steps p.tables e below (s₁.setTop (mkF m 49 #[.val (.int p1), .val (.int (irm (p1 &&& (2147483647 : Int32)) (3 : Int32))), .unset, .unset, .unset, .unset] [(.int (1 : Int32)), (.int (irm (p1 &&& (2147483647 : Int32)) (3 : Int32)))])) _
    refine XS.icmpNo X0.here hx rfl (hb hby at_49) rfl (teq k1).2 ?_
    show Steps p.tables e below (s₁.setTop (mkF m 52 #[.val (.int p1), .val (.int (irm (p1 &&& (2147483647 : Int32)) (3 : Int32))), .unset, .unset, .unset, .unset] [])) _
    refine XS.bipush X0.here hx rfl (hb hby at_52) ?_
    show Steps p.tables e below (s₁.setTop (mkF m 54 #[.val (.int p1), .val (.int (irm (p1 &&& (2147483647 : Int32)) (3 : Int32))), .unset, .unset, .unset, .unset] [(.int (6 : Int32))])) _
    refine st101 _ ?_
    show Steps p.tables e below (T101.setTop (mkF m 56 #[.val (.int p1), .val (.int (irm (p1 &&& (2147483647 : Int32)) (3 : Int32))), .unset, .unset, .unset, .unset] [(.ref b101)])) _
    refine XS.dup X101.here hx rfl (hb hby at_56) rfl rfl ?_
    show Steps p.tables e below (T101.setTop (mkF m 57 #[.val (.int p1), .val (.int (irm (p1 &&& (2147483647 : Int32)) (3 : Int32))), .unset, .unset, .unset, .unset] [(.ref b101), (.ref b101)])) _
    refine XS.iconst X101.here hx rfl (hb hby at_57) ?_
    show Steps p.tables e below (T101.setTop (mkF m 58 #[.val (.int p1), .val (.int (irm (p1 &&& (2147483647 : Int32)) (3 : Int32))), .unset, .unset, .unset, .unset] [(.int (0 : Int32)), (.ref b101), (.ref b101)])) _
    refine XS.bipush X101.here hx rfl (hb hby at_58) ?_
    show Steps p.tables e below (T101.setTop (mkF m 60 #[.val (.int p1), .val (.int (irm (p1 &&& (2147483647 : Int32)) (3 : Int32))), .unset, .unset, .unset, .unset] [(.int (108 : Int32)), (.int (0 : Int32)), (.ref b101), (.ref b101)])) _
    refine st102 _ ?_
    show Steps p.tables e below (T102.setTop (mkF m 61 #[.val (.int p1), .val (.int (irm (p1 &&& (2147483647 : Int32)) (3 : Int32))), .unset, .unset, .unset, .unset] [(.ref b101)])) _
    refine XS.dup X102.here hx rfl (hb hby at_61) rfl rfl ?_
    show Steps p.tables e below (T102.setTop (mkF m 62 #[.val (.int p1), .val (.int (irm (p1 &&& (2147483647 : Int32)) (3 : Int32))), .unset, .unset, .unset, .unset] [(.ref b101), (.ref b101)])) _
    refine XS.iconst X102.here hx rfl (hb hby at_62) ?_
    show Steps p.tables e below (T102.setTop (mkF m 63 #[.val (.int p1), .val (.int (irm (p1 &&& (2147483647 : Int32)) (3 : Int32))), .unset, .unset, .unset, .unset] [(.int (1 : Int32)), (.ref b101), (.ref b101)])) _
    refine XS.bipush X102.here hx rfl (hb hby at_63) ?_
    show Steps p.tables e below (T102.setTop (mkF m 65 #[.val (.int p1), .val (.int (irm (p1 &&& (2147483647 : Int32)) (3 : Int32))), .unset, .unset, .unset, .unset] [(.int (105 : Int32)), (.int (1 : Int32)), (.ref b101), (.ref b101)])) _
    refine st103 _ ?_
    show Steps p.tables e below (T103.setTop (mkF m 66 #[.val (.int p1), .val (.int (irm (p1 &&& (2147483647 : Int32)) (3 : Int32))), .unset, .unset, .unset, .unset] [(.ref b101)])) _
    refine XS.dup X103.here hx rfl (hb hby at_66) rfl rfl ?_
    show Steps p.tables e below (T103.setTop (mkF m 67 #[.val (.int p1), .val (.int (irm (p1 &&& (2147483647 : Int32)) (3 : Int32))), .unset, .unset, .unset, .unset] [(.ref b101), (.ref b101)])) _
    refine XS.iconst X103.here hx rfl (hb hby at_67) ?_
    show Steps p.tables e below (T103.setTop (mkF m 68 #[.val (.int p1), .val (.int (irm (p1 &&& (2147483647 : Int32)) (3 : Int32))), .unset, .unset, .unset, .unset] [(.int (2 : Int32)), (.ref b101), (.ref b101)])) _
    refine XS.bipush X103.here hx rfl (hb hby at_68) ?_
    show Steps p.tables e below (T103.setTop (mkF m 70 #[.val (.int p1), .val (.int (irm (p1 &&& (2147483647 : Int32)) (3 : Int32))), .unset, .unset, .unset, .unset] [(.int (110 : Int32)), (.int (2 : Int32)), (.ref b101), (.ref b101)])) _
    refine st104 _ ?_
    show Steps p.tables e below (T104.setTop (mkF m 71 #[.val (.int p1), .val (.int (irm (p1 &&& (2147483647 : Int32)) (3 : Int32))), .unset, .unset, .unset, .unset] [(.ref b101)])) _
    refine XS.dup X104.here hx rfl (hb hby at_71) rfl rfl ?_
    show Steps p.tables e below (T104.setTop (mkF m 72 #[.val (.int p1), .val (.int (irm (p1 &&& (2147483647 : Int32)) (3 : Int32))), .unset, .unset, .unset, .unset] [(.ref b101), (.ref b101)])) _
    refine XS.iconst X104.here hx rfl (hb hby at_72) ?_
    show Steps p.tables e below (T104.setTop (mkF m 73 #[.val (.int p1), .val (.int (irm (p1 &&& (2147483647 : Int32)) (3 : Int32))), .unset, .unset, .unset, .unset] [(.int (3 : Int32)), (.ref b101), (.ref b101)])) _
    refine XS.bipush X104.here hx rfl (hb hby at_73) ?_
    show Steps p.tables e below (T104.setTop (mkF m 75 #[.val (.int p1), .val (.int (irm (p1 &&& (2147483647 : Int32)) (3 : Int32))), .unset, .unset, .unset, .unset] [(.int (107 : Int32)), (.int (3 : Int32)), (.ref b101), (.ref b101)])) _
    refine st105 _ ?_
    show Steps p.tables e below (T105.setTop (mkF m 76 #[.val (.int p1), .val (.int (irm (p1 &&& (2147483647 : Int32)) (3 : Int32))), .unset, .unset, .unset, .unset] [(.ref b101)])) _
    refine XS.dup X105.here hx rfl (hb hby at_76) rfl rfl ?_
    show Steps p.tables e below (T105.setTop (mkF m 77 #[.val (.int p1), .val (.int (irm (p1 &&& (2147483647 : Int32)) (3 : Int32))), .unset, .unset, .unset, .unset] [(.ref b101), (.ref b101)])) _
    refine XS.iconst X105.here hx rfl (hb hby at_77) ?_
    show Steps p.tables e below (T105.setTop (mkF m 78 #[.val (.int p1), .val (.int (irm (p1 &&& (2147483647 : Int32)) (3 : Int32))), .unset, .unset, .unset, .unset] [(.int (4 : Int32)), (.ref b101), (.ref b101)])) _
    refine XS.bipush X105.here hx rfl (hb hby at_78) ?_
    show Steps p.tables e below (T105.setTop (mkF m 80 #[.val (.int p1), .val (.int (irm (p1 &&& (2147483647 : Int32)) (3 : Int32))), .unset, .unset, .unset, .unset] [(.int (101 : Int32)), (.int (4 : Int32)), (.ref b101), (.ref b101)])) _
    refine st106 _ ?_
    show Steps p.tables e below (T106.setTop (mkF m 81 #[.val (.int p1), .val (.int (irm (p1 &&& (2147483647 : Int32)) (3 : Int32))), .unset, .unset, .unset, .unset] [(.ref b101)])) _
    refine XS.dup X106.here hx rfl (hb hby at_81) rfl rfl ?_
    show Steps p.tables e below (T106.setTop (mkF m 82 #[.val (.int p1), .val (.int (irm (p1 &&& (2147483647 : Int32)) (3 : Int32))), .unset, .unset, .unset, .unset] [(.ref b101), (.ref b101)])) _
    refine XS.iconst X106.here hx rfl (hb hby at_82) ?_
    show Steps p.tables e below (T106.setTop (mkF m 83 #[.val (.int p1), .val (.int (irm (p1 &&& (2147483647 : Int32)) (3 : Int32))), .unset, .unset, .unset, .unset] [(.int (5 : Int32)), (.ref b101), (.ref b101)])) _
    refine XS.bipush X106.here hx rfl (hb hby at_83) ?_
    show Steps p.tables e below (T106.setTop (mkF m 85 #[.val (.int p1), .val (.int (irm (p1 &&& (2147483647 : Int32)) (3 : Int32))), .unset, .unset, .unset, .unset] [(.int (100 : Int32)), (.int (5 : Int32)), (.ref b101), (.ref b101)])) _
    refine st107 _ ?_
    show Steps p.tables e below (T107.setTop (mkF m 86 #[.val (.int p1), .val (.int (irm (p1 &&& (2147483647 : Int32)) (3 : Int32))), .unset, .unset, .unset, .unset] [(.ref b101)])) _
    refine XS.astoreN X107.here hx rfl (hb hby at_86) rfl rfl (l' := #[.val (.int p1), .val (.int (irm (p1 &&& (2147483647 : Int32)) (3 : Int32))), .val (.ref b101), .unset, .unset, .unset]) rfl ?_
    show Steps p.tables e below (T107.setTop (mkF m 87 #[.val (.int p1), .val (.int (irm (p1 &&& (2147483647 : Int32)) (3 : Int32))), .val (.ref b101), .unset, .unset, .unset] [])) _
    refine st108 _ ?_
    show Steps p.tables e below (T108.setTop (mkF m 90 #[.val (.int p1), .val (.int (irm (p1 &&& (2147483647 : Int32)) (3 : Int32))), .val (.ref b101), .unset, .unset, .unset] [(.ref w1)])) _
    refine XS.astoreN X108.here hx rfl (hb hby at_90) rfl rfl (l' := #[.val (.int p1), .val (.int (irm (p1 &&& (2147483647 : Int32)) (3 : Int32))), .val (.ref b101), .val (.ref w1), .unset, .unset]) rfl ?_
    show Steps p.tables e below (T108.setTop (mkF m 91 #[.val (.int p1), .val (.int (irm (p1 &&& (2147483647 : Int32)) (3 : Int32))), .val (.ref b101), .val (.ref w1), .unset, .unset] [])) _
    refine XS.goto X108.here hx rfl (pc0 := 91) (pc' := 169) rfl (hb hby at_91) (by decide) (by decide) ?_
    show Steps p.tables e below (T108.setTop (mkF m 169 #[.val (.int p1), .val (.int (irm (p1 &&& (2147483647 : Int32)) (3 : Int32))), .val (.ref b101), .val (.ref w1), .unset, .unset] [])) _
    refine st109 _ ?_
    show Steps p.tables e below (T109.setTop (mkF m 172 #[.val (.int p1), .val (.int (irm (p1 &&& (2147483647 : Int32)) (3 : Int32))), .val (.ref b101), .val (.ref w1), .unset, .unset] [(.ref b109)])) _
    refine XS.dup X109.here hx rfl (hb hby at_172) rfl rfl ?_
    show Steps p.tables e below (T109.setTop (mkF m 173 #[.val (.int p1), .val (.int (irm (p1 &&& (2147483647 : Int32)) (3 : Int32))), .val (.ref b101), .val (.ref w1), .unset, .unset] [(.ref b109), (.ref b109)])) _
    refine XS.aloadN X109.here hx rfl (hb hby at_173) rfl rfl ?_
    show Steps p.tables e below (T109.setTop (mkF m 174 #[.val (.int p1), .val (.int (irm (p1 &&& (2147483647 : Int32)) (3 : Int32))), .val (.ref b101), .val (.ref w1), .unset, .unset] [(.ref b101), (.ref b109), (.ref b109)])) _
    refine st112.trans ?_
    show Steps p.tables e below (T112.setTop (mkF m 177 #[.val (.int p1), .val (.int (irm (p1 &&& (2147483647 : Int32)) (3 : Int32))), .val (.ref b101), .val (.ref w1), .unset, .unset] [(.ref b109)])) _
    refine XS.astore X112.here hx rfl (hb hby at_177) rfl rfl (l' := #[.val (.int p1), .val (.int (irm (p1 &&& (2147483647 : Int32)) (3 : Int32))), .val (.ref b101), .val (.ref w1), .val (.ref b109), .unset]) rfl ?_
    show Steps p.tables e below (T112.setTop (mkF m 179 #[.val (.int p1), .val (.int (irm (p1 &&& (2147483647 : Int32)) (3 : Int32))), .val (.ref b101), .val (.ref w1), .val (.ref b109), .unset] [])) _
    refine XS.aload X112.here hx rfl (hb hby at_179) rfl rfl ?_
    show Steps p.tables e below (T112.setTop (mkF m 181 #[.val (.int p1), .val (.int (irm (p1 &&& (2147483647 : Int32)) (3 : Int32))), .val (.ref b101), .val (.ref w1), .val (.ref b109), .unset] [(.ref b109)])) _
    refine st113 _ ?_
    show Steps p.tables e below (T113.setTop (mkF m 184 #[.val (.int p1), .val (.int (irm (p1 &&& (2147483647 : Int32)) (3 : Int32))), .val (.ref b101), .val (.ref w1), .val (.ref b109), .unset] [(.ref w1)])) _
    refine XS.astore X113.here hx rfl (hb hby at_184) rfl rfl (l' := #[.val (.int p1), .val (.int (irm (p1 &&& (2147483647 : Int32)) (3 : Int32))), .val (.ref b101), .val (.ref w1), .val (.ref b109), .val (.ref w1)]) rfl ?_
    show Steps p.tables e below (T113.setTop (mkF m 186 #[.val (.int p1), .val (.int (irm (p1 &&& (2147483647 : Int32)) (3 : Int32))), .val (.ref b101), .val (.ref w1), .val (.ref b109), .val (.ref w1)] [])) _
    refine XS.aload X113.here hx rfl (hb hby at_186) rfl rfl ?_
    show Steps p.tables e below (T113.setTop (mkF m 188 #[.val (.int p1), .val (.int (irm (p1 &&& (2147483647 : Int32)) (3 : Int32))), .val (.ref b101), .val (.ref w1), .val (.ref b109), .val (.ref w1)] [(.ref w1)])) _
    refine XS.aloadN X113.here hx rfl (hb hby at_188) rfl rfl ?_
    show Steps p.tables e below (T113.setTop (mkF m 189 #[.val (.int p1), .val (.int (irm (p1 &&& (2147483647 : Int32)) (3 : Int32))), .val (.ref b101), .val (.ref w1), .val (.ref b109), .val (.ref w1)] [(.ref w1), (.ref w1)])) _
    refine Jvm.RoadKit.acmp (g := (mkF m 189 #[.val (.int p1), .val (.int (irm (p1 &&& (2147483647 : Int32)) (3 : Int32))), .val (.ref b101), .val (.ref w1), .val (.ref b109), .val (.ref w1)] [(.ref w1), (.ref w1)])) X113 hx rfl rfl rfl (pc0 := 189) (pc' := 192) (same := true) rfl (hb hby at_189) rfl (decide_eq_true rfl) (by decide) (by decide) ?_
    show Steps p.tables e below (T113.setTop (mkF m 192 #[.val (.int p1), .val (.int (irm (p1 &&& (2147483647 : Int32)) (3 : Int32))), .val (.ref b101), .val (.ref w1), .val (.ref b109), .val (.ref w1)] [])) _
    refine XS.aload X113.here hx rfl (hb hby at_192) rfl rfl ?_
    show Steps p.tables e below (T113.setTop (mkF m 194 #[.val (.int p1), .val (.int (irm (p1 &&& (2147483647 : Int32)) (3 : Int32))), .val (.ref b101), .val (.ref w1), .val (.ref b109), .val (.ref w1)] [(.ref w1)])) _
    refine st114 _ ?_
    show Steps p.tables e below (T114.setTop (mkF m 197 #[.val (.int p1), .val (.int (irm (p1 &&& (2147483647 : Int32)) (3 : Int32))), .val (.ref b101), .val (.ref w1), .val (.ref b109), .val (.ref w1)] [(.ref s1)])) _
    refine XS.aload X114.here hx rfl (hb hby at_197) rfl rfl ?_
    show Steps p.tables e below (T114.setTop (mkF m 199 #[.val (.int p1), .val (.int (irm (p1 &&& (2147483647 : Int32)) (3 : Int32))), .val (.ref b101), .val (.ref w1), .val (.ref b109), .val (.ref w1)] [(.ref b109), (.ref s1)])) _
    refine st119.trans ?_
    show Steps p.tables e below (T119.setTop (mkF m 202 #[.val (.int p1), .val (.int (irm (p1 &&& (2147483647 : Int32)) (3 : Int32))), .val (.ref b101), .val (.ref w1), .val (.ref b109), .val (.ref w1)] [(.int (1 : Int32))])) _
    refine XS.ifNo X119.here hx rfl (hb hby at_202) rfl ((if0 _ _).trans (feq (by decide : ¬ ((1 : Int32) = (0 : Int32)))).1) ?_
    show Steps p.tables e below (T119.setTop (mkF m 205 #[.val (.int p1), .val (.int (irm (p1 &&& (2147483647 : Int32)) (3 : Int32))), .val (.ref b101), .val (.ref w1), .val (.ref b109), .val (.ref w1)] [])) _
    refine XS.iconst X119.here hx rfl (hb hby at_205) ?_
    show Steps p.tables e below (T119.setTop (mkF m 206 #[.val (.int p1), .val (.int (irm (p1 &&& (2147483647 : Int32)) (3 : Int32))), .val (.ref b101), .val (.ref w1), .val (.ref b109), .val (.ref w1)] [(.int (1 : Int32))])) _
    refine XS.goto X119.here hx rfl (pc0 := 206) (pc' := 210) rfl (hb hby at_206) (by decide) (by decide) ?_
    show Steps p.tables e below (T119.setTop (mkF m 210 #[.val (.int p1), .val (.int (irm (p1 &&& (2147483647 : Int32)) (3 : Int32))), .val (.ref b101), .val (.ref w1), .val (.ref b109), .val (.ref w1)] [(.int (1 : Int32))])) _
    exact retN X119 hx (t := .boolean) Bd.returns (by simp) (hb hby at_210) hr
  · show Q0 h0 n0 _ T119.heap _
    rw [e119]
    exact ⟨rfl, N119⟩
set_option maxRecDepth 65536 in
set_option maxHeartbeats 40000000 in
theorem rm0_2 (l : Launch) (Z : State) (a0 : Array Value) (hw : ∀ d ∈ tables_1, d.before a0 Z = true) (ws : List Jvm.Cond) (p1 : Int32) (G1 : Int32) (kV : ClassId) (wV w0 w1 w2 : Addr) (s0 s1 s2 : Addr) (h0 : Heap) (n0 : Nat) (O0 : Old Z n0 h0) (S_CS : Sta Z Z.heap "java/lang/String" "COMPACT_STRINGS" "Z" (.int G1)) (hG1 : ¬ (G1 = (0 : Int32))) (S_V : Sta Z Z.heap "dev/tryst/tool/Workload$QueueKind" "$VALUES" "[Ldev/tryst/tool/Workload$QueueKind;" (.ref wV)) (A_V : Arv Z Z.heap wV kV (.object "dev/tryst/tool/Workload$QueueKind") (3 : Int32) [(.ref w0), (.ref w1), (.ref w2)] .null) (E_V : Exa Z Z.heap wV "[Ldev/tryst/tool/Workload$QueueKind;") (M0 : Fld Z Z.heap w0 "dev/tryst/tool/Workload$QueueKind" "mWord" "Ljava/lang/String;" (.ref s0)) (M1 : Fld Z Z.heap w1 "dev/tryst/tool/Workload$QueueKind" "mWord" "Ljava/lang/String;" (.ref s1)) (M2 : Fld Z Z.heap w2 "dev/tryst/tool/Workload$QueueKind" "mWord" "Ljava/lang/String;" (.ref s2)) (T0 : Str Z Z.heap s0 ([(97 : Int32), (114 : Int32), (114 : Int32), (97 : Int32), (121 : Int32)] : List Int32)) (T1 : Str Z Z.heap s1 ([(108 : Int32), (105 : Int32), (110 : Int32), (107 : Int32), (101 : Int32), (100 : Int32)] : List Int32)) (T2 : Str Z Z.heap s2 ([(108 : Int32), (105 : Int32), (110 : Int32), (107 : Int32), (101 : Int32), (100 : Int32), (45 : Int32), (100 : Int32), (101 : Int32), (113 : Int32), (117 : Int32), (101 : Int32)] : List Int32)) (S_K : Sta Z Z.heap "dev/tryst/tool/Workload$QueueKind" "LINKED_DEQUE" "Ldev/tryst/tool/Workload$QueueKind;" (.ref w2)) (k0 : ¬ ((irm (p1 &&& (2147483647 : Int32)) (3 : Int32)) = 0)) (k1 : ¬ ((irm (p1 &&& (2147483647 : Int32)) (3 : Int32)) = 1)) :
    MetFree l x (head1 (Jvm.Cond.code x code maxLocals ret :: ws) room_1) (fun a_ U => a_ = #[(.int p1)] ∧ Z.Warmed39 U.vm ∧ U.heap = h0) (fun _ _ _ _ _ => True) (fun _ U o U' => ∃ v L, o = .returned v ∧ Q0 h0 n0 v U'.heap L ∧ FrameEnd U o U' L room_1.cells room_1.slots) := by
  refine MetFree.of_bodySF (plainFor_of_name pn_1) hisR ?_
  intro p e s m args below meth c s₁ Bd hml0 hP hK
  obtain ⟨rfl, hZ, hh⟩ := hP
  have hx := Bd.exec
  have hby := Bd.bytes
  have hml : c.maxLocals = 6 := hml0
  have hown : s.vm.findClass "dev/tryst/tool/QueueKindOfPinLaw" = some m.cls := findClass_of_methodNamed Bd.named
  have hnm := (name_of_methodNamed Bd.named Bd.method).1
  have X0 : Stand p l e room_1 s m #[(.int p1)] below meth c s₁ [] 0 0 := Stand.of_body Bd
  have e0 : s₁.heap = h0 := by rw [← hh, Bd.state]; rfl
  have N0 := Fr.nil n0
  have pre0 : ∀ tg, Steps p.tables e below (s₁.setTop (mkF m 0 #[.val (.int p1), .unset, .unset, .unset, .unset, .unset] [])) tg → Steps p.tables e below (s₁.setTop (entryFrame m #[(.int p1)] maxLocals)) tg := fun tg kq => castTop (ef_I_6m m p1) kq
  obtain ⟨tm0, kbm0, Nm0, vsm0, sEm0, sVm0, sCm0, sKm0, scdm0, shpm0, shlm0⟩ := id T0
  obtain ⟨tm1, kbm1, Nm1, vsm1, sEm1, sVm1, sCm1, sKm1, scdm1, shpm1, shlm1⟩ := id T1
  obtain ⟨tm2, kbm2, Nm2, vsm2, sEm2, sVm2, sCm2, sKm2, scdm2, shpm2, shlm2⟩ := id T2
  obtain ⟨T101, h101, k101, X101, e101, E101, A101, st101⟩ := newP X0 hx hZ (wi hw 1 rfl) e0 (g := (mkF m 96 #[.val (.int p1), .val (.int (irm (p1 &&& (2147483647 : Int32)) (3 : Int32))), .unset, .unset, .unset, .unset] [(.int (12 : Int32))])) rfl (hb hby at_96) rfl (by decide) (cap := 12) (by decide) (by decide) (by decide) (by decide)
  obtain ⟨b101, g101⟩ : ∃ z, z = h0.size := ⟨_, rfl⟩
  rw [← g101] at A101 st101
  have g_b101 : n0 ≤ b101 := Nat.le_trans (O0.1 ▸ O0.2.1) (Nat.le_of_eq g101.symm)
  have sz_b101 : h0.size ≤ b101 := Nat.le_trans (Nat.le_refl _) (Nat.le_of_eq g101.symm)
  have O101 := O0.ext E101
  have KK101 : Keep h0 h101 [] := (Keep.refl h0 []).ext E101
  have V_b101 : Arv Z h101 b101 k101 .char (12 : Int32) [(.int (0 : Int32)), (.int (0 : Int32)), (.int (0 : Int32)), (.int (0 : Int32)), (.int (0 : Int32)), (.int (0 : Int32)), (.int (0 : Int32)), (.int (0 : Int32)), (.int (0 : Int32)), (.int (0 : Int32)), (.int (0 : Int32)), (.int (0 : Int32))] (.int (0 : Int32)) := (Arv.new A101 (by decide)).pad (pad_rep [] (.int (0 : Int32)) 12)
  obtain ⟨cl_b101_33, Ar_b101_33, q_b101_33, S_b101_33, N_b101_33, H_b101_33, G_b101_33⟩ := id (V_b101)
  have hinb101_33 : ¬ ((0 : Int32) < 0 ∨ cl_b101_33.slots.size ≤ ((0 : Int32)).toNatClampNeg) := inb_of S_b101_33 ⟨by decide, by decide⟩
  obtain ⟨T102, h102, X102, e102, W102, st102⟩ := stC X101 hx hZ e101 Ar_b101_33 (j := (0 : Int32)) hinb101_33 (g := (mkF m 102 #[.val (.int p1), .val (.int (irm (p1 &&& (2147483647 : Int32)) (3 : Int32))), .unset, .unset, .unset, .unset] [(.int (108 : Int32)), (.int (0 : Int32)), (.ref b101), (.ref b101)])) rfl rfl (hb hby at_102)
  have V_b101_102 : Arv Z h102 b101 k101 .char (12 : Int32) [(.int (108 : Int32)), (.int (0 : Int32)), (.int (0 : Int32)), (.int (0 : Int32)), (.int (0 : Int32)), (.int (0 : Int32)), (.int (0 : Int32)), (.int (0 : Int32)), (.int (0 : Int32)), (.int (0 : Int32)), (.int (0 : Int32)), (.int (0 : Int32))] (.int (0 : Int32)) := Arv.set Ar_b101_33 q_b101_33 S_b101_33 N_b101_33 H_b101_33 G_b101_33 (fits_nar_char _) W102 0 rfl (Nat.le_of_ble_eq_true rfl)
  have O102 := O101.wr W102 g_b101
  have KK102 : Keep h0 h102 [] := KK101.wr W102 (Or.inr sz_b101)
  have N102 := Fr.snoc X102 N0 g_b101
  obtain ⟨cl_b101_41, Ar_b101_41, q_b101_41, S_b101_41, N_b101_41, H_b101_41, G_b101_41⟩ := id (V_b101_102)
  have hinb101_41 : ¬ ((1 : Int32) < 0 ∨ cl_b101_41.slots.size ≤ ((1 : Int32)).toNatClampNeg) := inb_of S_b101_41 ⟨by decide, by decide⟩
  obtain ⟨T103, h103, X103, e103, W103, st103⟩ := stC X102 hx hZ e102 Ar_b101_41 (j := (1 : Int32)) hinb101_41 (g := (mkF m 107 #[.val (.int p1), .val (.int (irm (p1 &&& (2147483647 : Int32)) (3 : Int32))), .unset, .unset, .unset, .unset] [(.int (105 : Int32)), (.int (1 : Int32)), (.ref b101), (.ref b101)])) rfl rfl (hb hby at_107)
  have V_b101_103 : Arv Z h103 b101 k101 .char (12 : Int32) [(.int (108 : Int32)), (.int (105 : Int32)), (.int (0 : Int32)), (.int (0 : Int32)), (.int (0 : Int32)), (.int (0 : Int32)), (.int (0 : Int32)), (.int (0 : Int32)), (.int (0 : Int32)), (.int (0 : Int32)), (.int (0 : Int32)), (.int (0 : Int32))] (.int (0 : Int32)) := Arv.set Ar_b101_41 q_b101_41 S_b101_41 N_b101_41 H_b101_41 G_b101_41 (fits_nar_char _) W103 1 rfl (Nat.le_of_ble_eq_true rfl)
  have O103 := O102.wr W103 g_b101
  have KK103 : Keep h0 h103 [] := KK102.wr W103 (Or.inr sz_b101)
  have N103 := Fr.snoc X103 N102 g_b101
  obtain ⟨cl_b101_49, Ar_b101_49, q_b101_49, S_b101_49, N_b101_49, H_b101_49, G_b101_49⟩ := id (V_b101_103)
  have hinb101_49 : ¬ ((2 : Int32) < 0 ∨ cl_b101_49.slots.size ≤ ((2 : Int32)).toNatClampNeg) := inb_of S_b101_49 ⟨by decide, by decide⟩
  obtain ⟨T104, h104, X104, e104, W104, st104⟩ := stC X103 hx hZ e103 Ar_b101_49 (j := (2 : Int32)) hinb101_49 (g := (mkF m 112 #[.val (.int p1), .val (.int (irm (p1 &&& (2147483647 : Int32)) (3 : Int32))), .unset, .unset, .unset, .unset] [(.int (110 : Int32)), (.int (2 : Int32)), (.ref b101), (.ref b101)])) rfl rfl (hb hby at_112)
  have V_b101_104 : Arv Z h104 b101 k101 .char (12 : Int32) [(.int (108 : Int32)), (.int (105 : Int32)), (.int (110 : Int32)), (.int (0 : Int32)), (.int (0 : Int32)), (.int (0 : Int32)), (.int (0 : Int32)), (.int (0 : Int32)), (.int (0 : Int32)), (.int (0 : Int32)), (.int (0 : Int32)), (.int (0 : Int32))] (.int (0 : Int32)) := Arv.set Ar_b101_49 q_b101_49 S_b101_49 N_b101_49 H_b101_49 G_b101_49 (fits_nar_char _) W104 2 rfl (Nat.le_of_ble_eq_true rfl)
  have O104 := O103.wr W104 g_b101
  have KK104 : Keep h0 h104 [] := KK103.wr W104 (Or.inr sz_b101)
  have N104 := Fr.snoc X104 N103 g_b101
  obtain ⟨cl_b101_57, Ar_b101_57, q_b101_57, S_b101_57, N_b101_57, H_b101_57, G_b101_57⟩ := id (V_b101_104)
  have hinb101_57 : ¬ ((3 : Int32) < 0 ∨ cl_b101_57.slots.size ≤ ((3 : Int32)).toNatClampNeg) := inb_of S_b101_57 ⟨by decide, by decide⟩
  obtain ⟨T105, h105, X105, e105, W105, st105⟩ := stC X104 hx hZ e104 Ar_b101_57 (j := (3 : Int32)) hinb101_57 (g := (mkF m 117 #[.val (.int p1), .val (.int (irm (p1 &&& (2147483647 : Int32)) (3 : Int32))), .unset, .unset, .unset, .unset] [(.int (107 : Int32)), (.int (3 : Int32)), (.ref b101), (.ref b101)])) rfl rfl (hb hby at_117)
  have V_b101_105 : Arv Z h105 b101 k101 .char (12 : Int32) [(.int (108 : Int32)), (.int (105 : Int32)), (.int (110 : Int32)), (.int (107 : Int32)), (.int (0 : Int32)), (.int (0 : Int32)), (.int (0 : Int32)), (.int (0 : Int32)), (.int (0 : Int32)), (.int (0 : Int32)), (.int (0 : Int32)), (.int (0 : Int32))] (.int (0 : Int32)) := Arv.set Ar_b101_57 q_b101_57 S_b101_57 N_b101_57 H_b101_57 G_b101_57 (fits_nar_char _) W105 3 rfl (Nat.le_of_ble_eq_true rfl)
  have O105 := O104.wr W105 g_b101
  have KK105 : Keep h0 h105 [] := KK104.wr W105 (Or.inr sz_b101)
  have N105 := Fr.snoc X105 N104 g_b101
  obtain ⟨cl_b101_65, Ar_b101_65, q_b101_65, S_b101_65, N_b101_65, H_b101_65, G_b101_65⟩ := id (V_b101_105)
  have hinb101_65 : ¬ ((4 : Int32) < 0 ∨ cl_b101_65.slots.size ≤ ((4 : Int32)).toNatClampNeg) := inb_of S_b101_65 ⟨by decide, by decide⟩
  obtain ⟨T106, h106, X106, e106, W106, st106⟩ := stC X105 hx hZ e105 Ar_b101_65 (j := (4 : Int32)) hinb101_65 (g := (mkF m 122 #[.val (.int p1), .val (.int (irm (p1 &&& (2147483647 : Int32)) (3 : Int32))), .unset, .unset, .unset, .unset] [(.int (101 : Int32)), (.int (4 : Int32)), (.ref b101), (.ref b101)])) rfl rfl (hb hby at_122)
  have V_b101_106 : Arv Z h106 b101 k101 .char (12 : Int32) [(.int (108 : Int32)), (.int (105 : Int32)), (.int (110 : Int32)), (.int (107 : Int32)), (.int (101 : Int32)), (.int (0 : Int32)), (.int (0 : Int32)), (.int (0 : Int32)), (.int (0 : Int32)), (.int (0 : Int32)), (.int (0 : Int32)), (.int (0 : Int32))] (.int (0 : Int32)) := Arv.set Ar_b101_65 q_b101_65 S_b101_65 N_b101_65 H_b101_65 G_b101_65 (fits_nar_char _) W106 4 rfl (Nat.le_of_ble_eq_true rfl)
  have O106 := O105.wr W106 g_b101
  have KK106 : Keep h0 h106 [] := KK105.wr W106 (Or.inr sz_b101)
  have N106 := Fr.snoc X106 N105 g_b101
  obtain ⟨cl_b101_73, Ar_b101_73, q_b101_73, S_b101_73, N_b101_73, H_b101_73, G_b101_73⟩ := id (V_b101_106)
  have hinb101_73 : ¬ ((5 : Int32) < 0 ∨ cl_b101_73.slots.size ≤ ((5 : Int32)).toNatClampNeg) := inb_of S_b101_73 ⟨by decide, by decide⟩
  obtain ⟨T107, h107, X107, e107, W107, st107⟩ := stC X106 hx hZ e106 Ar_b101_73 (j := (5 : Int32)) hinb101_73 (g := (mkF m 127 #[.val (.int p1), .val (.int (irm (p1 &&& (2147483647 : Int32)) (3 : Int32))), .unset, .unset, .unset, .unset] [(.int (100 : Int32)), (.int (5 : Int32)), (.ref b101), (.ref b101)])) rfl rfl (hb hby at_127)
  have V_b101_107 : Arv Z h107 b101 k101 .char (12 : Int32) [(.int (108 : Int32)), (.int (105 : Int32)), (.int (110 : Int32)), (.int (107 : Int32)), (.int (101 : Int32)), (.int (100 : Int32)), (.int (0 : Int32)), (.int (0 : Int32)), (.int (0 : Int32)), (.int (0 : Int32)), (.int (0 : Int32)), (.int (0 : Int32))] (.int (0 : Int32)) := Arv.set Ar_b101_73 q_b101_73 S_b101_73 N_b101_73 H_b101_73 G_b101_73 (fits_nar_char _) W107 5 rfl (Nat.le_of_ble_eq_true rfl)
  have O107 := O106.wr W107 g_b101
  have KK107 : Keep h0 h107 [] := KK106.wr W107 (Or.inr sz_b101)
  have N107 := Fr.snoc X107 N106 g_b101
  obtain ⟨cl_b101_81, Ar_b101_81, q_b101_81, S_b101_81, N_b101_81, H_b101_81, G_b101_81⟩ := id (V_b101_107)
  have hinb101_81 : ¬ ((6 : Int32) < 0 ∨ cl_b101_81.slots.size ≤ ((6 : Int32)).toNatClampNeg) := inb_of S_b101_81 ⟨by decide, by decide⟩
  obtain ⟨T108, h108, X108, e108, W108, st108⟩ := stC X107 hx hZ e107 Ar_b101_81 (j := (6 : Int32)) hinb101_81 (g := (mkF m 133 #[.val (.int p1), .val (.int (irm (p1 &&& (2147483647 : Int32)) (3 : Int32))), .unset, .unset, .unset, .unset] [(.int (45 : Int32)), (.int (6 : Int32)), (.ref b101), (.ref b101)])) rfl rfl (hb hby at_133)
  have V_b101_108 : Arv Z h108 b101 k101 .char (12 : Int32) [(.int (108 : Int32)), (.int (105 : Int32)), (.int (110 : Int32)), (.int (107 : Int32)), (.int (101 : Int32)), (.int (100 : Int32)), (.int (45 : Int32)), (.int (0 : Int32)), (.int (0 : Int32)), (.int (0 : Int32)), (.int (0 : Int32)), (.int (0 : Int32))] (.int (0 : Int32)) := Arv.set Ar_b101_81 q_b101_81 S_b101_81 N_b101_81 H_b101_81 G_b101_81 (fits_nar_char _) W108 6 rfl (Nat.le_of_ble_eq_true rfl)
  have O108 := O107.wr W108 g_b101
  have KK108 : Keep h0 h108 [] := KK107.wr W108 (Or.inr sz_b101)
  have N108 := Fr.snoc X108 N107 g_b101
  obtain ⟨cl_b101_89, Ar_b101_89, q_b101_89, S_b101_89, N_b101_89, H_b101_89, G_b101_89⟩ := id (V_b101_108)
  have hinb101_89 : ¬ ((7 : Int32) < 0 ∨ cl_b101_89.slots.size ≤ ((7 : Int32)).toNatClampNeg) := inb_of S_b101_89 ⟨by decide, by decide⟩
  obtain ⟨T109, h109, X109, e109, W109, st109⟩ := stC X108 hx hZ e108 Ar_b101_89 (j := (7 : Int32)) hinb101_89 (g := (mkF m 139 #[.val (.int p1), .val (.int (irm (p1 &&& (2147483647 : Int32)) (3 : Int32))), .unset, .unset, .unset, .unset] [(.int (100 : Int32)), (.int (7 : Int32)), (.ref b101), (.ref b101)])) rfl rfl (hb hby at_139)
  have V_b101_109 : Arv Z h109 b101 k101 .char (12 : Int32) [(.int (108 : Int32)), (.int (105 : Int32)), (.int (110 : Int32)), (.int (107 : Int32)), (.int (101 : Int32)), (.int (100 : Int32)), (.int (45 : Int32)), (.int (100 : Int32)), (.int (0 : Int32)), (.int (0 : Int32)), (.int (0 : Int32)), (.int (0 : Int32))] (.int (0 : Int32)) := Arv.set Ar_b101_89 q_b101_89 S_b101_89 N_b101_89 H_b101_89 G_b101_89 (fits_nar_char _) W109 7 rfl (Nat.le_of_ble_eq_true rfl)
  have O109 := O108.wr W109 g_b101
  have KK109 : Keep h0 h109 [] := KK108.wr W109 (Or.inr sz_b101)
  have N109 := Fr.snoc X109 N108 g_b101
  obtain ⟨cl_b101_97, Ar_b101_97, q_b101_97, S_b101_97, N_b101_97, H_b101_97, G_b101_97⟩ := id (V_b101_109)
  have hinb101_97 : ¬ ((8 : Int32) < 0 ∨ cl_b101_97.slots.size ≤ ((8 : Int32)).toNatClampNeg) := inb_of S_b101_97 ⟨by decide, by decide⟩
  obtain ⟨T110, h110, X110, e110, W110, st110⟩ := stC X109 hx hZ e109 Ar_b101_97 (j := (8 : Int32)) hinb101_97 (g := (mkF m 145 #[.val (.int p1), .val (.int (irm (p1 &&& (2147483647 : Int32)) (3 : Int32))), .unset, .unset, .unset, .unset] [(.int (101 : Int32)), (.int (8 : Int32)), (.ref b101), (.ref b101)])) rfl rfl (hb hby at_145)
  have V_b101_110 : Arv Z h110 b101 k101 .char (12 : Int32) [(.int (108 : Int32)), (.int (105 : Int32)), (.int (110 : Int32)), (.int (107 : Int32)), (.int (101 : Int32)), (.int (100 : Int32)), (.int (45 : Int32)), (.int (100 : Int32)), (.int (101 : Int32)), (.int (0 : Int32)), (.int (0 : Int32)), (.int (0 : Int32))] (.int (0 : Int32)) := Arv.set Ar_b101_97 q_b101_97 S_b101_97 N_b101_97 H_b101_97 G_b101_97 (fits_nar_char _) W110 8 rfl (Nat.le_of_ble_eq_true rfl)
  have O110 := O109.wr W110 g_b101
  have KK110 : Keep h0 h110 [] := KK109.wr W110 (Or.inr sz_b101)
  have N110 := Fr.snoc X110 N109 g_b101
  obtain ⟨cl_b101_105, Ar_b101_105, q_b101_105, S_b101_105, N_b101_105, H_b101_105, G_b101_105⟩ := id (V_b101_110)
  have hinb101_105 : ¬ ((9 : Int32) < 0 ∨ cl_b101_105.slots.size ≤ ((9 : Int32)).toNatClampNeg) := inb_of S_b101_105 ⟨by decide, by decide⟩
  obtain ⟨T111, h111, X111, e111, W111, st111⟩ := stC X110 hx hZ e110 Ar_b101_105 (j := (9 : Int32)) hinb101_105 (g := (mkF m 151 #[.val (.int p1), .val (.int (irm (p1 &&& (2147483647 : Int32)) (3 : Int32))), .unset, .unset, .unset, .unset] [(.int (113 : Int32)), (.int (9 : Int32)), (.ref b101), (.ref b101)])) rfl rfl (hb hby at_151)
  have V_b101_111 : Arv Z h111 b101 k101 .char (12 : Int32) [(.int (108 : Int32)), (.int (105 : Int32)), (.int (110 : Int32)), (.int (107 : Int32)), (.int (101 : Int32)), (.int (100 : Int32)), (.int (45 : Int32)), (.int (100 : Int32)), (.int (101 : Int32)), (.int (113 : Int32)), (.int (0 : Int32)), (.int (0 : Int32))] (.int (0 : Int32)) := Arv.set Ar_b101_105 q_b101_105 S_b101_105 N_b101_105 H_b101_105 G_b101_105 (fits_nar_char _) W111 9 rfl (Nat.le_of_ble_eq_true rfl)
  have O111 := O110.wr W111 g_b101
  have KK111 : Keep h0 h111 [] := KK110.wr W111 (Or.inr sz_b101)
  have N111 := Fr.snoc X111 N110 g_b101
  obtain ⟨cl_b101_113, Ar_b101_113, q_b101_113, S_b101_113, N_b101_113, H_b101_113, G_b101_113⟩ := id (V_b101_111)
  have hinb101_113 : ¬ ((10 : Int32) < 0 ∨ cl_b101_113.slots.size ≤ ((10 : Int32)).toNatClampNeg) := inb_of S_b101_113 ⟨by decide, by decide⟩
  obtain ⟨T112, h112, X112, e112, W112, st112⟩ := stC X111 hx hZ e111 Ar_b101_113 (j := (10 : Int32)) hinb101_113 (g := (mkF m 157 #[.val (.int p1), .val (.int (irm (p1 &&& (2147483647 : Int32)) (3 : Int32))), .unset, .unset, .unset, .unset] [(.int (117 : Int32)), (.int (10 : Int32)), (.ref b101), (.ref b101)])) rfl rfl (hb hby at_157)
  have V_b101_112 : Arv Z h112 b101 k101 .char (12 : Int32) [(.int (108 : Int32)), (.int (105 : Int32)), (.int (110 : Int32)), (.int (107 : Int32)), (.int (101 : Int32)), (.int (100 : Int32)), (.int (45 : Int32)), (.int (100 : Int32)), (.int (101 : Int32)), (.int (113 : Int32)), (.int (117 : Int32)), (.int (0 : Int32))] (.int (0 : Int32)) := Arv.set Ar_b101_113 q_b101_113 S_b101_113 N_b101_113 H_b101_113 G_b101_113 (fits_nar_char _) W112 10 rfl (Nat.le_of_ble_eq_true rfl)
  have O112 := O111.wr W112 g_b101
  have KK112 : Keep h0 h112 [] := KK111.wr W112 (Or.inr sz_b101)
  have N112 := Fr.snoc X112 N111 g_b101
  obtain ⟨cl_b101_121, Ar_b101_121, q_b101_121, S_b101_121, N_b101_121, H_b101_121, G_b101_121⟩ := id (V_b101_112)
  have hinb101_121 : ¬ ((11 : Int32) < 0 ∨ cl_b101_121.slots.size ≤ ((11 : Int32)).toNatClampNeg) := inb_of S_b101_121 ⟨by decide, by decide⟩
  obtain ⟨T113, h113, X113, e113, W113, st113⟩ := stC X112 hx hZ e112 Ar_b101_121 (j := (11 : Int32)) hinb101_121 (g := (mkF m 163 #[.val (.int p1), .val (.int (irm (p1 &&& (2147483647 : Int32)) (3 : Int32))), .unset, .unset, .unset, .unset] [(.int (101 : Int32)), (.int (11 : Int32)), (.ref b101), (.ref b101)])) rfl rfl (hb hby at_163)
  have V_b101_113 : Arv Z h113 b101 k101 .char (12 : Int32) [(.int (108 : Int32)), (.int (105 : Int32)), (.int (110 : Int32)), (.int (107 : Int32)), (.int (101 : Int32)), (.int (100 : Int32)), (.int (45 : Int32)), (.int (100 : Int32)), (.int (101 : Int32)), (.int (113 : Int32)), (.int (117 : Int32)), (.int (101 : Int32))] (.int (0 : Int32)) := Arv.set Ar_b101_121 q_b101_121 S_b101_121 N_b101_121 H_b101_121 G_b101_121 (fits_nar_char _) W113 11 rfl (Nat.le_of_ble_eq_true rfl)
  have O113 := O112.wr W113 g_b101
  have KK113 : Keep h0 h113 [] := KK112.wr W113 (Or.inr sz_b101)
  have N113 := Fr.snoc X113 N112 g_b101
  obtain ⟨T114, X114, e114, st114⟩ := getS2 X113 hx hZ hown (host := "") (Or.inl (wi hw 68 rfl)) Via.refl e113 (S_K.ext O113.2) (g := (mkF m 165 #[.val (.int p1), .val (.int (irm (p1 &&& (2147483647 : Int32)) (3 : Int32))), .val (.ref b101), .unset, .unset, .unset] [])) rfl (hb hby at_165)
  obtain ⟨T115, h115, X115, e115, E115, A115, D115, -, st115⟩ := newO X114 hx hZ hown (wi hw 5 rfl) (wi hw 6 rfl) (wi hw 7 rfl) e114 (g := (mkF m 169 #[.val (.int p1), .val (.int (irm (p1 &&& (2147483647 : Int32)) (3 : Int32))), .val (.ref b101), .val (.ref w2), .unset, .unset] [])) rfl (hb hby at_169) (by decide) (by decide)
  obtain ⟨b115, g115⟩ : ∃ z, z = h113.size := ⟨_, rfl⟩
  rw [← g115] at A115 D115 st115
  have g_b115 : n0 ≤ b115 := Nat.le_trans (O113.1 ▸ O113.2.1) (Nat.le_of_eq g115.symm)
  have sz_b115 : h0.size ≤ b115 := Nat.le_trans KK113.1 (Nat.le_of_eq g115.symm)
  have O115 := O113.ext E115
  have KK115 : Keep h0 h115 [] := KK113.ext E115
  have F_coder_b115 : Fld Z h115 b115 "java/lang/String" "coder" "B" (.int (0 : Int32)) := D115 (Or.inr (wi hw 31 rfl)) (ty := .byte) (by decide)
  have F_value_b115 : Fld Z h115 b115 "java/lang/String" "value" "[B" .null := D115 (Or.inr (wi hw 33 rfl)) (ty := (.array .byte)) (by decide)
  have fV_b101_14_116 := (V_b101_113.ext E115)
  have shp117 : ∀ c ∈ ([(108 : Int32), (105 : Int32), (110 : Int32), (107 : Int32), (101 : Int32), (100 : Int32), (45 : Int32), (100 : Int32), (101 : Int32), (113 : Int32), (117 : Int32), (101 : Int32)] : List Int32), ¬ c < 0 ∧ ¬ (255 : Int32) < c := by decide
  have sA117 : Arv Z h115 b101 k101 .char (12 : Int32) (([(108 : Int32), (105 : Int32), (110 : Int32), (107 : Int32), (101 : Int32), (100 : Int32), (45 : Int32), (100 : Int32), (101 : Int32), (113 : Int32), (117 : Int32), (101 : Int32)] : List Int32).map Value.int) (.int (0 : Int32)) := fV_b101_14_116
  obtain ⟨_, _, ⟨T118, L118, k118, n118⟩, -, X118, ⟨Lc118, hQ118, l118, y118, z118⟩, st118⟩ := X115.specialBack hx (y := (⟨"java/lang/String", "<init>", "([C)V"⟩ : MethodName)) rfl hown (mvT hZ (wi hw 8 rfl)) (mvT hZ (wi hw 9 rfl)) (mvT hZ (wi hw 10 rfl)) (by decide) (StrChars.Road.backV (W := 1) hZ (fun d hd => hw d (own_w_backV d hd)) (kI := 4) (wi hw 6 rfl) (cs := ([(108 : Int32), (105 : Int32), (110 : Int32), (107 : Int32), (101 : Int32), (100 : Int32), (45 : Int32), (100 : Int32), (101 : Int32), (113 : Int32), (117 : Int32), (101 : Int32)] : List Int32)) (bs := ([(108 : Int32), (105 : Int32), (110 : Int32), (107 : Int32), (101 : Int32), (100 : Int32), (45 : Int32), (100 : Int32), (101 : Int32), (113 : Int32), (117 : Int32), (101 : Int32)] : List Int32).map (fun c => c.toInt8.toInt32)) (n := 12) g_b115 (O115.1 ▸ O115.2.1) A115 F_value_b115 F_coder_b115 sA117 (S_CS.ext O115.2) hG1 rfl rfl (by decide) (by decide) shp117 rfl (by decide) (by decide)) (g := (mkF m 174 #[.val (.int p1), .val (.int (irm (p1 &&& (2147483647 : Int32)) (3 : Int32))), .val (.ref b101), .val (.ref w2), .unset, .unset] [(.ref b101), (.ref b115), (.ref b115)])) rfl (by rw [hml]; rfl) (Steps.refl _) (a := b115) (argsL := [(.ref b101)]) (rest := [(.ref b115)]) (lenOf pd_2 rfl) rfl (by show 2 * 0 + _ ≤ _; exact Nat.le_of_eq rfl) (hb hby at_174) (fun _ _ => ⟨rfl, e115, (by decide : 2 + 1 ≤ _), (by decide : 16 + 12 ≤ _)⟩)
  dsimp only [Pt.U, Pt.locs, Pt.cells, Pt.slots] at X118 l118 y118 z118 st118 hQ118
  subst l118 y118 z118
  obtain ⟨rfl, N118q, K118, sE117, sC117, t117, kb117, sg117, ssz117, sne117, sV117, sK117⟩ := hQ118
  obtain ⟨h118, e118⟩ : ∃ z, T118.heap = z := ⟨_, rfl⟩
  rw [e118] at K118 sE117 sC117 sV117 sK117
  have g_t117 : n0 ≤ t117 := Nat.le_trans (O115.1 ▸ O115.2.1) ssz117
  have sz_t117 : h0.size ≤ t117 := Nat.le_trans KK115.1 ssz117
  have O118 := O115.keep K118 (allS g_b115 all0)
  have KK118 : Keep h0 h118 [] := KK115.trans K118 (allS (Or.inr sz_b115) all0)
  have N118 := Fr.app N113 N118q
  have scd117 : StrChars.Road.CodA ([(108 : Int32), (105 : Int32), (110 : Int32), (107 : Int32), (101 : Int32), (100 : Int32), (45 : Int32), (100 : Int32), (101 : Int32), (113 : Int32), (117 : Int32), (101 : Int32)] : List Int32) 0 (12 : Int32) ((([(108 : Int32), (105 : Int32), (110 : Int32), (107 : Int32), (101 : Int32), (100 : Int32), (45 : Int32), (100 : Int32), (101 : Int32), (113 : Int32), (117 : Int32), (101 : Int32)] : List Int32).map (fun c => c.toInt8.toInt32)).map Value.int) := StrChars.Road.codOf (n := 12) rfl (fun c hc => (shp117 c hc).2)
  obtain ⟨_, _, ⟨T119, L119, k119, n119⟩, -, X119, ⟨Lc119, hQ119, l119, y119, z119⟩, st119⟩ := Jvm.LawKit.callS X118 hx (y := (⟨"dev/tryst/tool/Workload$QueueKind", "of", "(Ljava/lang/String;)Ldev/tryst/tool/Workload$QueueKind;"⟩ : MethodName)) hown (mvT hZ (wi hw 34 rfl)) (mvT hZ (wi hw 35 rfl)) (mvT hZ (wi hw 3 rfl)) (mvT hZ (wi hw 36 rfl)) (by decide) (backOf (W := 0) (rm7_2 l Z a0 hw [] G1 kV wV w0 w1 w2 s0 s1 s2 b115 h118 n0 O118 S_CS hG1 S_V A_V E_V M0 M1 M2 T0 T1 T2 ⟨_, _, _, _, sE117, sV117, sC117, sK117, scd117, shp117, (Nat.le_of_ble_eq_true rfl)⟩) hZ (wi hw 36 rfl) (wi hw 3 rfl) (by decide) (by decide)) (g := (mkF m 181 #[.val (.int p1), .val (.int (irm (p1 &&& (2147483647 : Int32)) (3 : Int32))), .val (.ref b101), .val (.ref w2), .val (.ref b115), .unset] [(.ref b115)])) rfl (by rw [hml]; rfl) (argsL := [(.ref b115)]) (rest := []) (lenOf pd_3 rfl) rfl (by show 2 * 0 + _ ≤ _; exact Nat.le_of_eq rfl) (hb hby at_181) (fun _ _ => ⟨rfl, e118, (by decide : 3 + 1 ≤ _), (by decide : 28 + 3 ≤ _)⟩)
  dsimp only [Pt.U, Pt.locs, Pt.cells, Pt.slots] at X119 l119 y119 z119 st119 hQ119
  subst l119 y119 z119
  obtain ⟨rfl, N119q, K119⟩ := hQ119
  obtain ⟨h119, e119⟩ : ∃ z, T119.heap = z := ⟨_, rfl⟩
  rw [e119] at K119
  have O119 := O118.keep K119 all0
  have KK119 : Keep h0 h119 [] := KK118.trans K119 all0
  have N119 := Fr.app N118 N119q
  obtain ⟨T120, X120, e120, st120⟩ := getF X119 hx hZ hown (host := "") (Or.inl (wi hw 66 rfl)) Via.refl e119 (M2.ext O119.2) (g := (mkF m 194 #[.val (.int p1), .val (.int (irm (p1 &&& (2147483647 : Int32)) (3 : Int32))), .val (.ref b101), .val (.ref w2), .val (.ref b115), .val (.ref w2)] [(.ref w2)])) rfl rfl (hb hby at_194)
  have fE_b115_16_121 := (sE117.keep K119)
  have fString_value_16_122 := (sV117.keep K119 nin0)
  have fString_coder_16_123 := (sC117.keep K119 nin0)
  have fV_t117_16_124 := (sK117.keep K119 nin0)
  obtain ⟨cq125, kq125, q125a, q125b, q125c⟩ := isOf hZ e120 (sEm2.ext O119.2)
  obtain ⟨_, _, ⟨T125, L125, k125, n125⟩, -, X125, ⟨Lc125, hQ125, l125, y125, z125⟩, st125⟩ := X120.virtualBack hx (y := (⟨"java/lang/String", "equals", "(Ljava/lang/Object;)Z"⟩ : MethodName)) (z := (⟨"java/lang/String", "equals", "(Ljava/lang/Object;)Z"⟩ : MethodName)) hown (mvT hZ (wi hw 67 rfl)) (mvT hZ (wi hw 57 rfl)) (notFace_of_selects (args := #[]) (mvT hZ (wi hw 59 rfl))) (mvT hZ (wi hw 59 rfl)) (mvT hZ (wi hw 58 rfl)) (by decide) (StrChars.Road.eqW (W := 0) hZ (fun d hd => hw d (own_w_eqW d hd)) (kI := 4) (wi hw 6 rfl) (sEm2.ext O119.2) (sVm2.ext O119.2) (sCm2.ext O119.2) (sKm2.ext O119.2) scdm2 (own_up _ shpm2) shlm2 fE_b115_16_121 fString_value_16_122 fString_coder_16_123 fV_t117_16_124 scd117 (own_up _ shp117) (Nat.le_of_ble_eq_true rfl) (S_CS.ext O119.2) hG1 (by decide) (by decide)) q125a q125c (g := (mkF m 199 #[.val (.int p1), .val (.int (irm (p1 &&& (2147483647 : Int32)) (3 : Int32))), .val (.ref b101), .val (.ref w2), .val (.ref b115), .val (.ref w2)] [(.ref b115), (.ref s2)])) rfl (by rw [hml]; rfl) (Steps.refl _) (argsL := [(.ref b115)]) (rest := []) (lenOf pd_1 rfl) rfl (by show 2 * 0 + _ ≤ _; exact Nat.le_of_eq rfl) (hb hby at_199) (fun _ _ => ⟨rfl, e120, (by decide : 4 + 0 ≤ _), (by decide : 31 + 0 ≤ _)⟩)
  dsimp only [Pt.U, Pt.locs, Pt.cells, Pt.slots] at X125 l125 y125 z125 st125 hQ125
  subst l125 y125 z125
  obtain ⟨hv125, rfl, hh125⟩ := hQ125
  obtain rfl := (hv125.resolve_right (fun q => q.2 ((by decide) : ([(108 : Int32), (105 : Int32), (110 : Int32), (107 : Int32), (101 : Int32), (100 : Int32), (45 : Int32), (100 : Int32), (101 : Int32), (113 : Int32), (117 : Int32), (101 : Int32)] : List Int32) = ([(108 : Int32), (105 : Int32), (110 : Int32), (107 : Int32), (101 : Int32), (100 : Int32), (45 : Int32), (100 : Int32), (101 : Int32), (113 : Int32), (117 : Int32), (101 : Int32)] : List Int32)))).1
  have N125q : Fr n0 ([] : List Loc) := Fr.nil n0
  have e125 : T125.heap = h119 := hh125
  have N125 := Fr.app N119 N125q
  obtain ⟨fs, hr, hrun, hended, hW, hsame⟩ := X125.leave (v := some (.int (1 : Int32))) (fun h => by rw [Bd.returns] at h; cases h)
  refine ⟨_, _, pre0 _ ?_, hrun, hended, _, _, rfl, ?_, ⟨_, rfl⟩, hW, hsame.mono (by decide) (by decide)⟩
  · show Steps p.tables e below (s₁.setTop (mkF m 0 #[.val (.int p1), .unset, .unset, .unset, .unset, .unset] [])) _
    refine XS.iloadN X0.here hx rfl (hb hby at_0) rfl ?_
    show Steps p.tables e below (s₁.setTop (mkF m 1 #[.val (.int p1), .unset, .unset, .unset, .unset, .unset] [(.int p1)])) _
    refine X0.ldcInt hx hown (mvT hZ (wi hw 0 rfl)) (g := (mkF m 1 #[.val (.int p1), .unset, .unset, .unset, .unset, .unset] [(.int p1)])) rfl (hb hby at_1) _ ?_
    show Steps p.tables e below (s₁.setTop (mkF m 3 #[.val (.int p1), .unset, .unset, .unset, .unset, .unset] [(.int (2147483647 : Int32)), (.int p1)])) _
    refine XS.iand X0.here hx rfl (hb hby at_3) rfl ?_
    show Steps p.tables e below (s₁.setTop (mkF m 4 #[.val (.int p1), .unset, .unset, .unset, .unset, .unset] [(.int (p1 &&& (2147483647 : Int32)))])) _
    refine XS.iconst X0.here hx rfl (hb hby at_4) ?_
    show Steps p.tables e below (s₁.setTop (mkF m 5 #[.val (.int p1), .unset, .unset, .unset, .unset, .unset] [(.int (3 : Int32)), (.int (p1 &&& (2147483647 : Int32)))])) _
    refine XS.irem X0.here hx rfl (hb hby at_5) rfl (by decide) ?_
    show Steps p.tables e below (s₁.setTop (mkF m 6 #[.val (.int p1), .unset, .unset, .unset, .unset, .unset] [(.int (irm (p1 &&& (2147483647 : Int32)) (3 : Int32)))])) _
    refine XS.istoreN X0.here hx rfl (hb hby at_6) rfl (l' := #[.val (.int p1), .val (.int (irm (p1 &&& (2147483647 : Int32)) (3 : Int32))), .unset, .unset, .unset, .unset]) rfl ?_
    show Steps p.tables e below (s₁.setTop (mkF m 7 #[.val (.int p1), .val (.int (irm (p1 &&& (2147483647 : Int32)) (3 : Int32))), .unset, .unset, .unset, .unset] [])) _
    refine XS.iloadN X0.here hx rfl (hb hby at_7) rfl ?_
    show Steps p.tables e below (s₁.setTop (mkF m 8 #[.val (.int p1), .val (.int (irm (p1 &&& (2147483647 : Int32)) (3 : Int32))), .unset, .unset, .unset, .unset] [(.int (irm (p1 &&& (2147483647 : Int32)) (3 : Int32)))])) _
    refine XS.ifYes X0.here hx rfl (pc0 := 8) (pc' := 47) rfl (hb hby at_8) rfl ((if0 _ _).trans (feq k0).2) (by decide) (by decide) ?_
    show Steps p.tables e below (s₁.setTop (mkF m 47 #[.val (.int p1), .val (.int (irm (p1 &&& (2147483647 : Int32)) (3 : Int32))), .unset, .unset, .unset, .unset] [])) _
    refine XS.iloadN X0.here hx rfl (hb hby at_47) rfl ?_
    show Steps p.tables e below (s₁.setTop (mkF m 48 #[.val (.int p1), .val (.int (irm (p1 &&& (2147483647 : Int32)) (3 : Int32))), .unset, .unset, .unset, .unset] [(.int (irm (p1 &&& (2147483647 : Int32)) (3 : Int32)))])) _
    refine XS.iconst X0.here hx rfl (hb hby at_48) ?_
    show Steps p.tables e below (s₁.setTop (mkF m 49 #[.val (.int p1), .val (.int (irm (p1 &&& (2147483647 : Int32)) (3 : Int32))), .unset, .unset, .unset, .unset] [(.int (1 : Int32)), (.int (irm (p1 &&& (2147483647 : Int32)) (3 : Int32)))])) _
    refine XS.icmpYes X0.here hx rfl (pc0 := 49) (pc' := 94) rfl (hb hby at_49) rfl (feq k1).2 (by decide) (by decide) ?_
    show Steps p.tables e below (s₁.setTop (mkF m 94 #[.val (.int p1), .val (.int (irm (p1 &&& (2147483647 : Int32)) (3 : Int32))), .unset, .unset, .unset, .unset] [])) _
    refine XS.bipush X0.here hx rfl (hb hby at_94) ?_
    show Steps p.tables e below (s₁.setTop (mkF m 96 #[.val (.int p1), .val (.int (irm (p1 &&& (2147483647 : Int32)) (3 : Int32))), .unset, .unset, .unset, .unset] [(.int (12 : Int32))])) _
    refine st101 _ ?_
    show Steps p.tables e below (T101.setTop (mkF m 98 #[.val (.int p1), .val (.int (irm (p1 &&& (2147483647 : Int32)) (3 : Int32))), .unset, .unset, .unset, .unset] [(.ref b101)])) _
    refine XS.dup X101.here hx rfl (hb hby at_98) rfl rfl ?_
    show Steps p.tables e below (T101.setTop (mkF m 99 #[.val (.int p1), .val (.int (irm (p1 &&& (2147483647 : Int32)) (3 : Int32))), .unset, .unset, .unset, .unset] [(.ref b101), (.ref b101)])) _
    refine XS.iconst X101.here hx rfl (hb hby at_99) ?_
    show Steps p.tables e below (T101.setTop (mkF m 100 #[.val (.int p1), .val (.int (irm (p1 &&& (2147483647 : Int32)) (3 : Int32))), .unset, .unset, .unset, .unset] [(.int (0 : Int32)), (.ref b101), (.ref b101)])) _
    refine XS.bipush X101.here hx rfl (hb hby at_100) ?_
    show Steps p.tables e below (T101.setTop (mkF m 102 #[.val (.int p1), .val (.int (irm (p1 &&& (2147483647 : Int32)) (3 : Int32))), .unset, .unset, .unset, .unset] [(.int (108 : Int32)), (.int (0 : Int32)), (.ref b101), (.ref b101)])) _
    refine st102 _ ?_
    show Steps p.tables e below (T102.setTop (mkF m 103 #[.val (.int p1), .val (.int (irm (p1 &&& (2147483647 : Int32)) (3 : Int32))), .unset, .unset, .unset, .unset] [(.ref b101)])) _
    refine XS.dup X102.here hx rfl (hb hby at_103) rfl rfl ?_
    show Steps p.tables e below (T102.setTop (mkF m 104 #[.val (.int p1), .val (.int (irm (p1 &&& (2147483647 : Int32)) (3 : Int32))), .unset, .unset, .unset, .unset] [(.ref b101), (.ref b101)])) _
    refine XS.iconst X102.here hx rfl (hb hby at_104) ?_
    show Steps p.tables e below (T102.setTop (mkF m 105 #[.val (.int p1), .val (.int (irm (p1 &&& (2147483647 : Int32)) (3 : Int32))), .unset, .unset, .unset, .unset] [(.int (1 : Int32)), (.ref b101), (.ref b101)])) _
    refine XS.bipush X102.here hx rfl (hb hby at_105) ?_
    show Steps p.tables e below (T102.setTop (mkF m 107 #[.val (.int p1), .val (.int (irm (p1 &&& (2147483647 : Int32)) (3 : Int32))), .unset, .unset, .unset, .unset] [(.int (105 : Int32)), (.int (1 : Int32)), (.ref b101), (.ref b101)])) _
    refine st103 _ ?_
    show Steps p.tables e below (T103.setTop (mkF m 108 #[.val (.int p1), .val (.int (irm (p1 &&& (2147483647 : Int32)) (3 : Int32))), .unset, .unset, .unset, .unset] [(.ref b101)])) _
    refine XS.dup X103.here hx rfl (hb hby at_108) rfl rfl ?_
    show Steps p.tables e below (T103.setTop (mkF m 109 #[.val (.int p1), .val (.int (irm (p1 &&& (2147483647 : Int32)) (3 : Int32))), .unset, .unset, .unset, .unset] [(.ref b101), (.ref b101)])) _
    refine XS.iconst X103.here hx rfl (hb hby at_109) ?_
    show Steps p.tables e below (T103.setTop (mkF m 110 #[.val (.int p1), .val (.int (irm (p1 &&& (2147483647 : Int32)) (3 : Int32))), .unset, .unset, .unset, .unset] [(.int (2 : Int32)), (.ref b101), (.ref b101)])) _
    refine XS.bipush X103.here hx rfl (hb hby at_110) ?_
    show Steps p.tables e below (T103.setTop (mkF m 112 #[.val (.int p1), .val (.int (irm (p1 &&& (2147483647 : Int32)) (3 : Int32))), .unset, .unset, .unset, .unset] [(.int (110 : Int32)), (.int (2 : Int32)), (.ref b101), (.ref b101)])) _
    refine st104 _ ?_
    show Steps p.tables e below (T104.setTop (mkF m 113 #[.val (.int p1), .val (.int (irm (p1 &&& (2147483647 : Int32)) (3 : Int32))), .unset, .unset, .unset, .unset] [(.ref b101)])) _
    refine XS.dup X104.here hx rfl (hb hby at_113) rfl rfl ?_
    show Steps p.tables e below (T104.setTop (mkF m 114 #[.val (.int p1), .val (.int (irm (p1 &&& (2147483647 : Int32)) (3 : Int32))), .unset, .unset, .unset, .unset] [(.ref b101), (.ref b101)])) _
    refine XS.iconst X104.here hx rfl (hb hby at_114) ?_
    show Steps p.tables e below (T104.setTop (mkF m 115 #[.val (.int p1), .val (.int (irm (p1 &&& (2147483647 : Int32)) (3 : Int32))), .unset, .unset, .unset, .unset] [(.int (3 : Int32)), (.ref b101), (.ref b101)])) _
    refine XS.bipush X104.here hx rfl (hb hby at_115) ?_
    show Steps p.tables e below (T104.setTop (mkF m 117 #[.val (.int p1), .val (.int (irm (p1 &&& (2147483647 : Int32)) (3 : Int32))), .unset, .unset, .unset, .unset] [(.int (107 : Int32)), (.int (3 : Int32)), (.ref b101), (.ref b101)])) _
    refine st105 _ ?_
    show Steps p.tables e below (T105.setTop (mkF m 118 #[.val (.int p1), .val (.int (irm (p1 &&& (2147483647 : Int32)) (3 : Int32))), .unset, .unset, .unset, .unset] [(.ref b101)])) _
    refine XS.dup X105.here hx rfl (hb hby at_118) rfl rfl ?_
    show Steps p.tables e below (T105.setTop (mkF m 119 #[.val (.int p1), .val (.int (irm (p1 &&& (2147483647 : Int32)) (3 : Int32))), .unset, .unset, .unset, .unset] [(.ref b101), (.ref b101)])) _
    refine XS.iconst X105.here hx rfl (hb hby at_119) ?_
    show Steps p.tables e below (T105.setTop (mkF m 120 #[.val (.int p1), .val (.int (irm (p1 &&& (2147483647 : Int32)) (3 : Int32))), .unset, .unset, .unset, .unset] [(.int (4 : Int32)), (.ref b101), (.ref b101)])) _
    refine XS.bipush X105.here hx rfl (hb hby at_120) ?_
    show Steps p.tables e below (T105.setTop (mkF m 122 #[.val (.int p1), .val (.int (irm (p1 &&& (2147483647 : Int32)) (3 : Int32))), .unset, .unset, .unset, .unset] [(.int (101 : Int32)), (.int (4 : Int32)), (.ref b101), (.ref b101)])) _
    refine st106 _ ?_
    show Steps p.tables e below (T106.setTop (mkF m 123 #[.val (.int p1), .val (.int (irm (p1 &&& (2147483647 : Int32)) (3 : Int32))), .unset, .unset, .unset, .unset] [(.ref b101)])) _
    refine XS.dup X106.here hx rfl (hb hby at_123) rfl rfl ?_
    show Steps p.tables e below (T106.setTop (mkF m 124 #[.val (.int p1), .val (.int (irm (p1 &&& (2147483647 : Int32)) (3 : Int32))), .unset, .unset, .unset, .unset] [(.ref b101), (.ref b101)])) _
    refine XS.iconst X106.here hx rfl (hb hby at_124) ?_
    show Steps p.tables e below (T106.setTop (mkF m 125 #[.val (.int p1), .val (.int (irm (p1 &&& (2147483647 : Int32)) (3 : Int32))), .unset, .unset, .unset, .unset] [(.int (5 : Int32)), (.ref b101), (.ref b101)])) _
    refine XS.bipush X106.here hx rfl (hb hby at_125) ?_
    show Steps p.tables e below (T106.setTop (mkF m 127 #[.val (.int p1), .val (.int (irm (p1 &&& (2147483647 : Int32)) (3 : Int32))), .unset, .unset, .unset, .unset] [(.int (100 : Int32)), (.int (5 : Int32)), (.ref b101), (.ref b101)])) _
    refine st107 _ ?_
    show Steps p.tables e below (T107.setTop (mkF m 128 #[.val (.int p1), .val (.int (irm (p1 &&& (2147483647 : Int32)) (3 : Int32))), .unset, .unset, .unset, .unset] [(.ref b101)])) _
    refine XS.dup X107.here hx rfl (hb hby at_128) rfl rfl ?_
    show Steps p.tables e below (T107.setTop (mkF m 129 #[.val (.int p1), .val (.int (irm (p1 &&& (2147483647 : Int32)) (3 : Int32))), .unset, .unset, .unset, .unset] [(.ref b101), (.ref b101)])) _
    refine XS.bipush X107.here hx rfl (hb hby at_129) ?_
    show Steps p.tables e below (T107.setTop (mkF m 131 #[.val (.int p1), .val (.int (irm (p1 &&& (2147483647 : Int32)) (3 : Int32))), .unset, .unset, .unset, .unset] [(.int (6 : Int32)), (.ref b101), (.ref b101)])) _
    refine XS.bipush X107.here hx rfl (hb hby at_131) ?_
    show Steps p.tables e below (T107.setTop (mkF m 133 #[.val (.int p1), .val (.int (irm (p1 &&& (2147483647 : Int32)) (3 : Int32))), .unset, .unset, .unset, .unset] [(.int (45 : Int32)), (.int (6 : Int32)), (.ref b101), (.ref b101)])) _
    refine st108 _ ?_
    show Steps p.tables e below (T108.setTop (mkF m 134 #[.val (.int p1), .val (.int (irm (p1 &&& (2147483647 : Int32)) (3 : Int32))), .unset, .unset, .unset, .unset] [(.ref b101)])) _
    refine XS.dup X108.here hx rfl (hb hby at_134) rfl rfl ?_
    show Steps p.tables e below (T108.setTop (mkF m 135 #[.val (.int p1), .val (.int (irm (p1 &&& (2147483647 : Int32)) (3 : Int32))), .unset, .unset, .unset, .unset] [(.ref b101), (.ref b101)])) _
    refine XS.bipush X108.here hx rfl (hb hby at_135) ?_
    show Steps p.tables e below (T108.setTop (mkF m 137 #[.val (.int p1), .val (.int (irm (p1 &&& (2147483647 : Int32)) (3 : Int32))), .unset, .unset, .unset, .unset] [(.int (7 : Int32)), (.ref b101), (.ref b101)])) _
    refine XS.bipush X108.here hx rfl (hb hby at_137) ?_
    show Steps p.tables e below (T108.setTop (mkF m 139 #[.val (.int p1), .val (.int (irm (p1 &&& (2147483647 : Int32)) (3 : Int32))), .unset, .unset, .unset, .unset] [(.int (100 : Int32)), (.int (7 : Int32)), (.ref b101), (.ref b101)])) _
    refine st109 _ ?_
    show Steps p.tables e below (T109.setTop (mkF m 140 #[.val (.int p1), .val (.int (irm (p1 &&& (2147483647 : Int32)) (3 : Int32))), .unset, .unset, .unset, .unset] [(.ref b101)])) _
    refine XS.dup X109.here hx rfl (hb hby at_140) rfl rfl ?_
    show Steps p.tables e below (T109.setTop (mkF m 141 #[.val (.int p1), .val (.int (irm (p1 &&& (2147483647 : Int32)) (3 : Int32))), .unset, .unset, .unset, .unset] [(.ref b101), (.ref b101)])) _
    refine XS.bipush X109.here hx rfl (hb hby at_141) ?_
    show Steps p.tables e below (T109.setTop (mkF m 143 #[.val (.int p1), .val (.int (irm (p1 &&& (2147483647 : Int32)) (3 : Int32))), .unset, .unset, .unset, .unset] [(.int (8 : Int32)), (.ref b101), (.ref b101)])) _
    refine XS.bipush X109.here hx rfl (hb hby at_143) ?_
    show Steps p.tables e below (T109.setTop (mkF m 145 #[.val (.int p1), .val (.int (irm (p1 &&& (2147483647 : Int32)) (3 : Int32))), .unset, .unset, .unset, .unset] [(.int (101 : Int32)), (.int (8 : Int32)), (.ref b101), (.ref b101)])) _
    refine st110 _ ?_
    show Steps p.tables e below (T110.setTop (mkF m 146 #[.val (.int p1), .val (.int (irm (p1 &&& (2147483647 : Int32)) (3 : Int32))), .unset, .unset, .unset, .unset] [(.ref b101)])) _
    refine XS.dup X110.here hx rfl (hb hby at_146) rfl rfl ?_
    show Steps p.tables e below (T110.setTop (mkF m 147 #[.val (.int p1), .val (.int (irm (p1 &&& (2147483647 : Int32)) (3 : Int32))), .unset, .unset, .unset, .unset] [(.ref b101), (.ref b101)])) _
    refine XS.bipush X110.here hx rfl (hb hby at_147) ?_
    show Steps p.tables e below (T110.setTop (mkF m 149 #[.val (.int p1), .val (.int (irm (p1 &&& (2147483647 : Int32)) (3 : Int32))), .unset, .unset, .unset, .unset] [(.int (9 : Int32)), (.ref b101), (.ref b101)])) _
    refine XS.bipush X110.here hx rfl (hb hby at_149) ?_
    show Steps p.tables e below (T110.setTop (mkF m 151 #[.val (.int p1), .val (.int (irm (p1 &&& (2147483647 : Int32)) (3 : Int32))), .unset, .unset, .unset, .unset] [(.int (113 : Int32)), (.int (9 : Int32)), (.ref b101), (.ref b101)])) _
    refine st111 _ ?_
    show Steps p.tables e below (T111.setTop (mkF m 152 #[.val (.int p1), .val (.int (irm (p1 &&& (2147483647 : Int32)) (3 : Int32))), .unset, .unset, .unset, .unset] [(.ref b101)])) _
    refine XS.dup X111.here hx rfl (hb hby at_152) rfl rfl ?_
    show Steps p.tables e below (T111.setTop (mkF m 153 #[.val (.int p1), .val (.int (irm (p1 &&& (2147483647 : Int32)) (3 : Int32))), .unset, .unset, .unset, .unset] [(.ref b101), (.ref b101)])) _
    refine XS.bipush X111.here hx rfl (hb hby at_153) ?_
    show Steps p.tables e below (T111.setTop (mkF m 155 #[.val (.int p1), .val (.int (irm (p1 &&& (2147483647 : Int32)) (3 : Int32))), .unset, .unset, .unset, .unset] [(.int (10 : Int32)), (.ref b101), (.ref b101)])) _
    refine XS.bipush X111.here hx rfl (hb hby at_155) ?_
    show Steps p.tables e below (T111.setTop (mkF m 157 #[.val (.int p1), .val (.int (irm (p1 &&& (2147483647 : Int32)) (3 : Int32))), .unset, .unset, .unset, .unset] [(.int (117 : Int32)), (.int (10 : Int32)), (.ref b101), (.ref b101)])) _
    refine st112 _ ?_
    show Steps p.tables e below (T112.setTop (mkF m 158 #[.val (.int p1), .val (.int (irm (p1 &&& (2147483647 : Int32)) (3 : Int32))), .unset, .unset, .unset, .unset] [(.ref b101)])) _
    refine XS.dup X112.here hx rfl (hb hby at_158) rfl rfl ?_
    show Steps p.tables e below (T112.setTop (mkF m 159 #[.val (.int p1), .val (.int (irm (p1 &&& (2147483647 : Int32)) (3 : Int32))), .unset, .unset, .unset, .unset] [(.ref b101), (.ref b101)])) _
    refine XS.bipush X112.here hx rfl (hb hby at_159) ?_
    show Steps p.tables e below (T112.setTop (mkF m 161 #[.val (.int p1), .val (.int (irm (p1 &&& (2147483647 : Int32)) (3 : Int32))), .unset, .unset, .unset, .unset] [(.int (11 : Int32)), (.ref b101), (.ref b101)])) _
    refine XS.bipush X112.here hx rfl (hb hby at_161) ?_
    show Steps p.tables e below (T112.setTop (mkF m 163 #[.val (.int p1), .val (.int (irm (p1 &&& (2147483647 : Int32)) (3 : Int32))), .unset, .unset, .unset, .unset] [(.int (101 : Int32)), (.int (11 : Int32)), (.ref b101), (.ref b101)])) _
    refine st113 _ ?_
    show Steps p.tables e below (T113.setTop (mkF m 164 #[.val (.int p1), .val (.int (irm (p1 &&& (2147483647 : Int32)) (3 : Int32))), .unset, .unset, .unset, .unset] [(.ref b101)])) _
    refine XS.astoreN X113.here hx rfl (hb hby at_164) rfl rfl (l' := #[.val (.int p1), .val (.int (irm (p1 &&& (2147483647 : Int32)) (3 : Int32))), .val (.ref b101), .unset, .unset, .unset]) rfl ?_
    show Steps p.tables e below (T113.setTop (mkF m 165 #[.val (.int p1), .val (.int (irm (p1 &&& (2147483647 : Int32)) (3 : Int32))), .val (.ref b101), .unset, .unset, .unset] [])) _
    refine st114 _ ?_
    show Steps p.tables e below (T114.setTop (mkF m 168 #[.val (.int p1), .val (.int (irm (p1 &&& (2147483647 : Int32)) (3 : Int32))), .val (.ref b101), .unset, .unset, .unset] [(.ref w2)])) _
    refine XS.astoreN X114.here hx rfl (hb hby at_168) rfl rfl (l' := #[.val (.int p1), .val (.int (irm (p1 &&& (2147483647 : Int32)) (3 : Int32))), .val (.ref b101), .val (.ref w2), .unset, .unset]) rfl ?_
    show Steps p.tables e below (T114.setTop (mkF m 169 #[.val (.int p1), .val (.int (irm (p1 &&& (2147483647 : Int32)) (3 : Int32))), .val (.ref b101), .val (.ref w2), .unset, .unset] [])) _
    refine st115 _ ?_
    show Steps p.tables e below (T115.setTop (mkF m 172 #[.val (.int p1), .val (.int (irm (p1 &&& (2147483647 : Int32)) (3 : Int32))), .val (.ref b101), .val (.ref w2), .unset, .unset] [(.ref b115)])) _
    refine XS.dup X115.here hx rfl (hb hby at_172) rfl rfl ?_
    show Steps p.tables e below (T115.setTop (mkF m 173 #[.val (.int p1), .val (.int (irm (p1 &&& (2147483647 : Int32)) (3 : Int32))), .val (.ref b101), .val (.ref w2), .unset, .unset] [(.ref b115), (.ref b115)])) _
    refine XS.aloadN X115.here hx rfl (hb hby at_173) rfl rfl ?_
    show Steps p.tables e below (T115.setTop (mkF m 174 #[.val (.int p1), .val (.int (irm (p1 &&& (2147483647 : Int32)) (3 : Int32))), .val (.ref b101), .val (.ref w2), .unset, .unset] [(.ref b101), (.ref b115), (.ref b115)])) _
    refine st118.trans ?_
    show Steps p.tables e below (T118.setTop (mkF m 177 #[.val (.int p1), .val (.int (irm (p1 &&& (2147483647 : Int32)) (3 : Int32))), .val (.ref b101), .val (.ref w2), .unset, .unset] [(.ref b115)])) _
    refine XS.astore X118.here hx rfl (hb hby at_177) rfl rfl (l' := #[.val (.int p1), .val (.int (irm (p1 &&& (2147483647 : Int32)) (3 : Int32))), .val (.ref b101), .val (.ref w2), .val (.ref b115), .unset]) rfl ?_
    show Steps p.tables e below (T118.setTop (mkF m 179 #[.val (.int p1), .val (.int (irm (p1 &&& (2147483647 : Int32)) (3 : Int32))), .val (.ref b101), .val (.ref w2), .val (.ref b115), .unset] [])) _
    refine XS.aload X118.here hx rfl (hb hby at_179) rfl rfl ?_
    show Steps p.tables e below (T118.setTop (mkF m 181 #[.val (.int p1), .val (.int (irm (p1 &&& (2147483647 : Int32)) (3 : Int32))), .val (.ref b101), .val (.ref w2), .val (.ref b115), .unset] [(.ref b115)])) _
    refine st119 _ ?_
    show Steps p.tables e below (T119.setTop (mkF m 184 #[.val (.int p1), .val (.int (irm (p1 &&& (2147483647 : Int32)) (3 : Int32))), .val (.ref b101), .val (.ref w2), .val (.ref b115), .unset] [(.ref w2)])) _
    refine XS.astore X119.here hx rfl (hb hby at_184) rfl rfl (l' := #[.val (.int p1), .val (.int (irm (p1 &&& (2147483647 : Int32)) (3 : Int32))), .val (.ref b101), .val (.ref w2), .val (.ref b115), .val (.ref w2)]) rfl ?_
    show Steps p.tables e below (T119.setTop (mkF m 186 #[.val (.int p1), .val (.int (irm (p1 &&& (2147483647 : Int32)) (3 : Int32))), .val (.ref b101), .val (.ref w2), .val (.ref b115), .val (.ref w2)] [])) _
    refine XS.aload X119.here hx rfl (hb hby at_186) rfl rfl ?_
    show Steps p.tables e below (T119.setTop (mkF m 188 #[.val (.int p1), .val (.int (irm (p1 &&& (2147483647 : Int32)) (3 : Int32))), .val (.ref b101), .val (.ref w2), .val (.ref b115), .val (.ref w2)] [(.ref w2)])) _
    refine XS.aloadN X119.here hx rfl (hb hby at_188) rfl rfl ?_
    show Steps p.tables e below (T119.setTop (mkF m 189 #[.val (.int p1), .val (.int (irm (p1 &&& (2147483647 : Int32)) (3 : Int32))), .val (.ref b101), .val (.ref w2), .val (.ref b115), .val (.ref w2)] [(.ref w2), (.ref w2)])) _
    refine Jvm.RoadKit.acmp (g := (mkF m 189 #[.val (.int p1), .val (.int (irm (p1 &&& (2147483647 : Int32)) (3 : Int32))), .val (.ref b101), .val (.ref w2), .val (.ref b115), .val (.ref w2)] [(.ref w2), (.ref w2)])) X119 hx rfl rfl rfl (pc0 := 189) (pc' := 192) (same := true) rfl (hb hby at_189) rfl (decide_eq_true rfl) (by decide) (by decide) ?_
    show Steps p.tables e below (T119.setTop (mkF m 192 #[.val (.int p1), .val (.int (irm (p1 &&& (2147483647 : Int32)) (3 : Int32))), .val (.ref b101), .val (.ref w2), .val (.ref b115), .val (.ref w2)] [])) _
    refine XS.aload X119.here hx rfl (hb hby at_192) rfl rfl ?_
    show Steps p.tables e below (T119.setTop (mkF m 194 #[.val (.int p1), .val (.int (irm (p1 &&& (2147483647 : Int32)) (3 : Int32))), .val (.ref b101), .val (.ref w2), .val (.ref b115), .val (.ref w2)] [(.ref w2)])) _
    refine st120 _ ?_
    show Steps p.tables e below (T120.setTop (mkF m 197 #[.val (.int p1), .val (.int (irm (p1 &&& (2147483647 : Int32)) (3 : Int32))), .val (.ref b101), .val (.ref w2), .val (.ref b115), .val (.ref w2)] [(.ref s2)])) _
    refine XS.aload X120.here hx rfl (hb hby at_197) rfl rfl ?_
    show Steps p.tables e below (T120.setTop (mkF m 199 #[.val (.int p1), .val (.int (irm (p1 &&& (2147483647 : Int32)) (3 : Int32))), .val (.ref b101), .val (.ref w2), .val (.ref b115), .val (.ref w2)] [(.ref b115), (.ref s2)])) _
    refine st125.trans ?_
    show Steps p.tables e below (T125.setTop (mkF m 202 #[.val (.int p1), .val (.int (irm (p1 &&& (2147483647 : Int32)) (3 : Int32))), .val (.ref b101), .val (.ref w2), .val (.ref b115), .val (.ref w2)] [(.int (1 : Int32))])) _
    refine XS.ifNo X125.here hx rfl (hb hby at_202) rfl ((if0 _ _).trans (feq (by decide : ¬ ((1 : Int32) = (0 : Int32)))).1) ?_
    show Steps p.tables e below (T125.setTop (mkF m 205 #[.val (.int p1), .val (.int (irm (p1 &&& (2147483647 : Int32)) (3 : Int32))), .val (.ref b101), .val (.ref w2), .val (.ref b115), .val (.ref w2)] [])) _
    refine XS.iconst X125.here hx rfl (hb hby at_205) ?_
    show Steps p.tables e below (T125.setTop (mkF m 206 #[.val (.int p1), .val (.int (irm (p1 &&& (2147483647 : Int32)) (3 : Int32))), .val (.ref b101), .val (.ref w2), .val (.ref b115), .val (.ref w2)] [(.int (1 : Int32))])) _
    refine XS.goto X125.here hx rfl (pc0 := 206) (pc' := 210) rfl (hb hby at_206) (by decide) (by decide) ?_
    show Steps p.tables e below (T125.setTop (mkF m 210 #[.val (.int p1), .val (.int (irm (p1 &&& (2147483647 : Int32)) (3 : Int32))), .val (.ref b101), .val (.ref w2), .val (.ref b115), .val (.ref w2)] [(.int (1 : Int32))])) _
    exact retN X125 hx (t := .boolean) Bd.returns (by simp) (hb hby at_210) hr
  · show Q0 h0 n0 _ T125.heap _
    rw [e125]
    exact ⟨rfl, N125⟩
set_option maxRecDepth 65536 in
set_option maxHeartbeats 40000000 in
theorem comes_1 {Post : Tables → Env → Array Value → State → Outcome → State → Prop} (hpost : ∀ tb e args s v u, (limb_1_1.after args s (.returned v) u = true ∧ limb_1_2.after args s (.returned v) u = true ∧ True) → FrameEnd s (.returned v) u (Jvm.fieldLocs frame_1_writes args s ++ Jvm.arrayLocs frame_1_arrays args s ++ Jvm.staticLocs frame_1_statics s) 16 128 → Post tb e args s (.returned v) u) :
    ArmFor flags0 classFile x code maxLocals ret World_1 tables_1 room_1 Calls_1 rest_1 Pre_1 Post := by
  intro l hfl _ _ p e ha hc hk s m args below hf hA hF happ hP
  obtain ⟨hcalls, hrest, hpre⟩ := hP
  obtain ⟨-, -, -, hnamed, -, -, -, hat⟩ := (Spec.applies_iff hf).mp happ
  obtain ⟨hg, hn⟩ := and_e (Cond.before_iff.mp (show (Jvm.Cond.and given_1 narrow_1).before args s = true from hpre))
  obtain ⟨hcnt, hi0⟩ := and_e hg
  obtain ⟨w0, rfl⟩ : ∃ w0 : Value, args = #[w0] := by
    have hs : args.size = 1 := by simpa [Cond.value, given_1] using hcnt
    obtain ⟨L⟩ := args
    match L, hs with
    | [w0], _ => exact ⟨w0, rfl⟩
  have hw := fun d (hd : d ∈ tables_1) => atoms_spec (ws := Jvm.Cond.code x code maxLocals ret :: tables_1) hat d (List.mem_cons_of_mem _ hd)
  have hfit : Fit s := fun {y c} hc i hi => by
    obtain ⟨ha, rfl⟩ := Array.getElem?_eq_some_iff.mp hc
    have q := List.all_eq_true.mp ((Array.all_eq_true_iff_forall_mem.mp hF) _ (Array.getElem_mem ha)) i (List.mem_range.mpr hi)
    simpa [Array.getElem?_eq_getElem hi] using q
  obtain ⟨i0, ei0⟩ := is_v hi0
  obtain rfl : w0 = (.int i0) := Option.some.inj ei0
  obtain ⟨hsets, hown0⟩ := atoms_of _ (rest_1_c_eq ▸ (show rest_1_c.before _ s = true from hrest))
  obtain ⟨i_CS, ev_CS⟩ := is_v (Cond.before_iff.mp (hsets _ (List.mem_of_getElem? (i := 1) rfl)))
  have S_CS : Sta s s.heap "java/lang/String" "COMPACT_STRINGS" "Z" (.int i_CS) := Sta.start ev_CS (Or.inl (hsets _ (List.mem_of_getElem? (i := 0) rfl)))
  have hCS : ¬ (i_CS = (0 : Int32)) := gotF (Cond.eq_ints ev_CS (Term.int_eval (0))) (not_v (Cond.before_iff.mp (hsets _ (List.mem_of_getElem? (i := 2) rfl))))
  obtain ⟨l1, r1⟩ := and_e hn
  obtain ⟨l2, r2⟩ := and_e r1
  obtain ⟨l3, r3⟩ := and_e r2
  obtain ⟨l4, r4⟩ := and_e r3
  obtain ⟨l5, r5⟩ := and_e r4
  obtain ⟨l6, r6⟩ := and_e r5
  obtain ⟨l7, r7⟩ := and_e r6
  obtain ⟨l8, r8⟩ := and_e r7
  obtain ⟨l9, r9⟩ := and_e r8
  obtain ⟨l10, r10⟩ := and_e r9
  obtain ⟨l11, r11⟩ := and_e r10
  obtain ⟨l12, r12⟩ := and_e r11
  obtain ⟨l13, r13⟩ := and_e r12
  obtain ⟨l14, r14⟩ := and_e r13
  obtain ⟨l15, r15⟩ := and_e r14
  obtain ⟨l16, r16⟩ := and_e r15
  obtain ⟨l17, r17⟩ := and_e r16
  obtain ⟨l18, r18⟩ := and_e r17
  obtain ⟨l19, r19⟩ := and_e r18
  obtain ⟨l20, r20⟩ := and_e r19
  obtain ⟨l21, r21⟩ := and_e r20
  obtain ⟨l22, r22⟩ := and_e r21
  obtain ⟨l23, r23⟩ := and_e r22
  obtain ⟨l24, r24⟩ := and_e r23
  obtain ⟨l25, r25⟩ := and_e r24
  obtain ⟨l26, r26⟩ := and_e r25
  obtain ⟨l27, r27⟩ := and_e r26
  obtain ⟨l28, r28⟩ := and_e r27
  obtain ⟨l29, r29⟩ := and_e r28
  obtain ⟨l30, r30⟩ := and_e r29
  obtain ⟨l31, r31⟩ := and_e r30
  obtain ⟨l32, r32⟩ := and_e r31
  obtain ⟨l33, r33⟩ := and_e r32
  obtain ⟨l34, r34⟩ := and_e r33
  obtain ⟨l35, r35⟩ := and_e r34
  obtain ⟨l36, r36⟩ := and_e r35
  obtain ⟨l37, r37⟩ := and_e r36
  obtain ⟨l38, r38⟩ := and_e r37
  obtain ⟨l39, r39⟩ := and_e r38
  obtain ⟨l40, r40⟩ := and_e r39
  obtain ⟨l41, r41⟩ := and_e r40
  obtain ⟨l42, r42⟩ := and_e r41
  obtain ⟨l43, r43⟩ := and_e r42
  obtain ⟨w_ARRAY, ev_ARRAY⟩ := exa_v l1
  have S_ARRAY := Sta.start ev_ARRAY (Or.inr ⟨(wi hw 3 rfl), (wi hw 4 rfl)⟩)
  have E_ARRAY := Exa.start ev_ARRAY l1
  obtain ⟨w_VALUES, ev_VALUES⟩ := arr_v l2
  have S_VALUES := Sta.start ev_VALUES (Or.inr ⟨(wi hw 3 rfl), (wi hw 41 rfl)⟩)
  obtain ⟨cl_VALUES, A_VALUES⟩ := Arr.start ev_VALUES l2
  have E_VALUES := Exa.start ev_VALUES l3
  obtain ⟨lz_VALUES, le_VALUES⟩ := own_len ev_VALUES A_VALUES l4
  have el_VALUES_0 := own_elR ev_VALUES A_VALUES ev_ARRAY l5
  obtain ⟨w_LINKED, ev_LINKED⟩ := exa_v l6
  have S_LINKED := Sta.start ev_LINKED (Or.inr ⟨(wi hw 3 rfl), (wi hw 49 rfl)⟩)
  have E_LINKED := Exa.start ev_LINKED l6
  have el_VALUES_1 := own_elR ev_VALUES A_VALUES ev_LINKED l7
  obtain ⟨w_LINKED_DEQUE, ev_LINKED_DEQUE⟩ := exa_v l8
  have S_LINKED_DEQUE := Sta.start ev_LINKED_DEQUE (Or.inr ⟨(wi hw 3 rfl), (wi hw 50 rfl)⟩)
  have E_LINKED_DEQUE := Exa.start ev_LINKED_DEQUE l8
  have el_VALUES_2 := own_elR ev_VALUES A_VALUES ev_LINKED_DEQUE l9
  obtain ⟨w_ARRAY_mWord, ev_ARRAY_mWord⟩ := exa_v l10
  have P_ARRAY_mWord := Fld.start ((fld_at ev_ARRAY).symm.trans ev_ARRAY_mWord)
  have E_ARRAY_mWord := Exa.start ev_ARRAY_mWord l10
  have F_coder_ARRAY_mWord := own_fldI ev_ARRAY_mWord l11
  obtain ⟨w_ARRAY_mWord_value, ev_ARRAY_mWord_value⟩ := arr_v l12
  have P_ARRAY_mWord_value := Fld.start ((fld_at ev_ARRAY_mWord).symm.trans ev_ARRAY_mWord_value)
  obtain ⟨cl_ARRAY_mWord_value, A_ARRAY_mWord_value⟩ := Arr.start ev_ARRAY_mWord_value l12
  obtain ⟨lz_ARRAY_mWord_value, le_ARRAY_mWord_value⟩ := own_len ev_ARRAY_mWord_value A_ARRAY_mWord_value l13
  obtain ⟨w_LINKED_mWord, ev_LINKED_mWord⟩ := exa_v l14
  have P_LINKED_mWord := Fld.start ((fld_at ev_LINKED).symm.trans ev_LINKED_mWord)
  have E_LINKED_mWord := Exa.start ev_LINKED_mWord l14
  have F_coder_LINKED_mWord := own_fldI ev_LINKED_mWord l15
  obtain ⟨w_LINKED_mWord_value, ev_LINKED_mWord_value⟩ := arr_v l16
  have P_LINKED_mWord_value := Fld.start ((fld_at ev_LINKED_mWord).symm.trans ev_LINKED_mWord_value)
  obtain ⟨cl_LINKED_mWord_value, A_LINKED_mWord_value⟩ := Arr.start ev_LINKED_mWord_value l16
  obtain ⟨lz_LINKED_mWord_value, le_LINKED_mWord_value⟩ := own_len ev_LINKED_mWord_value A_LINKED_mWord_value l17
  obtain ⟨w_LINKED_DEQUE_mWord, ev_LINKED_DEQUE_mWord⟩ := exa_v l18
  have P_LINKED_DEQUE_mWord := Fld.start ((fld_at ev_LINKED_DEQUE).symm.trans ev_LINKED_DEQUE_mWord)
  have E_LINKED_DEQUE_mWord := Exa.start ev_LINKED_DEQUE_mWord l18
  have F_coder_LINKED_DEQUE_mWord := own_fldI ev_LINKED_DEQUE_mWord l19
  obtain ⟨w_LINKED_DEQUE_mWord_value, ev_LINKED_DEQUE_mWord_value⟩ := arr_v l20
  have P_LINKED_DEQUE_mWord_value := Fld.start ((fld_at ev_LINKED_DEQUE_mWord).symm.trans ev_LINKED_DEQUE_mWord_value)
  obtain ⟨cl_LINKED_DEQUE_mWord_value, A_LINKED_DEQUE_mWord_value⟩ := Arr.start ev_LINKED_DEQUE_mWord_value l20
  obtain ⟨lz_LINKED_DEQUE_mWord_value, le_LINKED_DEQUE_mWord_value⟩ := own_len ev_LINKED_DEQUE_mWord_value A_LINKED_DEQUE_mWord_value l21
  have el_ARRAY_mWord_value_0 := own_elI ev_ARRAY_mWord_value A_ARRAY_mWord_value l22
  have el_ARRAY_mWord_value_1 := own_elI ev_ARRAY_mWord_value A_ARRAY_mWord_value l23
  have el_ARRAY_mWord_value_2 := own_elI ev_ARRAY_mWord_value A_ARRAY_mWord_value l24
  have el_ARRAY_mWord_value_3 := own_elI ev_ARRAY_mWord_value A_ARRAY_mWord_value l25
  have el_ARRAY_mWord_value_4 := own_elI ev_ARRAY_mWord_value A_ARRAY_mWord_value l26
  have el_LINKED_mWord_value_0 := own_elI ev_LINKED_mWord_value A_LINKED_mWord_value l27
  have el_LINKED_mWord_value_1 := own_elI ev_LINKED_mWord_value A_LINKED_mWord_value l28
  have el_LINKED_mWord_value_2 := own_elI ev_LINKED_mWord_value A_LINKED_mWord_value l29
  have el_LINKED_mWord_value_3 := own_elI ev_LINKED_mWord_value A_LINKED_mWord_value l30
  have el_LINKED_mWord_value_4 := own_elI ev_LINKED_mWord_value A_LINKED_mWord_value l31
  have el_LINKED_mWord_value_5 := own_elI ev_LINKED_mWord_value A_LINKED_mWord_value l32
  have el_LINKED_DEQUE_mWord_value_0 := own_elI ev_LINKED_DEQUE_mWord_value A_LINKED_DEQUE_mWord_value l33
  have el_LINKED_DEQUE_mWord_value_1 := own_elI ev_LINKED_DEQUE_mWord_value A_LINKED_DEQUE_mWord_value l34
  have el_LINKED_DEQUE_mWord_value_2 := own_elI ev_LINKED_DEQUE_mWord_value A_LINKED_DEQUE_mWord_value l35
  have el_LINKED_DEQUE_mWord_value_3 := own_elI ev_LINKED_DEQUE_mWord_value A_LINKED_DEQUE_mWord_value l36
  have el_LINKED_DEQUE_mWord_value_4 := own_elI ev_LINKED_DEQUE_mWord_value A_LINKED_DEQUE_mWord_value l37
  have el_LINKED_DEQUE_mWord_value_5 := own_elI ev_LINKED_DEQUE_mWord_value A_LINKED_DEQUE_mWord_value l38
  have el_LINKED_DEQUE_mWord_value_6 := own_elI ev_LINKED_DEQUE_mWord_value A_LINKED_DEQUE_mWord_value l39
  have el_LINKED_DEQUE_mWord_value_7 := own_elI ev_LINKED_DEQUE_mWord_value A_LINKED_DEQUE_mWord_value l40
  have el_LINKED_DEQUE_mWord_value_8 := own_elI ev_LINKED_DEQUE_mWord_value A_LINKED_DEQUE_mWord_value l41
  have el_LINKED_DEQUE_mWord_value_9 := own_elI ev_LINKED_DEQUE_mWord_value A_LINKED_DEQUE_mWord_value l42
  have el_LINKED_DEQUE_mWord_value_10 := own_elI ev_LINKED_DEQUE_mWord_value A_LINKED_DEQUE_mWord_value l43
  have el_LINKED_DEQUE_mWord_value_11 := own_elI ev_LINKED_DEQUE_mWord_value A_LINKED_DEQUE_mWord_value r43
  have V_VALUES : Arv s s.heap w_VALUES cl_VALUES.cls (.object "dev/tryst/tool/Workload$QueueKind") (3 : Int32) [(.ref w_ARRAY), (.ref w_LINKED), (.ref w_LINKED_DEQUE)] .null := Arv.start hfit A_VALUES lz_VALUES le_VALUES (by decide) rfl ⟨el_VALUES_0, el_VALUES_1, el_VALUES_2, trivial⟩
  have V_ARRAY_mWord_value : Arv s s.heap w_ARRAY_mWord_value cl_ARRAY_mWord_value.cls .byte (5 : Int32) [(.int (97 : Int32)), (.int (114 : Int32)), (.int (114 : Int32)), (.int (97 : Int32)), (.int (121 : Int32))] (.int (0 : Int32)) := Arv.start hfit A_ARRAY_mWord_value lz_ARRAY_mWord_value le_ARRAY_mWord_value (by decide) rfl ⟨el_ARRAY_mWord_value_0, el_ARRAY_mWord_value_1, el_ARRAY_mWord_value_2, el_ARRAY_mWord_value_3, el_ARRAY_mWord_value_4, trivial⟩
  have V_LINKED_mWord_value : Arv s s.heap w_LINKED_mWord_value cl_LINKED_mWord_value.cls .byte (6 : Int32) [(.int (108 : Int32)), (.int (105 : Int32)), (.int (110 : Int32)), (.int (107 : Int32)), (.int (101 : Int32)), (.int (100 : Int32))] (.int (0 : Int32)) := Arv.start hfit A_LINKED_mWord_value lz_LINKED_mWord_value le_LINKED_mWord_value (by decide) rfl ⟨el_LINKED_mWord_value_0, el_LINKED_mWord_value_1, el_LINKED_mWord_value_2, el_LINKED_mWord_value_3, el_LINKED_mWord_value_4, el_LINKED_mWord_value_5, trivial⟩
  have V_LINKED_DEQUE_mWord_value : Arv s s.heap w_LINKED_DEQUE_mWord_value cl_LINKED_DEQUE_mWord_value.cls .byte (12 : Int32) [(.int (108 : Int32)), (.int (105 : Int32)), (.int (110 : Int32)), (.int (107 : Int32)), (.int (101 : Int32)), (.int (100 : Int32)), (.int (45 : Int32)), (.int (100 : Int32)), (.int (101 : Int32)), (.int (113 : Int32)), (.int (117 : Int32)), (.int (101 : Int32))] (.int (0 : Int32)) := Arv.start hfit A_LINKED_DEQUE_mWord_value lz_LINKED_DEQUE_mWord_value le_LINKED_DEQUE_mWord_value (by decide) rfl ⟨el_LINKED_DEQUE_mWord_value_0, el_LINKED_DEQUE_mWord_value_1, el_LINKED_DEQUE_mWord_value_2, el_LINKED_DEQUE_mWord_value_3, el_LINKED_DEQUE_mWord_value_4, el_LINKED_DEQUE_mWord_value_5, el_LINKED_DEQUE_mWord_value_6, el_LINKED_DEQUE_mWord_value_7, el_LINKED_DEQUE_mWord_value_8, el_LINKED_DEQUE_mWord_value_9, el_LINKED_DEQUE_mWord_value_10, el_LINKED_DEQUE_mWord_value_11, trivial⟩
  have T_ARRAY_mWord : Str s s.heap w_ARRAY_mWord ([(97 : Int32), (114 : Int32), (114 : Int32), (97 : Int32), (121 : Int32)] : List Int32) := ⟨_, _, _, _, E_ARRAY_mWord, P_ARRAY_mWord_value, F_coder_ARRAY_mWord, V_ARRAY_mWord_value, Or.inl ⟨rfl, rfl, rfl, by decide⟩, by decide, by decide⟩
  have T_LINKED_mWord : Str s s.heap w_LINKED_mWord ([(108 : Int32), (105 : Int32), (110 : Int32), (107 : Int32), (101 : Int32), (100 : Int32)] : List Int32) := ⟨_, _, _, _, E_LINKED_mWord, P_LINKED_mWord_value, F_coder_LINKED_mWord, V_LINKED_mWord_value, Or.inl ⟨rfl, rfl, rfl, by decide⟩, by decide, by decide⟩
  have T_LINKED_DEQUE_mWord : Str s s.heap w_LINKED_DEQUE_mWord ([(108 : Int32), (105 : Int32), (110 : Int32), (107 : Int32), (101 : Int32), (100 : Int32), (45 : Int32), (100 : Int32), (101 : Int32), (113 : Int32), (117 : Int32), (101 : Int32)] : List Int32) := ⟨_, _, _, _, E_LINKED_DEQUE_mWord, P_LINKED_DEQUE_mWord_value, F_coder_LINKED_DEQUE_mWord, V_LINKED_DEQUE_mWord_value, Or.inl ⟨rfl, rfl, rfl, by decide⟩, by decide, by decide⟩
  have key : MetFree l x (head1 (Jvm.Cond.code x code maxLocals ret :: tables_1) room_1) (fun a U => a = #[(.int i0)] ∧ s.Warmed39 U.vm ∧ U.heap = s.heap) (fun _ _ _ _ _ => True) (fun _ U o U' => ∃ v L, o = .returned v ∧ Q0 s.heap s.heap.size v U'.heap L ∧ FrameEnd U o U' L room_1.cells room_1.slots) := by
    by_cases k0 : (irm (i0 &&& (2147483647 : Int32)) (3 : Int32)) = 0
    · exact rm0_0 l s _ hw tables_1 i0 i_CS cl_VALUES.cls w_VALUES w_ARRAY w_LINKED w_LINKED_DEQUE w_ARRAY_mWord w_LINKED_mWord w_LINKED_DEQUE_mWord s.heap s.heap.size (Old.start s) S_CS hCS S_VALUES V_VALUES E_VALUES P_ARRAY_mWord P_LINKED_mWord P_LINKED_DEQUE_mWord T_ARRAY_mWord T_LINKED_mWord T_LINKED_DEQUE_mWord S_ARRAY k0
    by_cases k1 : (irm (i0 &&& (2147483647 : Int32)) (3 : Int32)) = 1
    · exact rm0_1 l s _ hw tables_1 i0 i_CS cl_VALUES.cls w_VALUES w_ARRAY w_LINKED w_LINKED_DEQUE w_ARRAY_mWord w_LINKED_mWord w_LINKED_DEQUE_mWord s.heap s.heap.size (Old.start s) S_CS hCS S_VALUES V_VALUES E_VALUES P_ARRAY_mWord P_LINKED_mWord P_LINKED_DEQUE_mWord T_ARRAY_mWord T_LINKED_mWord T_LINKED_DEQUE_mWord S_LINKED k0 k1
    · exact rm0_2 l s _ hw tables_1 i0 i_CS cl_VALUES.cls w_VALUES w_ARRAY w_LINKED w_LINKED_DEQUE w_ARRAY_mWord w_LINKED_mWord w_LINKED_DEQUE_mWord s.heap s.heap.size (Old.start s) S_CS hCS S_VALUES V_VALUES E_VALUES P_ARRAY_mWord P_LINKED_mWord P_LINKED_DEQUE_mWord T_ARRAY_mWord T_LINKED_mWord T_LINKED_DEQUE_mWord S_LINKED_DEQUE k0 k1
  obtain ⟨n, o, h1, h2, h3, _, L, rfl, ⟨rfl, N⟩, hq⟩ := key p e ha hc hk s m _ below hf ((Spec.applies_iff_loose hf).mp happ).1 ⟨rfl, State.Warmed39.refl s, rfl⟩ trivial
  refine ⟨n, _, h1, h2, h3, hpost _ _ _ _ _ _ ⟨Cond.after_iff.mpr rfl, Cond.after_iff.mpr (eq_i res_at (Term.int_eval (1)) rfl), trivial⟩ ⟨hq.1, hq.2.1, (hq.2.2.sift fun y hy => Or.inr (N y hy)).mono (by decide) (by decide)⟩⟩
theorem main_1_1 : Claimed_1_1 := comes_1 fun _ _ _ _ _ _ h hF => ⟨h.1, hF⟩
theorem main_1_2 : Claimed_1_2 := comes_1 fun _ _ _ _ _ _ h hF => ⟨h.2.1, hF⟩
end Jvm.Pilot.@@N@@
namespace Jvm.Pilot.@@N@@
open Jvm Jvm.ClassFile Sem Op Lib Jvm.Free Jvm.Stand Jvm.Pilot.@@N@@.Jvm.D
/-! MADE BY PROGRAM (witnessworld.py) out of the Statement's table words and the real class files: 22 classes; the members and pool entries that the words name. The judged class is class 1, her method 1. -/
namespace start1
open Jvm.ClassFile
def u (s : String) : CpInfo := .utf8 (stringToUtf16 s)
/-- a pool by its gaps: so many unusable entries, then the entry; so many at the end -/
def gap : Nat → List CpInfo → List CpInfo
  | 0, r => r
  | n + 1, r => .unusable :: gap n r
def poolList (es : List (Nat × CpInfo)) (last : Nat) : List CpInfo := es.foldr (fun e r => gap e.1 (e.2 :: r)) (gap last [])
def pool (es : List (Nat × CpInfo)) (last : Nat) : Array CpInfo := ⟨poolList es last⟩
def fileOf (pool : Array CpInfo) (this : Nat) (attrs : Array Attribute := #[]) (ms : Array MethodInfo := #[]) (fl : Nat := 33) (sup : Nat := 0) (ifs : Array Nat := #[]) (fds : Array FieldInfo := #[]) : ClassFile where
  minorVersion := 0
  majorVersion := 65
  constantPool := pool
  accessFlags := fl
  thisClass := this
  superClass := sup
  interfaces := ifs
  fields := fds
  methods := ms
  attributes := attrs
def plain (name : String) (sup : Option ClassId) : Class where
  name := name
  kind := .ordinary
  loader := none
  accessFlags := 33
  super := sup
  interfaces := #[]
  cf := none
  fields := #[]
  methods := #[]
  instanceTypes := #[]
  staticTypes := #[]
  resolved := #[]
  callSites := []
  init := .initialized
  statics := none
  mirror := none

def pool0 : Array CpInfo := pool [(5, u "<init>"), (0, u "()V"), (1, .class_ 10), (1, u "java/lang/Object"), (85, u "clone"), (0, u "()Ljava/lang/Object;")] 26

def k0c0 : Code := { maxStack := 0, maxLocals := 1, code := object_method_1_code, exceptionTable := #[], attributes := #[] }
def k0m0 : Method := { name := "<init>", desc := "()V", sig := { parameters := [], returnType := none }, accessFlags := 1, code := some k0c0 }
def k0m1 : Method := { name := "clone", desc := "()Ljava/lang/Object;", sig := { parameters := [], returnType := some (.object "java/lang/Object") }, accessFlags := 260, code := none }
/-- java/lang/Object -/
def k0 : Class := { plain "java/lang/Object" none with
  accessFlags := 33
  interfaces := #[]
  cf := some (fileOf pool0 8 #[] #[{ accessFlags := 1, nameIndex := 5, descriptorIndex := 6, attributes := #[] }, { accessFlags := 260, nameIndex := 96, descriptorIndex := 97, attributes := #[] }] 33 0 #[] #[])
  fields := #[]
  methods := #[k0m0, k0m1]
  instanceTypes := #[]
  staticTypes := #[]
  resolved := Array.replicate 124 none
  statics := none }

def pool1 : Array CpInfo := pool [(2, .class_ 4), (1, u "java/lang/Object"), (0, u "<init>"), (0, u "()V"), (0, .integer 2147483647), (0, .fieldref 9 10), (0, .class_ 11), (0, .nameAndType 12 13), (0, u "dev/tryst/tool/Workload$QueueKind"), (0, u "ARRAY"), (0, u "Ldev/tryst/tool/Workload$QueueKind;"), (0, .fieldref 9 15), (0, .nameAndType 16 13), (0, u "LINKED"), (0, .fieldref 9 18), (0, .nameAndType 19 13), (0, u "LINKED_DEQUE"), (0, .class_ 21), (0, u "java/lang/String"), (0, .methodref 20 23), (0, .nameAndType 5 24), (0, u "([C)V"), (0, .methodref 9 26), (0, .nameAndType 27 28), (0, u "of"), (0, u "(Ljava/lang/String;)Ldev/tryst/tool/Workload$QueueKind;"), (0, .fieldref 9 30), (0, .nameAndType 31 32), (0, u "mWord"), (0, u "Ljava/lang/String;"), (0, .methodref 20 34), (0, .nameAndType 35 36), (0, u "equals"), (0, u "(Ljava/lang/Object;)Z"), (0, .class_ 38), (0, u "dev/tryst/tool/QueueKindOfPinLaw"), (2, u "law"), (0, u "(I)Z")] 9

def k1m0 : Method := { name := "<init>", desc := "()V", sig := { parameters := [], returnType := none }, accessFlags := 1, code := none }
def k1c1 : Code := { maxStack := 4, maxLocals := 6, code := code, exceptionTable := #[], attributes := #[] }
def k1m1 : Method := { name := "law", desc := "(I)Z", sig := { parameters := [.int], returnType := some .boolean }, accessFlags := 9, code := some k1c1 }
/-- dev/tryst/tool/QueueKindOfPinLaw -/
def k1 : Class := { plain "dev/tryst/tool/QueueKindOfPinLaw" (some 0) with
  accessFlags := 49
  interfaces := #[]
  cf := some (fileOf pool1 37 #[] #[{ accessFlags := 1, nameIndex := 5, descriptorIndex := 6, attributes := #[] }, { accessFlags := 9, nameIndex := 41, descriptorIndex := 42, attributes := #[] }] 49 2 #[] #[])
  fields := #[]
  methods := #[k1m0, k1m1]
  instanceTypes := #[]
  staticTypes := #[]
  resolved := Array.replicate 52 none
  statics := none }

def pool2 : Array CpInfo := pool [(1, .class_ 2), (0, u "java/lang/constant/Constable"), (0, .class_ 4), (0, u "java/lang/Object")] 6

/-- java/lang/constant/Constable -/
def k2 : Class := { plain "java/lang/constant/Constable" (some 0) with
  accessFlags := 1537
  interfaces := #[]
  cf := some (fileOf pool2 1 #[] #[] 1537 3 #[] #[])
  fields := #[]
  methods := #[]
  instanceTypes := #[]
  staticTypes := #[]
  resolved := Array.replicate 11 none
  statics := none }

def pool3 : Array CpInfo := pool [(1, .class_ 2), (0, u "java/lang/Comparable"), (0, .class_ 4), (0, u "java/lang/Object")] 7

/-- java/lang/Comparable -/
def k3 : Class := { plain "java/lang/Comparable" (some 0) with
  accessFlags := 1537
  interfaces := #[]
  cf := some (fileOf pool3 1 #[] #[] 1537 3 #[] #[])
  fields := #[]
  methods := #[]
  instanceTypes := #[]
  staticTypes := #[]
  resolved := Array.replicate 12 none
  statics := none }

def pool4 : Array CpInfo := pool [(1, .class_ 2), (0, u "java/io/Serializable"), (0, .class_ 4), (0, u "java/lang/Object")] 2

/-- java/io/Serializable -/
def k4 : Class := { plain "java/io/Serializable" (some 0) with
  accessFlags := 1537
  interfaces := #[]
  cf := some (fileOf pool4 1 #[] #[] 1537 3 #[] #[])
  fields := #[]
  methods := #[]
  instanceTypes := #[]
  staticTypes := #[]
  resolved := Array.replicate 7 none
  statics := none }

def pool5 : Array CpInfo := pool [(2, .class_ 4), (1, u "java/lang/Enum"), (0, u "name"), (0, u "Ljava/lang/String;"), (2, u "ordinal"), (0, u "I"), (1, .class_ 14), (1, u "java/lang/Object"), (4, u "hash"), (86, .class_ 108), (1, u "java/lang/Enum$EnumDesc"), (2, .class_ 112), (0, u "java/lang/constant/Constable"), (0, .class_ 114), (0, u "java/lang/Comparable"), (0, .class_ 116), (0, u "java/io/Serializable")] 87

/-- java/lang/Enum -/
def k5 : Class := { plain "java/lang/Enum" (some 0) with
  accessFlags := 1057
  interfaces := #[2, 3, 4]
  cf := some (fileOf pool5 2 #[.nestMembers #[106]] #[] 1057 12 #[111, 113, 115] #[{ accessFlags := 18, nameIndex := 5, descriptorIndex := 6, attributes := #[] }, { accessFlags := 18, nameIndex := 9, descriptorIndex := 10, attributes := #[] }, { accessFlags := 2, nameIndex := 19, descriptorIndex := 10, attributes := #[] }])
  fields := #[{ name := "name", type := (.object "java/lang/String"), accessFlags := 18, slot := 0, constantValue := 0 }, { name := "ordinal", type := .int, accessFlags := 18, slot := 1, constantValue := 0 }, { name := "hash", type := .int, accessFlags := 2, slot := 2, constantValue := 0 }]
  methods := #[]
  instanceTypes := #[(.object "java/lang/String"), .int, .int]
  staticTypes := #[]
  resolved := Array.replicate 204 none
  statics := none }

def pool6 : Array CpInfo := pool [(1, .class_ 2), (0, u "dev/tryst/tool/Workload$QueueKind"), (2, u "ARRAY"), (0, u "Ldev/tryst/tool/Workload$QueueKind;"), (2, u "LINKED"), (2, u "LINKED_DEQUE"), (0, .fieldref 1 14), (0, .nameAndType 15 16), (0, u "$VALUES"), (0, u "[Ldev/tryst/tool/Workload$QueueKind;"), (0, .methodref 18 19), (0, .class_ 16), (0, .nameAndType 20 21), (0, u "clone"), (0, u "()Ljava/lang/Object;"), (1, .class_ 25), (1, u "java/lang/Enum"), (6, .fieldref 1 33), (0, .nameAndType 34 35), (0, u "mWord"), (0, u "Ljava/lang/String;"), (2, u "mQueue"), (0, u "Ljava/util/function/Supplier;"), (0, .methodref 1 41), (0, .nameAndType 42 43), (0, u "values"), (0, u "()[Ldev/tryst/tool/Workload$QueueKind;"), (0, .class_ 45), (0, u "java/lang/String"), (0, .methodref 44 47), (0, .nameAndType 48 49), (0, u "equals"), (0, u "(Ljava/lang/Object;)Z"), (45, u "(Ljava/lang/String;)Ldev/tryst/tool/Workload$QueueKind;"), (7, u "of"), (10, .class_ 115), (0, u "dev/tryst/tool/Workload")] 34

def k6c0 : Code := { maxStack := 1, maxLocals := 0, code := prog_40_method_1_code, exceptionTable := #[], attributes := #[] }
def k6m0 : Method := { name := "values", desc := "()[Ldev/tryst/tool/Workload$QueueKind;", sig := { parameters := [], returnType := some (.array (.object "dev/tryst/tool/Workload$QueueKind")) }, accessFlags := 9, code := some k6c0 }
def k6c1 : Code := { maxStack := 3, maxLocals := 5, code := prog_40_method_5_code, exceptionTable := #[], attributes := #[] }
def k6m1 : Method := { name := "of", desc := "(Ljava/lang/String;)Ldev/tryst/tool/Workload$QueueKind;", sig := { parameters := [(.object "java/lang/String")], returnType := some (.object "dev/tryst/tool/Workload$QueueKind") }, accessFlags := 8, code := some k6c1 }
/-- dev/tryst/tool/Workload$QueueKind -/
def k6 : Class := { plain "dev/tryst/tool/Workload$QueueKind" (some 5) with
  accessFlags := 16432
  interfaces := #[]
  cf := some (fileOf pool6 1 #[.nestHost 114] #[{ accessFlags := 9, nameIndex := 42, descriptorIndex := 43, attributes := #[] }, { accessFlags := 8, nameIndex := 103, descriptorIndex := 95, attributes := #[] }] 16432 23 #[] #[{ accessFlags := 16409, nameIndex := 5, descriptorIndex := 6, attributes := #[] }, { accessFlags := 16409, nameIndex := 9, descriptorIndex := 6, attributes := #[] }, { accessFlags := 16409, nameIndex := 12, descriptorIndex := 6, attributes := #[] }, { accessFlags := 16, nameIndex := 34, descriptorIndex := 35, attributes := #[] }, { accessFlags := 18, nameIndex := 38, descriptorIndex := 39, attributes := #[] }, { accessFlags := 4122, nameIndex := 15, descriptorIndex := 16, attributes := #[] }])
  fields := #[{ name := "ARRAY", type := (.object "dev/tryst/tool/Workload$QueueKind"), accessFlags := 16409, slot := 0, constantValue := 0 }, { name := "LINKED", type := (.object "dev/tryst/tool/Workload$QueueKind"), accessFlags := 16409, slot := 1, constantValue := 0 }, { name := "LINKED_DEQUE", type := (.object "dev/tryst/tool/Workload$QueueKind"), accessFlags := 16409, slot := 2, constantValue := 0 }, { name := "mWord", type := (.object "java/lang/String"), accessFlags := 16, slot := 3, constantValue := 0 }, { name := "mQueue", type := (.object "java/util/function/Supplier"), accessFlags := 18, slot := 4, constantValue := 0 }, { name := "$VALUES", type := (.array (.object "dev/tryst/tool/Workload$QueueKind")), accessFlags := 4122, slot := 3, constantValue := 0 }]
  methods := #[k6m0, k6m1]
  instanceTypes := #[(.object "java/lang/String"), .int, .int, (.object "java/lang/String"), (.object "java/util/function/Supplier")]
  staticTypes := #[(.object "dev/tryst/tool/Workload$QueueKind"), (.object "dev/tryst/tool/Workload$QueueKind"), (.object "dev/tryst/tool/Workload$QueueKind"), (.array (.object "dev/tryst/tool/Workload$QueueKind"))]
  resolved := Array.replicate 150 none
  statics := some 0 }

def pool7 : Array CpInfo := pool [(2, .class_ 4), (1, u "java/lang/CharSequence"), (42, .class_ 48), (0, u "java/lang/CharSequence$1CodePointIterator"), (10, .class_ 60), (0, u "java/lang/CharSequence$1CharIterator"), (5, .class_ 67), (0, u "java/lang/Object")] 63

/-- java/lang/CharSequence -/
def k7 : Class := { plain "java/lang/CharSequence" (some 0) with
  accessFlags := 1537
  interfaces := #[]
  cf := some (fileOf pool7 2 #[.nestMembers #[47, 59]] #[] 1537 66 #[] #[])
  fields := #[]
  methods := #[]
  instanceTypes := #[]
  staticTypes := #[]
  resolved := Array.replicate 131 none
  statics := none }

def pool8 : Array CpInfo := pool [(1, .class_ 2), (0, u "java/lang/constant/ConstantDesc"), (0, .class_ 4), (0, u "java/lang/Object")] 32

/-- java/lang/constant/ConstantDesc -/
def k8 : Class := { plain "java/lang/constant/ConstantDesc" (some 0) with
  accessFlags := 1537
  interfaces := #[]
  cf := some (fileOf pool8 1 #[] #[] 1537 3 #[] #[])
  fields := #[]
  methods := #[]
  instanceTypes := #[]
  staticTypes := #[]
  resolved := Array.replicate 37 none
  statics := none }

def pool9 : Array CpInfo := pool [(1, .methodref 2 3), (0, .class_ 4), (0, .nameAndType 5 6), (0, u "java/lang/Object"), (0, u "<init>"), (0, u "()V"), (2, .fieldref 10 11), (0, .class_ 12), (0, .nameAndType 13 14), (0, u "java/lang/String"), (0, u "value"), (0, u "[B"), (0, .fieldref 10 16), (0, .nameAndType 17 18), (0, u "coder"), (0, u "B"), (2, u "hash"), (0, u "I"), (2, u "hashIsZero"), (0, u "Z"), (0, .methodref 10 28), (0, .nameAndType 5 29), (0, u "([CIILjava/lang/Void;)V"), (8, .fieldref 10 39), (0, .nameAndType 40 26), (0, u "COMPACT_STRINGS"), (1, .class_ 44), (1, u "java/lang/StringUTF16"), (0, u "compress"), (1, .methodref 42 48), (0, .nameAndType 49 50), (0, u "coderFromArrayLen"), (0, u "([BI)B"), (56, .class_ 109), (1, u "java/lang/StringLatin1"), (67, .methodref 42 178), (0, .nameAndType 45 179), (0, u "([CII)[B"), (361, .methodref 107 542), (0, .nameAndType 543 544), (0, u "equals"), (0, u "([B[B)Z"), (28, u "(Ljava/lang/Object;)Z"), (1, .class_ 576), (0, u "java/lang/CharSequence"), (22, u "CASE_INSENSITIVE_ORDER"), (0, u "Ljava/util/Comparator;"), (409, u "([C)V"), (90, u "serialPersistentFields"), (0, u "[Ljava/io/ObjectStreamField;"), (0, .class_ 1104), (0, u "java/lang/String$CaseInsensitiveComparator"), (1, .class_ 1107), (0, u "java/io/Serializable"), (0, .class_ 1109), (0, u "java/lang/Comparable"), (0, .class_ 1111), (0, u "java/lang/constant/Constable"), (0, .class_ 1113), (0, u "java/lang/constant/ConstantDesc"), (2, u "serialVersionUID"), (0, u "J"), (3, u "REPL"), (0, u "C"), (2, u "LATIN1"), (1, u "UTF16")] 323

def k9m0 : Method := { name := "<init>", desc := "()V", sig := { parameters := [], returnType := none }, accessFlags := 1, code := none }
def k9c1 : Code := { maxStack := 5, maxLocals := 2, code := jdk_42_method_3_code, exceptionTable := #[], attributes := #[] }
def k9m1 : Method := { name := "<init>", desc := "([C)V", sig := { parameters := [(.array .char)], returnType := none }, accessFlags := 1, code := some k9c1 }
def k9c2 : Code := { maxStack := 2, maxLocals := 3, code := jdk_42_method_66_code, exceptionTable := #[], attributes := #[] }
def k9m2 : Method := { name := "equals", desc := "(Ljava/lang/Object;)Z", sig := { parameters := [(.object "java/lang/Object")], returnType := some .boolean }, accessFlags := 1, code := some k9c2 }
def k9c3 : Code := { maxStack := 4, maxLocals := 6, code := jdk_42_method_149_code, exceptionTable := #[], attributes := #[] }
def k9m3 : Method := { name := "<init>", desc := "([CIILjava/lang/Void;)V", sig := { parameters := [(.array .char), .int, .int, (.object "java/lang/Void")], returnType := none }, accessFlags := 2, code := some k9c3 }
/-- java/lang/String -/
def k9 : Class := { plain "java/lang/String" (some 0) with
  accessFlags := 49
  interfaces := #[4, 3, 7, 2, 8]
  cf := some (fileOf pool9 10 #[.nestMembers #[1103]] #[{ accessFlags := 1, nameIndex := 5, descriptorIndex := 6, attributes := #[] }, { accessFlags := 1, nameIndex := 5, descriptorIndex := 1010, attributes := #[] }, { accessFlags := 1, nameIndex := 543, descriptorIndex := 573, attributes := #[] }, { accessFlags := 2, nameIndex := 5, descriptorIndex := 29, attributes := #[] }] 49 2 #[1106, 1108, 575, 1110, 1112] #[{ accessFlags := 18, nameIndex := 13, descriptorIndex := 14, attributes := #[] }, { accessFlags := 18, nameIndex := 17, descriptorIndex := 18, attributes := #[] }, { accessFlags := 2, nameIndex := 21, descriptorIndex := 22, attributes := #[] }, { accessFlags := 2, nameIndex := 25, descriptorIndex := 26, attributes := #[] }, { accessFlags := 26, nameIndex := 1116, descriptorIndex := 1117, attributes := #[] }, { accessFlags := 24, nameIndex := 40, descriptorIndex := 26, attributes := #[] }, { accessFlags := 26, nameIndex := 1101, descriptorIndex := 1102, attributes := #[] }, { accessFlags := 26, nameIndex := 1121, descriptorIndex := 1122, attributes := #[] }, { accessFlags := 25, nameIndex := 599, descriptorIndex := 600, attributes := #[] }, { accessFlags := 24, nameIndex := 1125, descriptorIndex := 18, attributes := #[] }, { accessFlags := 24, nameIndex := 1127, descriptorIndex := 18, attributes := #[] }])
  fields := #[{ name := "value", type := (.array .byte), accessFlags := 18, slot := 0, constantValue := 0 }, { name := "coder", type := .byte, accessFlags := 18, slot := 1, constantValue := 0 }, { name := "hash", type := .int, accessFlags := 2, slot := 2, constantValue := 0 }, { name := "hashIsZero", type := .boolean, accessFlags := 2, slot := 3, constantValue := 0 }, { name := "serialVersionUID", type := .long, accessFlags := 26, slot := 0, constantValue := 0 }, { name := "COMPACT_STRINGS", type := .boolean, accessFlags := 24, slot := 1, constantValue := 0 }, { name := "serialPersistentFields", type := (.array (.object "java/io/ObjectStreamField")), accessFlags := 26, slot := 2, constantValue := 0 }, { name := "REPL", type := .char, accessFlags := 26, slot := 3, constantValue := 0 }, { name := "CASE_INSENSITIVE_ORDER", type := (.object "java/util/Comparator"), accessFlags := 25, slot := 4, constantValue := 0 }, { name := "LATIN1", type := .byte, accessFlags := 24, slot := 5, constantValue := 0 }, { name := "UTF16", type := .byte, accessFlags := 24, slot := 6, constantValue := 0 }]
  methods := #[k9m0, k9m1, k9m2, k9m3]
  instanceTypes := #[(.array .byte), .byte, .int, .boolean]
  staticTypes := #[.long, .boolean, (.array (.object "java/io/ObjectStreamField")), .char, (.object "java/util/Comparator"), .byte, .byte]
  resolved := Array.replicate 1451 none
  statics := some 1 }

def pool10 : Array CpInfo := pool [(6, .class_ 8), (1, u "java/lang/Object"), (0, u "<init>"), (0, u "()V"), (1, .class_ 14), (1, u "java/lang/StringUTF16"), (31, u "$assertionsDisabled"), (0, u "Z"), (13, u "HI_BYTE_SHIFT"), (0, u "I"), (2, u "LO_BYTE_SHIFT"), (49, .methodref 12 116), (0, .nameAndType 117 118), (0, u "compress"), (0, u "([CI[BII)I"), (3, u "([CII)[B"), (138, u "coderFromArrayLen"), (0, u "([BI)B"), (106, .class_ 371), (1, u "java/lang/StringUTF16$LinesSpliterator"), (58, u "MAX_LENGTH"), (196, .class_ 628), (0, u "java/lang/StringUTF16$CodePointsSpliterator"), (0, .class_ 630), (0, u "java/lang/StringUTF16$CharsSpliterator")] 4

def k10m0 : Method := { name := "<init>", desc := "()V", sig := { parameters := [], returnType := none }, accessFlags := 0, code := none }
def k10c1 : Code := { maxStack := 2, maxLocals := 2, code := jdk_52_method_15_code, exceptionTable := #[], attributes := #[] }
def k10m1 : Method := { name := "coderFromArrayLen", desc := "([BI)B", sig := { parameters := [(.array .byte), .int], returnType := some .byte }, accessFlags := 8, code := some k10c1 }
def k10c2 : Code := { maxStack := 5, maxLocals := 6, code := jdk_52_method_16_code, exceptionTable := #[], attributes := #[] }
def k10m2 : Method := { name := "compress", desc := "([CII)[B", sig := { parameters := [(.array .char), .int, .int], returnType := some (.array .byte) }, accessFlags := 9, code := some k10c2 }
def k10c3 : Code := { maxStack := 3, maxLocals := 7, code := jdk_52_method_21_code, exceptionTable := #[], attributes := #[] }
def k10m3 : Method := { name := "compress", desc := "([CI[BII)I", sig := { parameters := [(.array .char), .int, (.array .byte), .int, .int], returnType := some .int }, accessFlags := 9, code := some k10c3 }
/-- java/lang/StringUTF16 -/
def k10 : Class := { plain "java/lang/StringUTF16" (some 0) with
  accessFlags := 48
  interfaces := #[]
  cf := some (fileOf pool10 12 #[.nestMembers #[627, 629, 369]] #[{ accessFlags := 0, nameIndex := 9, descriptorIndex := 10, attributes := #[] }, { accessFlags := 8, nameIndex := 261, descriptorIndex := 262, attributes := #[] }, { accessFlags := 9, nameIndex := 117, descriptorIndex := 122, attributes := #[] }, { accessFlags := 9, nameIndex := 117, descriptorIndex := 118, attributes := #[] }] 48 6 #[] #[{ accessFlags := 26, nameIndex := 61, descriptorIndex := 62, attributes := #[] }, { accessFlags := 26, nameIndex := 65, descriptorIndex := 62, attributes := #[] }, { accessFlags := 24, nameIndex := 430, descriptorIndex := 62, attributes := #[] }, { accessFlags := 4120, nameIndex := 46, descriptorIndex := 47, attributes := #[] }])
  fields := #[{ name := "HI_BYTE_SHIFT", type := .int, accessFlags := 26, slot := 0, constantValue := 0 }, { name := "LO_BYTE_SHIFT", type := .int, accessFlags := 26, slot := 1, constantValue := 0 }, { name := "MAX_LENGTH", type := .int, accessFlags := 24, slot := 2, constantValue := 0 }, { name := "$assertionsDisabled", type := .boolean, accessFlags := 4120, slot := 3, constantValue := 0 }]
  methods := #[k10m0, k10m1, k10m2, k10m3]
  instanceTypes := #[]
  staticTypes := #[.int, .int, .int, .boolean]
  resolved := Array.replicate 635 none
  statics := none }

def pool11 : Array CpInfo := pool [(1, .class_ 2), (0, u "java/lang/Cloneable"), (0, .class_ 4), (0, u "java/lang/Object")] 2

/-- java/lang/Cloneable -/
def k11 : Class := { plain "java/lang/Cloneable" (some 0) with
  accessFlags := 1537
  interfaces := #[]
  cf := some (fileOf pool11 1 #[] #[] 1537 3 #[] #[])
  fields := #[]
  methods := #[]
  instanceTypes := #[]
  staticTypes := #[]
  resolved := Array.replicate 7 none
  statics := none }

def pool12 : Array CpInfo := pool [(4, .class_ 6), (1, u "java/lang/Object"), (0, u "<init>"), (0, u "()V"), (5, .class_ 16), (1, u "java/lang/StringLatin1"), (104, u "$assertionsDisabled"), (0, u "Z"), (98, .class_ 223), (1, u "java/lang/StringLatin1$LinesSpliterator"), (57, u "equals"), (0, u "([B[B)Z"), (107, .class_ 391), (0, u "java/lang/StringLatin1$CharsSpliterator")] 3

def k12m0 : Method := { name := "<init>", desc := "()V", sig := { parameters := [], returnType := none }, accessFlags := 0, code := none }
def k12c1 : Code := { maxStack := 3, maxLocals := 3, code := jdk_43_method_13_code, exceptionTable := #[], attributes := #[] }
def k12m1 : Method := { name := "equals", desc := "([B[B)Z", sig := { parameters := [(.array .byte), (.array .byte)], returnType := some .boolean }, accessFlags := 9, code := some k12c1 }
/-- java/lang/StringLatin1 -/
def k12 : Class := { plain "java/lang/StringLatin1" (some 0) with
  accessFlags := 48
  interfaces := #[]
  cf := some (fileOf pool12 14 #[.nestMembers #[390, 221]] #[{ accessFlags := 0, nameIndex := 7, descriptorIndex := 8, attributes := #[] }, { accessFlags := 9, nameIndex := 281, descriptorIndex := 282, attributes := #[] }] 48 4 #[] #[{ accessFlags := 4120, nameIndex := 121, descriptorIndex := 122, attributes := #[] }])
  fields := #[{ name := "$assertionsDisabled", type := .boolean, accessFlags := 4120, slot := 0, constantValue := 0 }]
  methods := #[k12m0, k12m1]
  instanceTypes := #[]
  staticTypes := #[.boolean]
  resolved := Array.replicate 395 none
  statics := none }

def pool13 : Array CpInfo := pool [(2, .class_ 4), (1, u "java/lang/Object"), (0, u "<init>"), (0, u "()V"), (17, .class_ 26), (1, u "jdk/internal/util/Preconditions"), (28, .class_ 56), (0, u "jdk/internal/util/Preconditions$4"), (57, .class_ 115), (0, u "jdk/internal/util/Preconditions$1"), (7, u "SIOOBE_FORMATTER"), (0, u "Ljava/util/function/BiFunction;"), (0, .class_ 126), (0, u "jdk/internal/util/Preconditions$2"), (3, u "AIOOBE_FORMATTER"), (0, .class_ 132), (0, u "jdk/internal/util/Preconditions$3"), (3, u "IOOBE_FORMATTER")] 57

def k13m0 : Method := { name := "<init>", desc := "()V", sig := { parameters := [], returnType := none }, accessFlags := 1, code := none }
/-- jdk/internal/util/Preconditions -/
def k13 : Class := { plain "jdk/internal/util/Preconditions" (some 0) with
  accessFlags := 33
  interfaces := #[]
  cf := some (fileOf pool13 24 #[.nestMembers #[55, 131, 125, 114]] #[{ accessFlags := 1, nameIndex := 5, descriptorIndex := 6, attributes := #[] }] 33 2 #[] #[{ accessFlags := 25, nameIndex := 123, descriptorIndex := 124, attributes := #[] }, { accessFlags := 25, nameIndex := 130, descriptorIndex := 124, attributes := #[] }, { accessFlags := 25, nameIndex := 136, descriptorIndex := 124, attributes := #[] }])
  fields := #[{ name := "SIOOBE_FORMATTER", type := (.object "java/util/function/BiFunction"), accessFlags := 25, slot := 0, constantValue := 0 }, { name := "AIOOBE_FORMATTER", type := (.object "java/util/function/BiFunction"), accessFlags := 25, slot := 1, constantValue := 0 }, { name := "IOOBE_FORMATTER", type := (.object "java/util/function/BiFunction"), accessFlags := 25, slot := 2, constantValue := 0 }]
  methods := #[k13m0]
  instanceTypes := #[]
  staticTypes := #[(.object "java/util/function/BiFunction"), (.object "java/util/function/BiFunction"), (.object "java/util/function/BiFunction")]
  resolved := Array.replicate 194 none
  statics := some 2 }

def pool14 : Array CpInfo := pool [(9, u "<init>"), (6, .class_ 18), (1, u "java/lang/Object"), (0, u "()V"), (1, .class_ 23), (1, u "jdk/internal/util/ArraysSupport"), (0, u "LOG2_ARRAY_LONG_INDEX_SCALE"), (0, u "I"), (2, u "U"), (0, u "Ljdk/internal/misc/Unsafe;"), (8, u "BIG_ENDIAN"), (0, u "Z"), (8, u "LOG2_BYTE_BIT_SIZE"), (4, u "LOG2_ARRAY_INT_INDEX_SCALE"), (54, u "JLA"), (0, u "Ljdk/internal/access/JavaLangAccess;"), (11, u "LOG2_ARRAY_BOOLEAN_INDEX_SCALE"), (9, u "LOG2_ARRAY_BYTE_INDEX_SCALE"), (5, u "LOG2_ARRAY_CHAR_INDEX_SCALE"), (5, u "LOG2_ARRAY_SHORT_INDEX_SCALE"), (18, u "LOG2_ARRAY_FLOAT_INDEX_SCALE"), (24, u "LOG2_ARRAY_DOUBLE_INDEX_SCALE"), (89, u "T_BOOLEAN"), (2, u "T_CHAR"), (1, u "T_FLOAT"), (1, u "T_DOUBLE"), (1, u "T_BYTE"), (1, u "T_SHORT"), (1, u "T_INT"), (1, u "T_LONG"), (1, u "SOFT_MAX_ARRAY_LENGTH")] 83

def k14m0 : Method := { name := "<init>", desc := "()V", sig := { parameters := [], returnType := none }, accessFlags := 2, code := none }
/-- jdk/internal/util/ArraysSupport -/
def k14 : Class := { plain "jdk/internal/util/ArraysSupport" (some 0) with
  accessFlags := 33
  interfaces := #[]
  cf := some (fileOf pool14 21 #[] #[{ accessFlags := 2, nameIndex := 9, descriptorIndex := 19, attributes := #[] }] 33 16 #[] #[{ accessFlags := 24, nameIndex := 28, descriptorIndex := 29, attributes := #[] }, { accessFlags := 26, nameIndex := 38, descriptorIndex := 39, attributes := #[] }, { accessFlags := 25, nameIndex := 121, descriptorIndex := 25, attributes := #[] }, { accessFlags := 25, nameIndex := 131, descriptorIndex := 25, attributes := #[] }, { accessFlags := 25, nameIndex := 137, descriptorIndex := 25, attributes := #[] }, { accessFlags := 25, nameIndex := 143, descriptorIndex := 25, attributes := #[] }, { accessFlags := 25, nameIndex := 53, descriptorIndex := 25, attributes := #[] }, { accessFlags := 25, nameIndex := 24, descriptorIndex := 25, attributes := #[] }, { accessFlags := 25, nameIndex := 162, descriptorIndex := 25, attributes := #[] }, { accessFlags := 25, nameIndex := 187, descriptorIndex := 25, attributes := #[] }, { accessFlags := 26, nameIndex := 48, descriptorIndex := 25, attributes := #[] }, { accessFlags := 25, nameIndex := 277, descriptorIndex := 25, attributes := #[] }, { accessFlags := 25, nameIndex := 280, descriptorIndex := 25, attributes := #[] }, { accessFlags := 25, nameIndex := 282, descriptorIndex := 25, attributes := #[] }, { accessFlags := 25, nameIndex := 284, descriptorIndex := 25, attributes := #[] }, { accessFlags := 25, nameIndex := 286, descriptorIndex := 25, attributes := #[] }, { accessFlags := 25, nameIndex := 288, descriptorIndex := 25, attributes := #[] }, { accessFlags := 25, nameIndex := 290, descriptorIndex := 25, attributes := #[] }, { accessFlags := 25, nameIndex := 292, descriptorIndex := 25, attributes := #[] }, { accessFlags := 26, nameIndex := 108, descriptorIndex := 109, attributes := #[] }, { accessFlags := 25, nameIndex := 294, descriptorIndex := 25, attributes := #[] }])
  fields := #[{ name := "U", type := (.object "jdk/internal/misc/Unsafe"), accessFlags := 24, slot := 0, constantValue := 0 }, { name := "BIG_ENDIAN", type := .boolean, accessFlags := 26, slot := 1, constantValue := 0 }, { name := "LOG2_ARRAY_BOOLEAN_INDEX_SCALE", type := .int, accessFlags := 25, slot := 2, constantValue := 0 }, { name := "LOG2_ARRAY_BYTE_INDEX_SCALE", type := .int, accessFlags := 25, slot := 3, constantValue := 0 }, { name := "LOG2_ARRAY_CHAR_INDEX_SCALE", type := .int, accessFlags := 25, slot := 4, constantValue := 0 }, { name := "LOG2_ARRAY_SHORT_INDEX_SCALE", type := .int, accessFlags := 25, slot := 5, constantValue := 0 }, { name := "LOG2_ARRAY_INT_INDEX_SCALE", type := .int, accessFlags := 25, slot := 6, constantValue := 0 }, { name := "LOG2_ARRAY_LONG_INDEX_SCALE", type := .int, accessFlags := 25, slot := 7, constantValue := 0 }, { name := "LOG2_ARRAY_FLOAT_INDEX_SCALE", type := .int, accessFlags := 25, slot := 8, constantValue := 0 }, { name := "LOG2_ARRAY_DOUBLE_INDEX_SCALE", type := .int, accessFlags := 25, slot := 9, constantValue := 0 }, { name := "LOG2_BYTE_BIT_SIZE", type := .int, accessFlags := 26, slot := 10, constantValue := 0 }, { name := "T_BOOLEAN", type := .int, accessFlags := 25, slot := 11, constantValue := 0 }, { name := "T_CHAR", type := .int, accessFlags := 25, slot := 12, constantValue := 0 }, { name := "T_FLOAT", type := .int, accessFlags := 25, slot := 13, constantValue := 0 }, { name := "T_DOUBLE", type := .int, accessFlags := 25, slot := 14, constantValue := 0 }, { name := "T_BYTE", type := .int, accessFlags := 25, slot := 15, constantValue := 0 }, { name := "T_SHORT", type := .int, accessFlags := 25, slot := 16, constantValue := 0 }, { name := "T_INT", type := .int, accessFlags := 25, slot := 17, constantValue := 0 }, { name := "T_LONG", type := .int, accessFlags := 25, slot := 18, constantValue := 0 }, { name := "JLA", type := (.object "jdk/internal/access/JavaLangAccess"), accessFlags := 26, slot := 19, constantValue := 0 }, { name := "SOFT_MAX_ARRAY_LENGTH", type := .int, accessFlags := 25, slot := 20, constantValue := 0 }]
  methods := #[k14m0]
  instanceTypes := #[]
  staticTypes := #[(.object "jdk/internal/misc/Unsafe"), .boolean, .int, .int, .int, .int, .int, .int, .int, .int, .int, .int, .int, .int, .int, .int, .int, .int, .int, (.object "jdk/internal/access/JavaLangAccess"), .int]
  resolved := Array.replicate 378 none
  statics := none }

/-- the primitive byte -/
def k15 : Class := { plain "byte" none with kind := .primitive 'B', accessFlags := 0x411 }
/-- [B -/
def k16 : Class := { plain "[B" (some 0) with kind := .array 15 .byte, interfaces := #[11, 4], accessFlags := 1041 }

/-- the primitive char -/
def k17 : Class := { plain "char" none with kind := .primitive 'C', accessFlags := 0x411 }
/-- [C -/
def k18 : Class := { plain "[C" (some 0) with kind := .array 17 .char, interfaces := #[11, 4], accessFlags := 1041 }

/-- the primitive int -/
def k19 : Class := { plain "int" none with kind := .primitive 'I', accessFlags := 0x411 }
/-- [I -/
def k20 : Class := { plain "[I" (some 0) with kind := .array 19 .int, interfaces := #[11, 4], accessFlags := 1041 }

/-- [Ldev/tryst/tool/Workload$QueueKind; -/
def k21 : Class := { plain "[Ldev/tryst/tool/Workload$QueueKind;" (some 0) with kind := .array 6 (.object "dev/tryst/tool/Workload$QueueKind"), interfaces := #[11, 4], accessFlags := 1041 }

def heap : Heap := #[{ cls := 6, slots := #[.ref 4, .ref 5, .ref 6, .ref 3], vm := .statics 6 },
  { cls := 9, slots := #[.long 0, .int 1, .null, .int 0, .null, .int 0, .int 0], vm := .statics 9 },
  { cls := 13, slots := #[.null, .null, .null], vm := .statics 13 },
  { cls := 21, slots := #[.ref 4, .ref 5, .ref 6], vm := .none },
  { cls := 6, slots := #[.null, .int 0, .int 0, .ref 7, .null], vm := .none },
  { cls := 6, slots := #[.null, .int 0, .int 0, .ref 9, .null], vm := .none },
  { cls := 6, slots := #[.null, .int 0, .int 0, .ref 11, .null], vm := .none },
  { cls := 9, slots := #[.ref 8, .int 0, .int 0, .int 0], vm := .none },
  { cls := 16, slots := #[.int 97, .int 114, .int 114, .int 97, .int 121], vm := .none },
  { cls := 9, slots := #[.ref 10, .int 0, .int 0, .int 0], vm := .none },
  { cls := 16, slots := #[.int 108, .int 105, .int 110, .int 107, .int 101, .int 100], vm := .none },
  { cls := 9, slots := #[.ref 12, .int 0, .int 0, .int 0], vm := .none },
  { cls := 16, slots := #[.int 108, .int 105, .int 110, .int 107, .int 101, .int 100, .int 45, .int 100, .int 101, .int 113, .int 117, .int 101], vm := .none }]
def classes : Array Class := #[k0, k1, k2, k3, k4, k5, k6, k7, k8, k9, k10, k11, k12, k13, k14, k15, k16, k17, k18, k19, k20, k21]
def interned : List (Array UInt16 × Addr) := []
def slotsUsed : Nat := 67
def theMethod : MethodId := ⟨1, 1⟩
def args0 : Array Value := #[.int 5]
def aboutOver (below : List Frame) : State where
  vm := { classes := classes, interned := interned.toArray }
  heap := heap
  slotsUsed := slotsUsed
  threads := #[{ frames := .invoking theMethod args0 :: below }]
def below0 : List Frame := [.native { method := ⟨0, 0⟩, args := #[] }]
def about1 : State := aboutOver below0
def p0 : Program := .bare "" "" ""
def e0 : Env := launch0.env 0 0 0
theorem w_frames : about1.frames = Frame.invoking theMethod args0 :: below0 := rfl
set_option maxRecDepth 65536 in
theorem w_args : argsFit about1.vm theMethod args0 = true := by decide +kernel
set_option maxRecDepth 65536 in
theorem w_heap : heapFits about1 = true := by decide +kernel
set_option maxRecDepth 65536 in
theorem w_runnable : about1.curStatus? = some .runnable := by decide +kernel
set_option maxRecDepth 65536 in
theorem w_alone : about1.alone = true := by decide +kernel
set_option maxRecDepth 65536 in
theorem w_named : about1.methodNamed? x = some theMethod := by decide +kernel
set_option maxRecDepth 65536 in
theorem w_hears : about1.hears theMethod below0 = true := by decide +kernel
set_option maxRecDepth 65536 in
theorem w_ripe : about1.ripe theMethod args0 below0 = true := by decide +kernel
theorem w_running : about1.status = .running := rfl
set_option maxRecDepth 65536 in
theorem w_room : about1.hasRoom e0.platform room_1 = true :=
  launch0.hasRoom_least _ room_1 (by decide +kernel) (by decide +kernel) (by decide +kernel) (by decide +kernel) (by decide +kernel) (by decide +kernel)
theorem allAtoms_all (ts : List Jvm.Cond) (a : Array Jvm.Value) (st : Jvm.State) : (allAtoms ts).before a st = ts.all (fun c => c.before a st) := by
  induction ts with
  | nil => rfl
  | cons c t ih =>
    show (Jvm.Cond.and c (allAtoms t)).before a st = _
    rw [Jvm.Cond.before_and, ih, List.all_cons]
def words1 : List Jvm.Cond := Jvm.Cond.code x code maxLocals ret :: tables_1
/-- a 'code' word, met by the world's own term for the bytes: nothing is compared byte by byte -/
theorem code_word {y : MethodName} {bytes : ByteArray} {mx : Nat} {rt : Option FieldType} {a : Array Value} {s : State} {m : MethodId} {meth : Method} {c : Code} (h1 : s.methodNamed? y = some m) (h2 : s.vm.method? m = some meth) (h3 : meth.code = some c) (h4 : c.code = bytes)
    (h5 : (c.maxLocals == mx && c.exceptionTable.isEmpty && decide (c.maxStack ≤ mostOperands) && decide (meth.sig.returnType = rt) && !meth.locks && decide (parseMethodDescriptor y.desc = some meth.sig)) = true) : (Jvm.Cond.code y bytes mx rt).before a s = true := by
  simp only [Bool.and_eq_true, beq_iff_eq, Bool.not_eq_true', decide_eq_true_eq] at h5
  obtain ⟨⟨⟨⟨⟨g1, g2⟩, g3⟩, g4⟩, g5⟩, g6⟩ := h5
  simp [Cond.before, Cond.holds, Cond.value, h1, h2, h3, h4, g1, g2, g3, g4, g5, g6]
def isCode : Jvm.Cond → Bool
  | .code _ _ _ _ => true
  | _ => false
theorem all_split {L : List Jvm.Cond} {P : Jvm.Cond → Bool} (h1 : L.all (fun c => isCode c || P c) = true) (h2 : ∀ c ∈ L.filter isCode, P c = true) : L.all P = true := by
  refine List.all_eq_true.mpr fun c hc => ?_
  have h := List.all_eq_true.mp h1 c hc
  rcases Bool.eq_false_or_eq_true (isCode c) with hi | hi
  · exact h2 c (List.mem_filter.mpr ⟨hc, hi⟩)
  · simpa [hi] using h
set_option maxRecDepth 65536 in
theorem w_c0 : (Jvm.Cond.code x code maxLocals ret).before args0 about1 = true := code_word (m := ⟨1, 1⟩) (meth := k1m1) (c := k1c1) (by decide +kernel) rfl rfl rfl (by decide +kernel)
set_option maxRecDepth 65536 in
theorem w_c1 : (Jvm.Cond.code ({ cls := "java/lang/String", name := "<init>", desc := "([C)V" } : Jvm.MethodName) jdk_42_method_3_code (2 : Nat) (Option.none : Option Jvm.ClassFile.FieldType)).before args0 about1 = true := code_word (m := ⟨9, 1⟩) (meth := k9m1) (c := k9c1) (by decide +kernel) rfl rfl rfl (by decide +kernel)
set_option maxRecDepth 65536 in
theorem w_c2 : (Jvm.Cond.code ({ cls := "java/lang/String", name := "<init>", desc := "([CIILjava/lang/Void;)V" } : Jvm.MethodName) jdk_42_method_149_code (6 : Nat) (Option.none : Option Jvm.ClassFile.FieldType)).before args0 about1 = true := code_word (m := ⟨9, 3⟩) (meth := k9m3) (c := k9c3) (by decide +kernel) rfl rfl rfl (by decide +kernel)
set_option maxRecDepth 65536 in
theorem w_c3 : (Jvm.Cond.code ({ cls := "java/lang/Object", name := "<init>", desc := "()V" } : Jvm.MethodName) object_method_1_code (1 : Nat) (Option.none : Option Jvm.ClassFile.FieldType)).before args0 about1 = true := code_word (m := ⟨0, 0⟩) (meth := k0m0) (c := k0c0) (by decide +kernel) rfl rfl rfl (by decide +kernel)
set_option maxRecDepth 65536 in
theorem w_c4 : (Jvm.Cond.code ({ cls := "java/lang/StringUTF16", name := "compress", desc := "([CII)[B" } : Jvm.MethodName) jdk_52_method_16_code (6 : Nat) (Option.some (Jvm.ClassFile.FieldType.array Jvm.ClassFile.FieldType.byte))).before args0 about1 = true := code_word (m := ⟨10, 2⟩) (meth := k10m2) (c := k10c2) (by decide +kernel) rfl rfl rfl (by decide +kernel)
set_option maxRecDepth 65536 in
theorem w_c5 : (Jvm.Cond.code ({ cls := "java/lang/StringUTF16", name := "compress", desc := "([CI[BII)I" } : Jvm.MethodName) jdk_52_method_21_code (7 : Nat) (Option.some Jvm.ClassFile.FieldType.int)).before args0 about1 = true := code_word (m := ⟨10, 3⟩) (meth := k10m3) (c := k10c3) (by decide +kernel) rfl rfl rfl (by decide +kernel)
set_option maxRecDepth 65536 in
theorem w_c6 : (Jvm.Cond.code ({ cls := "java/lang/StringUTF16", name := "coderFromArrayLen", desc := "([BI)B" } : Jvm.MethodName) jdk_52_method_15_code (2 : Nat) (Option.some Jvm.ClassFile.FieldType.byte)).before args0 about1 = true := code_word (m := ⟨10, 1⟩) (meth := k10m1) (c := k10c1) (by decide +kernel) rfl rfl rfl (by decide +kernel)
set_option maxRecDepth 65536 in
theorem w_c7 : (Jvm.Cond.code ({ cls := "dev/tryst/tool/Workload$QueueKind", name := "of", desc := "(Ljava/lang/String;)Ldev/tryst/tool/Workload$QueueKind;" } : Jvm.MethodName) prog_40_method_5_code (5 : Nat) (Option.some (Jvm.ClassFile.FieldType.object "dev/tryst/tool/Workload$QueueKind"))).before args0 about1 = true := code_word (m := ⟨6, 1⟩) (meth := k6m1) (c := k6c1) (by decide +kernel) rfl rfl rfl (by decide +kernel)
set_option maxRecDepth 65536 in
theorem w_c8 : (Jvm.Cond.code ({ cls := "dev/tryst/tool/Workload$QueueKind", name := "values", desc := "()[Ldev/tryst/tool/Workload$QueueKind;" } : Jvm.MethodName) prog_40_method_1_code (0 : Nat) (Option.some (Jvm.ClassFile.FieldType.array (Jvm.ClassFile.FieldType.object "dev/tryst/tool/Workload$QueueKind")))).before args0 about1 = true := code_word (m := ⟨6, 0⟩) (meth := k6m0) (c := k6c0) (by decide +kernel) rfl rfl rfl (by decide +kernel)
set_option maxRecDepth 65536 in
theorem w_c9 : (Jvm.Cond.code ({ cls := "java/lang/String", name := "equals", desc := "(Ljava/lang/Object;)Z" } : Jvm.MethodName) jdk_42_method_66_code (3 : Nat) (Option.some Jvm.ClassFile.FieldType.boolean)).before args0 about1 = true := code_word (m := ⟨9, 2⟩) (meth := k9m2) (c := k9c2) (by decide +kernel) rfl rfl rfl (by decide +kernel)
set_option maxRecDepth 65536 in
theorem w_c10 : (Jvm.Cond.code ({ cls := "java/lang/StringLatin1", name := "equals", desc := "([B[B)Z" } : Jvm.MethodName) jdk_43_method_13_code (3 : Nat) (Option.some Jvm.ClassFile.FieldType.boolean)).before args0 about1 = true := code_word (m := ⟨12, 1⟩) (meth := k12m1) (c := k12c1) (by decide +kernel) rfl rfl rfl (by decide +kernel)
def codes1 : List Jvm.Cond := [Jvm.Cond.code x code maxLocals ret, Jvm.Cond.code ({ cls := "java/lang/String", name := "<init>", desc := "([C)V" } : Jvm.MethodName) jdk_42_method_3_code (2 : Nat) (Option.none : Option Jvm.ClassFile.FieldType), Jvm.Cond.code ({ cls := "java/lang/String", name := "<init>", desc := "([CIILjava/lang/Void;)V" } : Jvm.MethodName) jdk_42_method_149_code (6 : Nat) (Option.none : Option Jvm.ClassFile.FieldType), Jvm.Cond.code ({ cls := "java/lang/Object", name := "<init>", desc := "()V" } : Jvm.MethodName) object_method_1_code (1 : Nat) (Option.none : Option Jvm.ClassFile.FieldType), Jvm.Cond.code ({ cls := "java/lang/StringUTF16", name := "compress", desc := "([CII)[B" } : Jvm.MethodName) jdk_52_method_16_code (6 : Nat) (Option.some (Jvm.ClassFile.FieldType.array Jvm.ClassFile.FieldType.byte)), Jvm.Cond.code ({ cls := "java/lang/StringUTF16", name := "compress", desc := "([CI[BII)I" } : Jvm.MethodName) jdk_52_method_21_code (7 : Nat) (Option.some Jvm.ClassFile.FieldType.int), Jvm.Cond.code ({ cls := "java/lang/StringUTF16", name := "coderFromArrayLen", desc := "([BI)B" } : Jvm.MethodName) jdk_52_method_15_code (2 : Nat) (Option.some Jvm.ClassFile.FieldType.byte), Jvm.Cond.code ({ cls := "dev/tryst/tool/Workload$QueueKind", name := "of", desc := "(Ljava/lang/String;)Ldev/tryst/tool/Workload$QueueKind;" } : Jvm.MethodName) prog_40_method_5_code (5 : Nat) (Option.some (Jvm.ClassFile.FieldType.object "dev/tryst/tool/Workload$QueueKind")), Jvm.Cond.code ({ cls := "dev/tryst/tool/Workload$QueueKind", name := "values", desc := "()[Ldev/tryst/tool/Workload$QueueKind;" } : Jvm.MethodName) prog_40_method_1_code (0 : Nat) (Option.some (Jvm.ClassFile.FieldType.array (Jvm.ClassFile.FieldType.object "dev/tryst/tool/Workload$QueueKind"))), Jvm.Cond.code ({ cls := "java/lang/String", name := "equals", desc := "(Ljava/lang/Object;)Z" } : Jvm.MethodName) jdk_42_method_66_code (3 : Nat) (Option.some Jvm.ClassFile.FieldType.boolean), Jvm.Cond.code ({ cls := "java/lang/StringLatin1", name := "equals", desc := "([B[B)Z" } : Jvm.MethodName) jdk_43_method_13_code (3 : Nat) (Option.some Jvm.ClassFile.FieldType.boolean)]
set_option maxRecDepth 65536 in
theorem codes_eq : words1.filter isCode = codes1 := rfl
theorem w_codes : ∀ c ∈ words1.filter isCode, c.before args0 about1 = true := by
  rw [codes_eq]
  intro c hc
  simp only [codes1, List.mem_cons, List.not_mem_nil, or_false] at hc
  rcases hc with rfl | rfl | rfl | rfl | rfl | rfl | rfl | rfl | rfl | rfl | rfl
  · exact w_c0
  · exact w_c1
  · exact w_c2
  · exact w_c3
  · exact w_c4
  · exact w_c5
  · exact w_c6
  · exact w_c7
  · exact w_c8
  · exact w_c9
  · exact w_c10
set_option maxRecDepth 65536 in
theorem w_t1 : (words1.take 24).all (fun c => isCode c || c.before args0 about1) = true := by decide +kernel
set_option maxRecDepth 65536 in
theorem w_t2 : ((words1.drop 24).take 24).all (fun c => isCode c || c.before args0 about1) = true := by decide +kernel
set_option maxRecDepth 65536 in
theorem w_t3 : ((words1.drop 24).drop 24).all (fun c => isCode c || c.before args0 about1) = true := by decide +kernel
theorem w_tables : (allAtoms (Jvm.Cond.code x code maxLocals ret :: tables_1)).before args0 about1 = true := by
  rw [allAtoms_all]
  show words1.all (fun c => c.before args0 about1) = true
  refine all_split ?_ w_codes
  rw [← List.take_append_drop 24 words1, List.all_append, w_t1, ← List.take_append_drop 24 (words1.drop 24), List.all_append, w_t2, w_t3]
  rfl
set_option maxRecDepth 65536 in
theorem w_rest : rest_1_c.before args0 about1 = true := by decide +kernel
set_option maxRecDepth 65536 in
theorem w_case : (Jvm.Cond.and given_1 narrow_1).before args0 about1 = true := by decide +kernel
theorem w_applies : (headSpec (Jvm.Cond.code x code maxLocals ret :: tables_1) room_1).applies x e0.platform about1 = true :=
  (Spec.applies_iff w_frames).mpr ⟨w_running, w_runnable, w_alone, w_named, w_hears, w_ripe, w_room, w_tables⟩
theorem atStart : AtStart classFile x code maxLocals ret World_1 tables_1 room_1 Calls_1 rest_1 Pre_1 launch0 p0 e0 about1 theMethod args0 below0 :=
  ⟨lists_1, trivial, launch0.admits_env _ _ _, launch0.least_env, fairChoices_fair.cas, fairChoices_fair.clock, w_frames, w_args, w_heap, w_applies, trivial, w_rest, w_case⟩
end start1
theorem witness_1 : WitnessClaimed_1 := ⟨start1.p0, start1.e0, start1.about1, start1.theMethod, start1.args0, start1.below0, start1.atStart⟩
end Jvm.Pilot.@@N@@
