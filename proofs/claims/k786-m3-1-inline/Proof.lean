import JvmDerived
import JvmDerived.Pilot.@@N@@Statement
import JvmDerived.Pilot.@@N@@Code
set_option linter.unusedVariables false
set_option linter.unusedSimpArgs false
namespace Jvm.RoadKit
open Sem ClassFile Op Lib Jvm.Stand Jvm.Free Jvm.LawKit
section New
variable {p : Program} {l : Launch} {e : Env} {R : Room} {s : State} {m : MethodId} {args : Array Value} {below : List Frame} {meth : Method} {c : Code} {T : State} {locs : List Loc} {cells slots : Nat}
theorem retI (X : Stand p l e R s m args below meth c T locs cells slots) (hx : p.tables.exec = Jvm.exec) {pc : Nat} {Ls : Array Slot} {z : Int32} {rest : List Value} (hret : meth.sig.returnType = some .int) (hd : decode c.code pc = .ok (.ireturn, 1)) {fs : List Frame}
    (hl : ∀ (f : JFrame) (acts : List Action), f.method = m → f.locked = none → f.entered = [] → (doReturn e (T.setTop f) acts (some (.int z))).1 = T.setFrames fs) : Steps p.tables e below (T.setTop (mkF m pc Ls (.int z :: rest))) (T.setFrames fs) := by
  have hm' : T.vm.method? m = some meth := X.method'
  have hn : narrow .int (.int z) = .int z := rfl
  show Steps p.tables e below (T.setTop { method := m, pc := pc, locals := Ls, stack := _ :: rest, locked := none }) _
  jvm_step X.here [X.here.top, hx, hd, hm', hret, hn]
  first | (intro acts; rw [hl _ acts rfl rfl rfl]) | rw [hl _ _ rfl rfl rfl]
  exact Steps.refl _
end New
end Jvm.RoadKit
/- laws to paste: Road.backV, Road.lenW, Road.chN, Road.codOf (cut by pick.py; bodies as the Statement names them) -/
namespace Jvm.Pilot.@@N@@
namespace StrChars
open Jvm Sem ClassFile Op Lib Jvm.Stand Jvm.Free.XT Jvm.Free.ALB Jvm.Free.JM Jvm.Free
open Jvm.Lib.Cold (StaticIs)
/-- a char array whose places are chars -/
def Ch (a : Addr) (A : Cell) (U : State) : Prop := Arr .char a A U ∧ Typed .char A
theorem Ch.mv {a : Addr} {A : Cell} {U U' : State} (h : Ch a A U) (hal : U.vm.Alike U'.vm) (hh : U'.heap = U.heap) : Ch a A U' := ⟨h.1.mv hal hh, h.2⟩
theorem Ch.keep {a : Addr} {A : Cell} {U U' : State} (h : Ch a A U) (hal : U.vm.Alike U'.vm) (hk : U'.heap[a]? = some A) : Ch a A U' := ⟨h.1.keep hal hk, h.2⟩
/-- what place i of a char[]'s cell holds -/
def cv (A : Cell) (i : Nat) : Int32 := match A.slots[i]? with | some (.int x) => x | _ => 0
theorem Ch.get {a : Addr} {A : Cell} {U : State} (h : Ch a A U) {i : Nat} (hi : i < A.slots.size) : A.slots[i]? = some (.int (cv A i)) := by
  have e := Array.getElem?_eq_getElem hi
  have f := h.2 i _ e
  unfold cv; rw [e]
  generalize A.slots[i] = v at f
  cases v <;> simp [fits] at f ⊢
/-- the byte that i2b leaves of a char -/
def lo8 (x : Int32) : Int32 := x.toInt8.toInt32
theorem fits_lo8 (y : Int32) : fits .byte (.int (lo8 y)) = true := by
  have h1 := y.toInt8.le_toInt
  have h2 := y.toInt8.toInt_lt
  simp only [lo8, fits, Bool.and_eq_true, decide_eq_true_eq, Int32.le_iff_toInt_le, Int8.toInt_toInt32, show (-128 : Int32).toInt = -128 from by decide, show (127 : Int32).toInt = 127 from by decide]
  omega
/-- A' is A but that each place j of lo .. hi - 1 holds f j -/
def Laid (A A' : Cell) (lo hi : Nat) (f : Nat → Value) : Prop := A'.cls = A.cls ∧ A'.vm = A.vm ∧ A'.slots.size = A.slots.size ∧ ∀ i, A'.slots[i]? = if lo ≤ i ∧ i < hi then some (f i) else A.slots[i]?
theorem Laid.zero (A : Cell) (lo : Nat) (f : Nat → Value) : Laid A A lo (lo + 0) f := ⟨rfl, rfl, rfl, fun i => by rw [if_neg (by omega)]⟩
theorem Laid.step {A Ak : Cell} {lo k : Nat} {f : Nat → Value} {v : Value} (h : Laid A Ak lo k f) (hlo : lo ≤ k) (hk : k < Ak.slots.size) (hv : v = f k) : Laid A (Ak.setSlot k v) lo (k + 1) f := by
  refine ⟨h.1, h.2.1, by simpa [Cell.setSlot] using h.2.2.1, fun i => ?_⟩
  by_cases e : k = i
  · subst e; rw [Cell.slots_setSlot_self v hk, if_pos (by omega), hv]
  · rw [Cell.slots_setSlot_ne v e, h.2.2.2 i]
    by_cases q : lo ≤ i ∧ i < k
    · rw [if_pos q, if_pos (by omega)]
    · rw [if_neg q, if_neg (by omega)]
def U16 : String := "java/lang/StringUTF16"
namespace Cmp5
def yN : MethodName := ⟨"java/lang/StringUTF16", "compress", "([CI[BII)I"⟩
abbrev yB : ByteArray := jdk_52_method_21_code
theorem d0 : decode yB 0 = .ok (.iconst 0, 1) := by decide +kernel
theorem d1 : decode yB 1 = .ok (.istore 5, 2) := by decide +kernel
theorem d3 : decode yB 3 = .ok (.iload 5, 2) := by decide +kernel
theorem d5 : decode yB 5 = .ok (.iload 4, 2) := by decide +kernel
theorem d7 : decode yB 7 = .ok (.if_icmp (.ge) 37, 3) := by decide +kernel
theorem d10 : decode yB 10 = .ok (.aload_n 0, 1) := by decide +kernel
theorem d11 : decode yB 11 = .ok (.iload_n 1, 1) := by decide +kernel
theorem d12 : decode yB 12 = .ok (.caload, 1) := by decide +kernel
theorem d13 : decode yB 13 = .ok (.istore 6, 2) := by decide +kernel
theorem d15 : decode yB 15 = .ok (.iload 6, 2) := by decide +kernel
theorem d17 : decode yB 17 = .ok (.sipush 255, 3) := by decide +kernel
theorem d20 : decode yB 20 = .ok (.if_icmp (.le) 6, 3) := by decide +kernel
theorem d26 : decode yB 26 = .ok (.aload_n 2, 1) := by decide +kernel
theorem d27 : decode yB 27 = .ok (.iload_n 3, 1) := by decide +kernel
theorem d28 : decode yB 28 = .ok (.iload 6, 2) := by decide +kernel
theorem d30 : decode yB 30 = .ok (.i2b, 1) := by decide +kernel
theorem d31 : decode yB 31 = .ok (.bastore, 1) := by decide +kernel
theorem d32 : decode yB 32 = .ok (.iinc 1 1, 3) := by decide +kernel
theorem d35 : decode yB 35 = .ok (.iinc 3 1, 3) := by decide +kernel
theorem d38 : decode yB 38 = .ok (.iinc 5 1, 3) := by decide +kernel
theorem d41 : decode yB 41 = .ok (.goto (-38), 3) := by decide +kernel
theorem d44 : decode yB 44 = .ok (.iload 4, 2) := by decide +kernel
theorem d46 : decode yB 46 = .ok (.ireturn, 1) := by decide +kernel
def site : List Cond := []
def tab : Cond := tabOf yN yB 7 (some .int) site
def P (b : Addr) (A : Cell) (d : Addr) (B : Cell) (o q len : Nat) (args : Array Value) (s : State) : Prop := args = #[.ref b, .int (Int32.ofNat o), .ref d, .int (Int32.ofNat q), .int (Int32.ofNat len)] ∧ Ch b A s ∧ Arr .byte d B s ∧ b ≠ d ∧ o + len ≤ A.slots.size ∧ q + len ≤ B.slots.size ∧ ∀ i, i < len → ¬ 255 < cv A (o + i)
def E (b : Addr) (A : Cell) (d : Addr) (B : Cell) (o q len : Nat) (r : Option Value) (s u : State) : Prop := r = some (.int (Int32.ofNat len)) ∧ ∃ B', Put d B' s u ∧ Laid B B' q (q + len) (fun j => Value.int (lo8 (cv A (o + (j - q)))))
/-- no char of the range above 255: len; the places written hold each char's low byte -/
theorem law (l : Launch) (b : Addr) (A : Cell) (d : Addr) (B : Cell) (o q len : Nat) : Law l yN 5 5 0 0 yB 7 (some .int) site (P b A d B o q len) (E b A d B o q len) (copyLocs d q len) 0 0 := by
  refine Law.of_walk (plainFor_of_name (by decide +kernel)) (by decide +kernel) (by decide +kernel) (by decide) (fun _ _ h => by rw [h.1]; rfl) (fun _ U U' hal hh h => ⟨h.1, h.2.1.mv hal hh, h.2.2.1.mv hal hh, h.2.2.2⟩) (fun r U U' V V' h1 hal h2 h => ⟨h.1, h.2.elim fun B' q => ⟨B', q.1.mv h1 h2, q.2⟩⟩) ?_
  intro p e s m args below meth c s₁ X0 hexec hbytes hml hret hlk hnm hown hh0 W hP
  obtain ⟨rfl, hA, hB, hne, l1, l2, hp⟩ := hP
  have c1 : Steps p.tables e below (s₁.setTop (entryFrame m #[.ref b, .int (Int32.ofNat o), .ref d, .int (Int32.ofNat q), .int (Int32.ofNat len)] 7)) (s₁.setTop (mkF m 0 #[.val (.ref b), .val (.int (Int32.ofNat o)), .val (.ref d), .val (.int (Int32.ofNat q)), .val (.int (Int32.ofNat len)), .unset, .unset] [])) := entry rfl
  have hA0 := hA.1.mv X0.warmed.alike hh0
  have hB0 := hB.mv X0.warmed.alike hh0
  have a31 := hA.1.2.2.2
  have c2 : Steps p.tables e below (s₁.setTop (entryFrame m #[.ref b, .int (Int32.ofNat o), .ref d, .int (Int32.ofNat q), .int (Int32.ofNat len)] 7)) (s₁.setTop (mkF m 3 #[.val (.ref b), .val (.int (Int32.ofNat o)), .val (.ref d), .val (.int (Int32.ofNat q)), .val (.int (Int32.ofNat len)), .val (.int 0), .unset] [])) := c1.trans (by
    refine iconstV X0.here hexec rfl 0 (hb hbytes d0) (by decide) ?_
    refine XS.istore X0.here hexec rfl (hb hbytes d1) rfl rfl ?_
    exact Steps.refl _)
  have loop : ∀ (r i : Nat), i + r = len → ∀ (z : Slot), (z = .unset ∨ ∃ w, z = .val w ∧ w.category = 1) → ∀ (Tl : State) (Bk : Cell), Stand p l e { frames := 0, locals := 0, cells := 0, slots := 0 } s m #[.ref b, .int (Int32.ofNat o), .ref d, .int (Int32.ofNat q), .int (Int32.ofNat len)] below meth c Tl ([] ++ copyLocs d q i) 0 0 → Put d Bk s₁ Tl → Laid B Bk q (q + i) (fun j => Value.int (lo8 (cv A (o + (j - q))))) →
      Steps p.tables e below (s₁.setTop (entryFrame m #[.ref b, .int (Int32.ofNat o), .ref d, .int (Int32.ofNat q), .int (Int32.ofNat len)] 7)) (Tl.setTop (mkF m 3 #[.val (.ref b), .val (.int (Int32.ofNat (o + i))), .val (.ref d), .val (.int (Int32.ofNat (q + i))), .val (.int (Int32.ofNat len)), .val (.int (Int32.ofNat i)), z] [])) → ∃ (T' : State) (B' : Cell) (z' : Slot), Stand p l e { frames := 0, locals := 0, cells := 0, slots := 0 } s m #[.ref b, .int (Int32.ofNat o), .ref d, .int (Int32.ofNat q), .int (Int32.ofNat len)] below meth c T' ([] ++ copyLocs d q len) 0 0 ∧ Put d B' s₁ T' ∧ Laid B B' q (q + len) (fun j => Value.int (lo8 (cv A (o + (j - q))))) ∧
      Steps p.tables e below (s₁.setTop (entryFrame m #[.ref b, .int (Int32.ofNat o), .ref d, .int (Int32.ofNat q), .int (Int32.ofNat len)] 7)) (T'.setTop (mkF m 3 #[.val (.ref b), .val (.int (Int32.ofNat (o + len))), .val (.ref d), .val (.int (Int32.ofNat (q + len))), .val (.int (Int32.ofNat len)), .val (.int (Int32.ofNat len)), z'] [])) := by
    intro r
    induction r with
    | zero =>
      intro i hi z hz Tl Bk Xl pl fl cl
      have hil : i = len := by omega
      rw [hil] at Xl fl cl
      exact ⟨Tl, Bk, z, Xl, pl, fl, cl⟩
    | succ r ih =>
      intro i hi z hz Tl Bk Xl pl fl cl
      have all := X0.warmed.alike.symm.trans Xl.warmed.alike
      have hAl := hA0.keep all (pl.other hne hA0.1)
      have hBk := hB0.like all pl.1 fl.1 fl.2.1 fl.2.2.1
      have hlt : q + i < Bk.slots.size := by rw [fl.2.2.1]; omega
      have c3 : Steps p.tables e below (s₁.setTop (entryFrame m #[.ref b, .int (Int32.ofNat o), .ref d, .int (Int32.ofNat q), .int (Int32.ofNat len)] 7)) (Tl.setTop (mkF m 12 #[.val (.ref b), .val (.int (Int32.ofNat (o + i))), .val (.ref d), .val (.int (Int32.ofNat (q + i))), .val (.int (Int32.ofNat len)), .val (.int (Int32.ofNat i)), z] [.int (Int32.ofNat (o + i)), .ref b])) := cl.trans (by
        refine XS.iload Xl.here hexec rfl (hb hbytes d3) rfl ?_
        refine XS.iload Xl.here hexec rfl (hb hbytes d5) rfl ?_
        refine XS.icmpNo Xl.here hexec rfl (hb hbytes d7) rfl (ii_ge_f (lt32 (by omega) (by omega))) ?_
        refine XS.aloadN Xl.here hexec rfl (hb hbytes d10) rfl rfl ?_
        refine XS.iloadN Xl.here hexec rfl (hb hbytes d11) rfl ?_
        exact Steps.refl _)
      have c4 : Steps p.tables e below (s₁.setTop (entryFrame m #[.ref b, .int (Int32.ofNat o), .ref d, .int (Int32.ofNat q), .int (Int32.ofNat len)] 7)) (Tl.setTop (mkF m 13 #[.val (.ref b), .val (.int (Int32.ofNat (o + i))), .val (.ref d), .val (.int (Int32.ofNat (q + i))), .val (.int (Int32.ofNat len)), .val (.int (Int32.ofNat i)), z] [.int (cv A (o + i))])) := c3.trans (by
        refine Xl.aget hexec hAl rfl (hA.get (i := o + i) (by omega)) rfl rfl (hb hbytes d12) ?_
        exact Steps.refl _)
      have c5 : Steps p.tables e below (s₁.setTop (entryFrame m #[.ref b, .int (Int32.ofNat o), .ref d, .int (Int32.ofNat q), .int (Int32.ofNat len)] 7)) (Tl.setTop (mkF m 15 #[.val (.ref b), .val (.int (Int32.ofNat (o + i))), .val (.ref d), .val (.int (Int32.ofNat (q + i))), .val (.int (Int32.ofNat len)), .val (.int (Int32.ofNat i)), .val (.int (cv A (o + i)))] [])) := c4.trans (by
        refine XS.istoreS Xl.here hexec rfl (hb hbytes d13) rfl rfl hz ?_
        exact Steps.refl _)
      have c6 : Steps p.tables e below (s₁.setTop (entryFrame m #[.ref b, .int (Int32.ofNat o), .ref d, .int (Int32.ofNat q), .int (Int32.ofNat len)] 7)) (Tl.setTop (mkF m 31 #[.val (.ref b), .val (.int (Int32.ofNat (o + i))), .val (.ref d), .val (.int (Int32.ofNat (q + i))), .val (.int (Int32.ofNat len)), .val (.int (Int32.ofNat i)), .val (.int (cv A (o + i)))] [.int (lo8 (cv A (o + i))), .int (Int32.ofNat (q + i)), .ref d])) := c5.trans (by
        refine XS.iload Xl.here hexec rfl (hb hbytes d15) rfl ?_
        refine sipushV Xl.here hexec rfl 255 (hb hbytes d17) (by decide) ?_
        refine XS.icmpYes Xl.here hexec rfl (pc0 := 20) rfl (hb hbytes d20) rfl (ii_le_t (hp i (by omega))) (by decide) rfl ?_
        refine XS.aloadN Xl.here hexec rfl (hb hbytes d26) rfl rfl ?_
        refine XS.iloadN Xl.here hexec rfl (hb hbytes d27) rfl ?_
        refine XS.iload Xl.here hexec rfl (hb hbytes d28) rfl ?_
        refine i2b Xl.here hexec rfl (hb hbytes d30) rfl ?_
        exact Steps.refl _)
      obtain ⟨T7, X7, p7, st7⟩ := Xl.aput hexec hBk rfl hlt rfl (fits_lo8 (cv A (o + i))) (g := (mkF m 31 #[.val (.ref b), .val (.int (Int32.ofNat (o + i))), .val (.ref d), .val (.int (Int32.ofNat (q + i))), .val (.int (Int32.ofNat len)), .val (.int (Int32.ofNat i)), .val (.int (cv A (o + i)))] [.int (lo8 (cv A (o + i))), .int (Int32.ofNat (q + i)), .ref d])) rfl (rest := []) rfl (hb hbytes d31)
      have c8 : Steps p.tables e below (s₁.setTop (entryFrame m #[.ref b, .int (Int32.ofNat o), .ref d, .int (Int32.ofNat q), .int (Int32.ofNat len)] 7)) (T7.setTop (mkF m 32 #[.val (.ref b), .val (.int (Int32.ofNat (o + i))), .val (.ref d), .val (.int (Int32.ofNat (q + i))), .val (.int (Int32.ofNat len)), .val (.int (Int32.ofNat i)), .val (.int (cv A (o + i)))] [])) := c6.trans (st7 _ (Steps.refl _))
      have c9 : Steps p.tables e below (s₁.setTop (entryFrame m #[.ref b, .int (Int32.ofNat o), .ref d, .int (Int32.ofNat q), .int (Int32.ofNat len)] 7)) (T7.setTop (mkF m 3 #[.val (.ref b), .val (.int (Int32.ofNat (o + i) + 1)), .val (.ref d), .val (.int (Int32.ofNat (q + i) + 1)), .val (.int (Int32.ofNat len)), .val (.int (Int32.ofNat i + 1)), .val (.int (cv A (o + i)))] [])) := c8.trans (by
        refine iincV X7.here hexec rfl 1 (hb hbytes d32) (by decide) rfl rfl ?_
        refine iincV X7.here hexec rfl 1 (hb hbytes d35) (by decide) rfl rfl ?_
        refine iincV X7.here hexec rfl 1 (hb hbytes d38) (by decide) rfl rfl ?_
        refine XS.goto X7.here hexec rfl (pc0 := 41) rfl (hb hbytes d41) (by decide) rfl ?_
        exact Steps.refl _)
      have c10 : Steps p.tables e below (s₁.setTop (entryFrame m #[.ref b, .int (Int32.ofNat o), .ref d, .int (Int32.ofNat q), .int (Int32.ofNat len)] 7)) (T7.setTop (mkF m 3 #[.val (.ref b), .val (.int (Int32.ofNat (o + (i + 1)))), .val (.ref d), .val (.int (Int32.ofNat (q + (i + 1)))), .val (.int (Int32.ofNat len)), .val (.int (Int32.ofNat (i + 1))), .val (.int (cv A (o + i)))] [])) := by
        have := c9
        rw [succ32, succ32, succ32] at this
        exact this
      exact ih (i + 1) (by omega) _ (Or.inr ⟨_, rfl, rfl⟩) T7 _ (by rw [copyLocs_step, ← List.append_assoc]; exact X7) (pl.trans p7) (fl.step (by omega) hlt (by simp)) c10
  obtain ⟨T9, B9, z9, X9, p9, f9, g9⟩ := loop len 0 (by omega) .unset (Or.inl rfl) s₁ B (by simpa [copyLocs] using X0) ⟨hB0.1, fun _ _ => rfl, rfl⟩ (Laid.zero _ _ _) c2
  have c11 : Steps p.tables e below (s₁.setTop (entryFrame m #[.ref b, .int (Int32.ofNat o), .ref d, .int (Int32.ofNat q), .int (Int32.ofNat len)] 7)) (T9.setTop (mkF m 46 #[.val (.ref b), .val (.int (Int32.ofNat (o + len))), .val (.ref d), .val (.int (Int32.ofNat (q + len))), .val (.int (Int32.ofNat len)), .val (.int (Int32.ofNat len)), z9] [.int (Int32.ofNat len)])) := g9.trans (by
    refine XS.iload X9.here hexec rfl (hb hbytes d3) rfl ?_
    refine XS.iload X9.here hexec rfl (hb hbytes d5) rfl ?_
    refine XS.icmpYes X9.here hexec rfl (pc0 := 7) rfl (hb hbytes d7) rfl (ii_ge_t (nlt32 (by omega) (Nat.le_refl _))) (by decide) rfl ?_
    refine XS.iload X9.here hexec rfl (hb hbytes d44) rfl ?_
    exact Steps.refl _)
  exact ⟨T9, some (.int (Int32.ofNat len)), _, _, _, X9, by simp, rfl, rfl, (fun h => by cases h), ⟨rfl, B9, p9.from hh0, f9⟩, fun fs hl => c11.trans (X9.ireturnOut hexec hret rfl (Or.inl rfl) (hb hbytes d46) hl)⟩
end Cmp5
namespace Cmp3
def yN : MethodName := ⟨"java/lang/StringUTF16", "compress", "([CII)[B"⟩
abbrev yB : ByteArray := jdk_52_method_16_code
theorem d0 : decode yB 0 = .ok (.iload_n 2, 1) := by decide +kernel
theorem d1 : decode yB 1 = .ok (.newarray .byte, 2) := by decide +kernel
theorem d3 : decode yB 3 = .ok (.astore_n 3, 1) := by decide +kernel
theorem d4 : decode yB 4 = .ok (.aload_n 0, 1) := by decide +kernel
theorem d5 : decode yB 5 = .ok (.iload_n 1, 1) := by decide +kernel
theorem d6 : decode yB 6 = .ok (.aload_n 3, 1) := by decide +kernel
theorem d7 : decode yB 7 = .ok (.iconst 0, 1) := by decide +kernel
theorem d8 : decode yB 8 = .ok (.iload_n 2, 1) := by decide +kernel
theorem d9 : decode yB 9 = .ok (.invokestatic 115, 3) := by decide +kernel
theorem d12 : decode yB 12 = .ok (.istore 4, 2) := by decide +kernel
theorem d14 : decode yB 14 = .ok (.iload 4, 2) := by decide +kernel
theorem d16 : decode yB 16 = .ok (.iload_n 2, 1) := by decide +kernel
theorem d17 : decode yB 17 = .ok (.if_icmp (.eq) 40, 3) := by decide +kernel
theorem d57 : decode yB 57 = .ok (.aload_n 3, 1) := by decide +kernel
theorem d58 : decode yB 58 = .ok (.areturn, 1) := by decide +kernel
def site : List Cond := [.arrayClass .byte, Cmp5.tab] ++ staticW U16 115 Cmp5.yN
def tab : Cond := tabOf yN yB 6 (some (.array .byte)) site
def P (b : Addr) (A : Cell) (o len : Nat) (args : Array Value) (s : State) : Prop := args = #[.ref b, .int (Int32.ofNat o), .int (Int32.ofNat len)] ∧ Ch b A s ∧ o + len ≤ A.slots.size ∧ len ≤ 536870912 ∧ ∀ i, i < len → ¬ 255 < cv A (o + i)
def E (b : Addr) (A : Cell) (o len : Nat) (r : Option Value) (s u : State) : Prop := NewArr .byte "[B" len (fun j => .int (lo8 (cv A (o + j)))) r s u ∧ u.heap.size = s.heap.size + 1
/-- no char of the range above 255: a new byte[] of their low bytes -/
theorem law (l : Launch) (b : Addr) (A : Cell) (o len : Nat) : Law l yN 3 3 1 18 yB 6 (some (.array .byte)) site (P b A o len) (E b A o len) [] 1 len := by
  refine Law.of_walk (plainFor_of_name (by decide +kernel)) (by decide +kernel) (by decide +kernel) (by decide) (fun _ _ h => by rw [h.1]; rfl) (fun _ U U' hal hh h => ⟨h.1, h.2.1.mv hal hh, h.2.2⟩) (fun r U U' V V' h1 hal h2 h => ⟨NewArr.mv r U U' V V' h1 hal h2 h.1, by rw [h1, h2]; exact h.2⟩) ?_
  intro p e s m args below meth c s₁ X0 hexec hbytes hml hret hlk hnm hown hh0 W hP
  obtain ⟨rfl, hA, l1, l2, hp⟩ := hP
  have a31 := hA.1.2.2.2
  have c1 : Steps p.tables e below (s₁.setTop (entryFrame m #[.ref b, .int (Int32.ofNat o), .int (Int32.ofNat len)] 6)) (s₁.setTop (mkF m 0 #[.val (.ref b), .val (.int (Int32.ofNat o)), .val (.int (Int32.ofNat len)), .unset, .unset, .unset] [])) := entry rfl
  have c2 : Steps p.tables e below (s₁.setTop (entryFrame m #[.ref b, .int (Int32.ofNat o), .int (Int32.ofNat len)] 6)) (s₁.setTop (mkF m 1 #[.val (.ref b), .val (.int (Int32.ofNat o)), .val (.int (Int32.ofNat len)), .unset, .unset, .unset] [.int (Int32.ofNat len)])) := c1.trans (by
    refine XS.iloadN X0.here hexec rfl (hb hbytes d0) rfl ?_
    exact Steps.refl _)
  obtain ⟨T3, B3, X3, ba3, bs3, bv3, bh3, bf3, st3⟩ := X0.anew hexec (atype := .byte) (wk W (.arrayClass .byte)) rfl (by show len * 1 ≤ _; omega) (by omega) (g := (mkF m 1 #[.val (.ref b), .val (.int (Int32.ofNat o)), .val (.int (Int32.ofNat len)), .unset, .unset, .unset] [.int (Int32.ofNat len)])) rfl (hb hbytes d1) (rest := []) rfl (Nat.le_refl _) (by show 0 + len ≤ len; omega)
  rw [hh0] at ba3 st3
  have kp3 : XT.Kept s T3 := (XT.Kept.of_eq hh0).push bh3
  have hA3 := hA.keep X3.warmed.alike (kp3 _ _ hA.1.1)
  have hne : b ≠ s.heap.size := hA.1.ne
  have c4 : Steps p.tables e below (s₁.setTop (entryFrame m #[.ref b, .int (Int32.ofNat o), .int (Int32.ofNat len)] 6)) (T3.setTop (mkF m 3 #[.val (.ref b), .val (.int (Int32.ofNat o)), .val (.int (Int32.ofNat len)), .unset, .unset, .unset] [.ref s.heap.size])) := c2.trans (st3 _ (Steps.refl _))
  have c5 : Steps p.tables e below (s₁.setTop (entryFrame m #[.ref b, .int (Int32.ofNat o), .int (Int32.ofNat len)] 6)) (T3.setTop (mkF m 9 #[.val (.ref b), .val (.int (Int32.ofNat o)), .val (.int (Int32.ofNat len)), .val (.ref s.heap.size), .unset, .unset] [.int (Int32.ofNat len), .int 0, .ref s.heap.size, .int (Int32.ofNat o), .ref b])) := c4.trans (by
    refine XS.astoreN X3.here hexec rfl (hb hbytes d3) rfl rfl rfl ?_
    refine XS.aloadN X3.here hexec rfl (hb hbytes d4) rfl rfl ?_
    refine XS.iloadN X3.here hexec rfl (hb hbytes d5) rfl ?_
    refine XS.aloadN X3.here hexec rfl (hb hbytes d6) rfl rfl ?_
    refine iconstV X3.here hexec rfl 0 (hb hbytes d7) (by decide) ?_
    refine XS.iloadN X3.here hexec rfl (hb hbytes d8) rfl ?_
    exact Steps.refl _)
  obtain ⟨v6, T6, X6, E6, g6⟩ := X3.callS hexec (Cmp5.law l b A s.heap.size B3 o 0 len) hown (wks W (staticW U16 115 Cmp5.yN)) (wk W Cmp5.tab) (W := 0) (Nat.le_of_ble_eq_true rfl) (Nat.le_of_ble_eq_true rfl) (Nat.le_refl _) (by show 0 + len + 0 ≤ len; omega) (g := (mkF m 9 #[.val (.ref b), .val (.int (Int32.ofNat o)), .val (.int (Int32.ofNat len)), .val (.ref s.heap.size), .unset, .unset] [.int (Int32.ofNat len), .int (Int32.ofNat 0), .ref s.heap.size, .int (Int32.ofNat o), .ref b])) rfl (by rw [hml]; rfl) c5 (argsL := [.ref b, .int (Int32.ofNat o), .ref s.heap.size, .int (Int32.ofNat 0), .int (Int32.ofNat len)]) (rest := []) rfl rfl (by show 2 * 0 + 0 ≤ _; decide) (hb hbytes d9) (⟨rfl, hA3, ba3, hne, l1, by rw [bs3]; simp, hp⟩)
  obtain ⟨rfl, B6, p6, f6⟩ := E6
  have c7 : Steps p.tables e below (s₁.setTop (entryFrame m #[.ref b, .int (Int32.ofNat o), .int (Int32.ofNat len)] 6)) (T6.setTop (mkF m 12 #[.val (.ref b), .val (.int (Int32.ofNat o)), .val (.int (Int32.ofNat len)), .val (.ref s.heap.size), .unset, .unset] [.int (Int32.ofNat len)])) := g6
  have c8 : Steps p.tables e below (s₁.setTop (entryFrame m #[.ref b, .int (Int32.ofNat o), .int (Int32.ofNat len)] 6)) (T6.setTop (mkF m 58 #[.val (.ref b), .val (.int (Int32.ofNat o)), .val (.int (Int32.ofNat len)), .val (.ref s.heap.size), .val (.int (Int32.ofNat len)), .unset] [.ref s.heap.size])) := c7.trans (by
    refine XS.istore X6.here hexec rfl (hb hbytes d12) rfl rfl ?_
    refine XS.iload X6.here hexec rfl (hb hbytes d14) rfl ?_
    refine XS.iloadN X6.here hexec rfl (hb hbytes d16) rfl ?_
    refine XS.icmpYes X6.here hexec rfl (pc0 := 17) rfl (hb hbytes d17) rfl (ii_eq_t rfl) (by decide) rfl ?_
    refine XS.aloadN X6.here hexec rfl (hb hbytes d57) rfl rfl ?_
    exact Steps.refl _)
  have X8 := X6.wide (L' := []) (cells' := 1) (slots' := len) (fun x hx hlt => by
    simp only [List.nil_append, copyLocs, List.mem_map, List.mem_range] at hx
    obtain ⟨i, -, rfl⟩ := hx
    exact absurd hlt (Nat.lt_irrefl _)) (Nat.le_refl _) (by omega)
  exact ⟨T6, some (.ref s.heap.size), _, _, _, X8, rfl, rfl, rfl, (fun h => by cases h), ⟨⟨rfl, B6, ba3.like (X3.warmed.alike.symm.trans X6.warmed.alike) p6.1 f6.1 f6.2.1 f6.2.2.1, f6.2.1.trans bv3, by rw [X6.warmed.alike.findClass, f6.1]; exact bf3, by rw [f6.2.2.1, bs3]; simp, fun j hj => by rw [f6.2.2.2 j, if_pos (by omega)]; rfl, kp3.put p6 (Nat.le_refl _)⟩, by rw [p6.2.2, bh3, hh0]; simp⟩, fun fs hl => c8.trans (X8.areturnOut hexec rfl hret rfl (hb hbytes d58) hl)⟩
end Cmp3
namespace CodL
def yN : MethodName := ⟨"java/lang/StringUTF16", "coderFromArrayLen", "([BI)B"⟩
abbrev yB : ByteArray := jdk_52_method_15_code
theorem d0 : decode yB 0 = .ok (.iload_n 1, 1) := by decide +kernel
theorem d1 : decode yB 1 = .ok (.aload_n 0, 1) := by decide +kernel
theorem d2 : decode yB 2 = .ok (.arraylength, 1) := by decide +kernel
theorem d3 : decode yB 3 = .ok (.isub, 1) := by decide +kernel
theorem d4 : decode yB 4 = .ok (.bipush 31, 2) := by decide +kernel
theorem d6 : decode yB 6 = .ok (.iushr, 1) := by decide +kernel
theorem d7 : decode yB 7 = .ok (.i2b, 1) := by decide +kernel
theorem d8 : decode yB 8 = .ok (.ireturn, 1) := by decide +kernel
def site : List Cond := []
def tab : Cond := tabOf yN yB 2 (some .byte) site
def P (d : Addr) (B : Cell) (args : Array Value) (s : State) : Prop := args = #[.ref d, .int (Int32.ofNat B.slots.size)] ∧ Arr .byte d B s
def E (r : Option Value) (s u : State) : Prop := XT.PureE (some (.int 0)) r s u
/-- an array as long as the number of chars: LATIN1 -/
theorem law (l : Launch) (d : Addr) (B : Cell) : Law l yN 2 2 0 0 yB 2 (some .byte) site (P d B) E [] 0 0 := by
  refine Law.of_walk (plainFor_of_name (by decide +kernel)) (by decide +kernel) (by decide +kernel) (by decide) (fun _ _ h => by rw [h.1]; rfl) (fun _ U U' hal hh h => ⟨h.1, h.2.mv hal hh⟩) (fun r U U' V V' h1 hal h2 h => XT.PureE.mv r U U' V V' h1 hal h2 h) ?_
  intro p e s m args below meth c s₁ X0 hexec hbytes hml hret hlk hnm hown hh0 W hP
  obtain ⟨rfl, hB⟩ := hP
  have hB0 := hB.mv X0.warmed.alike hh0
  have c1 : Steps p.tables e below (s₁.setTop (entryFrame m #[.ref d, .int (Int32.ofNat B.slots.size)] 2)) (s₁.setTop (mkF m 0 #[.val (.ref d), .val (.int (Int32.ofNat B.slots.size))] [])) := entry rfl
  have c2 : Steps p.tables e below (s₁.setTop (entryFrame m #[.ref d, .int (Int32.ofNat B.slots.size)] 2)) (s₁.setTop (mkF m 2 #[.val (.ref d), .val (.int (Int32.ofNat B.slots.size))] [.ref d, .int (Int32.ofNat B.slots.size)])) := c1.trans (by
    refine XS.iloadN X0.here hexec rfl (hb hbytes d0) rfl ?_
    refine XS.aloadN X0.here hexec rfl (hb hbytes d1) rfl rfl ?_
    exact Steps.refl _)
  have c3 : Steps p.tables e below (s₁.setTop (entryFrame m #[.ref d, .int (Int32.ofNat B.slots.size)] 2)) (s₁.setTop (mkF m 8 #[.val (.ref d), .val (.int (Int32.ofNat B.slots.size))] [.int (lo8 (ushr (Int32.ofNat B.slots.size - Int32.ofNat B.slots.size) 31))])) := c2.trans (by
    refine X0.alen hexec hB0 rfl rfl (hb hbytes d2) ?_
    refine XS.isub X0.here hexec rfl (hb hbytes d3) rfl ?_
    refine bipushV X0.here hexec rfl 31 (hb hbytes d4) (by decide) ?_
    refine iushr X0.here hexec rfl (hb hbytes d6) rfl ?_
    refine i2b X0.here hexec rfl (hb hbytes d7) rfl ?_
    exact Steps.refl _)
  have e0 : lo8 (ushr (Int32.ofNat B.slots.size - Int32.ofNat B.slots.size) 31) = 0 := by rw [Int32.sub_self]; decide
  rw [e0] at c3
  exact ⟨s₁, some (.int 0), _, _, _, X0, rfl, rfl, rfl, (fun h => by cases h), ⟨rfl, hh0⟩, fun fs hl => c3.trans (X0.ireturnOut hexec hret rfl (Or.inr (Or.inr (Or.inl rfl))) (hb hbytes d8) hl)⟩
end CodL
/-- the String at a is Latin-1 over a new byte[] (the heap's one new cell): the low bytes of the len chars of A from o on; every cell but a is kept -/
def Got (a : Addr) (D : Cell) (fV fC : Field) (A : Cell) (o len : Nat) (r : Option Value) (s u : State) : Prop := r = none ∧ ∃ D' V : Cell, Blank "java/lang/String" a D' u ∧ Same D D' [fV.slot, fC.slot] ∧ D'.slots[fV.slot]? = some (.ref s.heap.size) ∧ D'.slots[fC.slot]? = some (.int 0) ∧ Arr .byte s.heap.size V u ∧ V.vm = .none ∧ u.vm.findClass "[B" = some V.cls ∧ V.slots.size = len ∧ (∀ j, j < len → V.slots[j]? = some (.int (lo8 (cv A (o + j))))) ∧ (∀ (y : Addr) (c : Cell), y ≠ a → s.heap[y]? = some c → u.heap[y]? = some c) ∧ u.heap.size = s.heap.size + 1
theorem Got.mv {a : Addr} {D A : Cell} {fV fC : Field} {o len : Nat} : ∀ r (U U' V V' : State), U'.heap = U.heap → V.vm.Alike V'.vm → V'.heap = V.heap → Got a D fV fC A o len r U V → Got a D fV fC A o len r U' V' :=
  fun r U U' V V' h1 hal h2 ⟨e0, D', X, a1, a2, a3, a4, a5, a6, a7, a8, a9, a10, a11⟩ => ⟨e0, D', X, a1.mv hal h2, a2, by rw [h1]; exact a3, a4, by rw [h1]; exact a5.mv hal h2, a6, by rw [hal.findClass]; exact a7, a8, a9, by rw [h1, h2]; exact a10, by rw [h1, h2]; exact a11⟩
namespace New4
def yN : MethodName := ⟨"java/lang/String", "<init>", "([CIILjava/lang/Void;)V"⟩
abbrev yB : ByteArray := jdk_42_method_149_code
theorem d0 : decode yB 0 = .ok (.aload_n 0, 1) := by decide +kernel
theorem d1 : decode yB 1 = .ok (.invokespecial 1, 3) := by decide +kernel
theorem d4 : decode yB 4 = .ok (.iload_n 3, 1) := by decide +kernel
theorem d5 : decode yB 5 = .ok (.ifCond (.ne) 22, 3) := by decide +kernel
theorem d27 : decode yB 27 = .ok (.getstatic 38, 3) := by decide +kernel
theorem d30 : decode yB 30 = .ok (.ifCond (.eq) 28, 3) := by decide +kernel
theorem d33 : decode yB 33 = .ok (.aload_n 1, 1) := by decide +kernel
theorem d34 : decode yB 34 = .ok (.iload_n 2, 1) := by decide +kernel
theorem d35 : decode yB 35 = .ok (.iload_n 3, 1) := by decide +kernel
theorem d36 : decode yB 36 = .ok (.invokestatic 177, 3) := by decide +kernel
theorem d39 : decode yB 39 = .ok (.astore 5, 2) := by decide +kernel
theorem d41 : decode yB 41 = .ok (.aload_n 0, 1) := by decide +kernel
theorem d42 : decode yB 42 = .ok (.aload 5, 2) := by decide +kernel
theorem d44 : decode yB 44 = .ok (.iload_n 3, 1) := by decide +kernel
theorem d45 : decode yB 45 = .ok (.invokestatic 47, 3) := by decide +kernel
theorem d48 : decode yB 48 = .ok (.putfield 15, 3) := by decide +kernel
theorem d51 : decode yB 51 = .ok (.aload_n 0, 1) := by decide +kernel
theorem d52 : decode yB 52 = .ok (.aload 5, 2) := by decide +kernel
theorem d54 : decode yB 54 = .ok (.putfield 9, 3) := by decide +kernel
theorem d57 : decode yB 57 = .ok (.return_, 1) := by decide +kernel
def site : List Cond := [.fieldLink "java/lang/String" 38 "java/lang/String" "COMPACT_STRINGS" "Z", Cmp3.tab, CodL.tab, .laysFinal "java/lang/String" "java/lang/String" "value" "[B", .fieldLink "java/lang/String" 9 "java/lang/String" "value" "[B", .laysFinal "java/lang/String" "java/lang/String" "coder" "B", .fieldLink "java/lang/String" 15 "java/lang/String" "coder" "B"] ++ objW "java/lang/String" 1 ++ staticW "java/lang/String" 177 Cmp3.yN ++ staticW "java/lang/String" 47 CodL.yN
def tab : Cond := tabOf yN yB 6 none site
def P (a : Addr) (D : Cell) (fV fC : Field) (b : Addr) (A : Cell) (z : Int32) (o len : Nat) (args : Array Value) (s : State) : Prop := args = #[.ref a, .ref b, .int (Int32.ofNat o), .int (Int32.ofNat len), .null] ∧ Blank "java/lang/String" a D s ∧ Found "java/lang/String" "value" "[B" fV s ∧ Found "java/lang/String" "coder" "B" fC s ∧ Ch b A s ∧ StaticIs s "java/lang/String" "COMPACT_STRINGS" "Z" (.int z) ∧ ¬ z = 0 ∧ 0 < len ∧ o + len ≤ A.slots.size ∧ len ≤ 536870912 ∧ ∀ i, i < len → ¬ 255 < cv A (o + i)
def E (a : Addr) (D : Cell) (fV fC : Field) (A : Cell) (o len : Nat) (r : Option Value) (s u : State) : Prop := Got a D fV fC A o len r s u
/-- len > 0, no char of the range above 255: a Latin-1 String of their low bytes -/
theorem law (l : Launch) (a : Addr) (D : Cell) (fV fC : Field) (b : Addr) (A : Cell) (z : Int32) (o len : Nat) : Law l yN 5 4 2 35 yB 6 none site (P a D fV fC b A z o len) (E a D fV fC A o len) [⟨a, fC.slot⟩, ⟨a, fV.slot⟩] 1 len := by
  refine Law.of_walk (plainFor_of_name (by decide +kernel)) (by decide +kernel) (by decide +kernel) (by decide) (fun _ _ h => by rw [h.1]; rfl) (fun _ U U' hal hh h => ⟨h.1, h.2.1.mv hal hh, h.2.2.1.al hal, h.2.2.2.1.al hal, h.2.2.2.2.1.mv hal hh, h.2.2.2.2.2.1.there hal hh, h.2.2.2.2.2.2⟩) (fun r U U' V V' h1 hal h2 h => Got.mv r U U' V V' h1 hal h2 h) ?_
  intro p e s m args below meth c s₁ X0 hexec hbytes hml hret hlk hnm hown hh0 W hP
  obtain ⟨rfl, hB, f1, f2, hA, s1, hz, l0, l1, l2, hp⟩ := hP
  have a31 := hA.1.2.2.2
  have c1 : Steps p.tables e below (s₁.setTop (entryFrame m #[.ref a, .ref b, .int (Int32.ofNat o), .int (Int32.ofNat len), .null] 6)) (s₁.setTop (mkF m 0 #[.val (.ref a), .val (.ref b), .val (.int (Int32.ofNat o)), .val (.int (Int32.ofNat len)), .val .null, .unset] [])) := entry rfl
  have c2 : Steps p.tables e below (s₁.setTop (entryFrame m #[.ref a, .ref b, .int (Int32.ofNat o), .int (Int32.ofNat len), .null] 6)) (s₁.setTop (mkF m 1 #[.val (.ref a), .val (.ref b), .val (.int (Int32.ofNat o)), .val (.int (Int32.ofNat len)), .val .null, .unset] [.ref a])) := c1.trans (by
    refine XS.aloadN X0.here hexec rfl (hb hbytes d0) rfl rfl ?_
    exact Steps.refl _)
  obtain ⟨T3, X3, q3, st3⟩ := X0.oinit hexec hown (wks W (objW "java/lang/String" 1)) (g := (mkF m 1 #[.val (.ref a), .val (.ref b), .val (.int (Int32.ofNat o)), .val (.int (Int32.ofNat len)), .val .null, .unset] [.ref a])) rfl (by rw [hml]; rfl) (rest := []) rfl (hb hbytes d1) (W := 0) (by show 2 * 0 + 0 ≤ _; decide) (Nat.le_of_ble_eq_true rfl) (Nat.le_of_ble_eq_true rfl)
  have hh3 := q3.trans hh0
  have c4 : Steps p.tables e below (s₁.setTop (entryFrame m #[.ref a, .ref b, .int (Int32.ofNat o), .int (Int32.ofNat len), .null] 6)) (T3.setTop (mkF m 27 #[.val (.ref a), .val (.ref b), .val (.int (Int32.ofNat o)), .val (.int (Int32.ofNat len)), .val .null, .unset] [])) := (c2.trans (st3 _ (Steps.refl _))).trans (by
    refine XS.iloadN X3.here hexec rfl (hb hbytes d4) rfl ?_
    refine XS.ifYes X3.here hexec rfl (pc0 := 5) rfl (hb hbytes d5) rfl (i0_ne_t (nz32 (by omega) l0)) (by decide) rfl ?_
    exact Steps.refl _)
  obtain ⟨T5, X5, q5, st5⟩ := X3.sget hexec hown (wk W (.fieldLink "java/lang/String" 38 "java/lang/String" "COMPACT_STRINGS" "Z")) s1 (fun _ _ h => by rw [hh3]; exact h) (g := (mkF m 27 #[.val (.ref a), .val (.ref b), .val (.int (Int32.ofNat o)), .val (.int (Int32.ofNat len)), .val .null, .unset] [])) rfl (hb hbytes d27)
  have hh5 := q5.trans hh3
  have c6 : Steps p.tables e below (s₁.setTop (entryFrame m #[.ref a, .ref b, .int (Int32.ofNat o), .int (Int32.ofNat len), .null] 6)) (T5.setTop (mkF m 30 #[.val (.ref a), .val (.ref b), .val (.int (Int32.ofNat o)), .val (.int (Int32.ofNat len)), .val .null, .unset] [.int z])) := c4.trans (st5 _ (Steps.refl _))
  have c7 : Steps p.tables e below (s₁.setTop (entryFrame m #[.ref a, .ref b, .int (Int32.ofNat o), .int (Int32.ofNat len), .null] 6)) (T5.setTop (mkF m 36 #[.val (.ref a), .val (.ref b), .val (.int (Int32.ofNat o)), .val (.int (Int32.ofNat len)), .val .null, .unset] [.int (Int32.ofNat len), .int (Int32.ofNat o), .ref b])) := c6.trans (by
    refine XS.ifNo X5.here hexec rfl (hb hbytes d30) rfl (i0_eq_f hz) ?_
    refine XS.aloadN X5.here hexec rfl (hb hbytes d33) rfl rfl ?_
    refine XS.iloadN X5.here hexec rfl (hb hbytes d34) rfl ?_
    refine XS.iloadN X5.here hexec rfl (hb hbytes d35) rfl ?_
    exact Steps.refl _)
  obtain ⟨v8, T8, X8, E8, g8⟩ := X5.callS hexec (Cmp3.law l b A o len) hown (wks W (staticW "java/lang/String" 177 Cmp3.yN)) (wk W Cmp3.tab) (W := 0) (Nat.le_of_ble_eq_true rfl) (Nat.le_of_ble_eq_true rfl) (Nat.le_refl _) (by show 0 + len ≤ len; omega) (g := (mkF m 36 #[.val (.ref a), .val (.ref b), .val (.int (Int32.ofNat o)), .val (.int (Int32.ofNat len)), .val .null, .unset] [.int (Int32.ofNat len), .int (Int32.ofNat o), .ref b])) rfl (by rw [hml]; rfl) c7 (argsL := [.ref b, .int (Int32.ofNat o), .int (Int32.ofNat len)]) (rest := []) rfl rfl (by show 2 * 0 + 0 ≤ _; decide) (hb hbytes d36) (⟨rfl, hA.mv X5.warmed.alike hh5, l1, l2, hp⟩)
  obtain ⟨e8, z8⟩ := E8
  obtain ⟨rfl, N, n1, n2, n3, n4, n5, n6⟩ := NewArr.mv _ T5 s _ _ hh5.symm (Vm.Alike.refl _) rfl e8
  rw [hh5] at z8
  have hB1 := hB.keep X8.warmed.alike (n6 _ _ hB.1)
  have hne : s.heap.size ≠ a := (Nat.ne_of_lt (Array.getElem?_eq_some_iff.mp hB.1).1).symm
  have c9 : Steps p.tables e below (s₁.setTop (entryFrame m #[.ref a, .ref b, .int (Int32.ofNat o), .int (Int32.ofNat len), .null] 6)) (T8.setTop (mkF m 39 #[.val (.ref a), .val (.ref b), .val (.int (Int32.ofNat o)), .val (.int (Int32.ofNat len)), .val .null, .unset] [.ref s.heap.size])) := g8
  have c10 : Steps p.tables e below (s₁.setTop (entryFrame m #[.ref a, .ref b, .int (Int32.ofNat o), .int (Int32.ofNat len), .null] 6)) (T8.setTop (mkF m 45 #[.val (.ref a), .val (.ref b), .val (.int (Int32.ofNat o)), .val (.int (Int32.ofNat len)), .val .null, .val (.ref s.heap.size)] [.int (Int32.ofNat N.slots.size), .ref s.heap.size, .ref a])) := by
    have hc : Steps p.tables e below (s₁.setTop (entryFrame m #[.ref a, .ref b, .int (Int32.ofNat o), .int (Int32.ofNat len), .null] 6)) (T8.setTop (mkF m 45 #[.val (.ref a), .val (.ref b), .val (.int (Int32.ofNat o)), .val (.int (Int32.ofNat len)), .val .null, .val (.ref s.heap.size)] [.int (Int32.ofNat len), .ref s.heap.size, .ref a])) := c9.trans (by
      refine XS.astore X8.here hexec rfl (hb hbytes d39) rfl rfl rfl ?_
      refine XS.aloadN X8.here hexec rfl (hb hbytes d41) rfl rfl ?_
      refine XS.aload X8.here hexec rfl (hb hbytes d42) rfl rfl ?_
      refine XS.iloadN X8.here hexec rfl (hb hbytes d44) rfl ?_
      exact Steps.refl _)
    rw [n4]; exact hc
  obtain ⟨v11, T11, X11, E11, g11⟩ := X8.callS hexec (CodL.law l s.heap.size N) hown (wks W (staticW "java/lang/String" 47 CodL.yN)) (wk W CodL.tab) (W := 1) (Nat.le_of_ble_eq_true rfl) (Nat.le_of_ble_eq_true rfl) (Nat.le_refl _) (by show 0 + len + 0 ≤ len; omega) (g := (mkF m 45 #[.val (.ref a), .val (.ref b), .val (.int (Int32.ofNat o)), .val (.int (Int32.ofNat len)), .val .null, .val (.ref s.heap.size)] [.int (Int32.ofNat N.slots.size), .ref s.heap.size, .ref a])) rfl (by rw [hml]; rfl) c10 (argsL := [.ref s.heap.size, .int (Int32.ofNat N.slots.size)]) (rest := [.ref a]) rfl rfl (by show 2 * 0 + (1 + 0) ≤ _; decide) (hb hbytes d45) (⟨rfl, n1⟩)
  obtain ⟨rfl, q11⟩ := E11
  have hB11 := hB1.mv (X8.warmed.alike.symm.trans X11.warmed.alike) q11
  have c12 : Steps p.tables e below (s₁.setTop (entryFrame m #[.ref a, .ref b, .int (Int32.ofNat o), .int (Int32.ofNat len), .null] 6)) (T11.setTop (mkF m 48 #[.val (.ref a), .val (.ref b), .val (.int (Int32.ofNat o)), .val (.int (Int32.ofNat len)), .val .null, .val (.ref s.heap.size)] [.int 0, .ref a])) := g11
  obtain ⟨T13, X13, p13, bl13, sl13, st13⟩ := X11.finit hexec hown (wk W (.fieldLink "java/lang/String" 15 "java/lang/String" "coder" "B")) (Or.inr ⟨_, (wk W (.laysFinal "java/lang/String" "java/lang/String" "coder" "B"))⟩) (Or.inl ⟨rfl, hnm⟩) f2 (Or.inl rfl) hB11 (t := .byte) (by decide +kernel) rfl (g := (mkF m 48 #[.val (.ref a), .val (.ref b), .val (.int (Int32.ofNat o)), .val (.int (Int32.ofNat len)), .val .null, .val (.ref s.heap.size)] [.int 0, .ref a])) rfl (rest := []) rfl (hb hbytes d48)
  have c14 : Steps p.tables e below (s₁.setTop (entryFrame m #[.ref a, .ref b, .int (Int32.ofNat o), .int (Int32.ofNat len), .null] 6)) (T13.setTop (mkF m 54 #[.val (.ref a), .val (.ref b), .val (.int (Int32.ofNat o)), .val (.int (Int32.ofNat len)), .val .null, .val (.ref s.heap.size)] [.ref s.heap.size, .ref a])) := (c12.trans (st13 _ (Steps.refl _))).trans (by
    refine XS.aloadN X13.here hexec rfl (hb hbytes d51) rfl rfl ?_
    refine XS.aload X13.here hexec rfl (hb hbytes d52) rfl rfl ?_
    exact Steps.refl _)
  obtain ⟨T15, X15, p15, bl15, sl15, st15⟩ := X13.finit hexec hown (wk W (.fieldLink "java/lang/String" 9 "java/lang/String" "value" "[B")) (Or.inr ⟨_, (wk W (.laysFinal "java/lang/String" "java/lang/String" "value" "[B"))⟩) (Or.inl ⟨rfl, hnm⟩) f1 (Or.inl rfl) bl13 (t := (.array .byte)) (by decide +kernel) rfl (g := (mkF m 54 #[.val (.ref a), .val (.ref b), .val (.int (Int32.ofNat o)), .val (.int (Int32.ofNat len)), .val .null, .val (.ref s.heap.size)] [.ref s.heap.size, .ref a])) rfl (rest := []) rfl (hb hbytes d54)
  have c16 : Steps p.tables e below (s₁.setTop (entryFrame m #[.ref a, .ref b, .int (Int32.ofNat o), .int (Int32.ofNat len), .null] 6)) (T15.setTop (mkF m 57 #[.val (.ref a), .val (.ref b), .val (.int (Int32.ofNat o)), .val (.int (Int32.ofNat len)), .val .null, .val (.ref s.heap.size)] [])) := c14.trans (st15 _ (Steps.refl _))
  have ap := apart (Or.inr ⟨_, (wk W (.laysFinal "java/lang/String" "java/lang/String" "value" "[B"))⟩) (Or.inr ⟨_, (wk W (.laysFinal "java/lang/String" "java/lang/String" "coder" "B"))⟩) f1 f2 (t₁ := .array .byte) (t₂ := .byte) (by decide +kernel) (by decide +kernel) (by decide)
  have al := X8.warmed.alike.symm.trans X15.warmed.alike
  have n7 : T11.heap[s.heap.size]? = some N := by rw [q11]; exact n1.1
  exact ⟨T15, none, _, _, _, X15, by simp, rfl, by omega, (fun _ => rfl), ⟨rfl, _, N, bl15, ((Same.refl D _).set _ (by simp)).set _ (by simp), sl15, (Cell.slots_setSlot_ne _ ap).trans sl13, n1.keep al (p15.other hne (p13.other hne n7)), n2, by rw [al.findClass]; exact n3, n4, n5, fun y c h1 h2 => p15.other h1 (p13.other h1 (by rw [q11]; exact n6 y c h2)), by rw [p15.2.2, p13.2.2, q11]; exact z8⟩, fun fs hl => c16.trans (X15.returnOut hexec hret (hb hbytes d57) hl)⟩
end New4
namespace New1
def yN : MethodName := ⟨"java/lang/String", "<init>", "([C)V"⟩
abbrev yB : ByteArray := jdk_42_method_3_code
theorem d0 : decode yB 0 = .ok (.aload_n 0, 1) := by decide +kernel
theorem d1 : decode yB 1 = .ok (.aload_n 1, 1) := by decide +kernel
theorem d2 : decode yB 2 = .ok (.iconst 0, 1) := by decide +kernel
theorem d3 : decode yB 3 = .ok (.aload_n 1, 1) := by decide +kernel
theorem d4 : decode yB 4 = .ok (.arraylength, 1) := by decide +kernel
theorem d5 : decode yB 5 = .ok (.aconst_null, 1) := by decide +kernel
theorem d6 : decode yB 6 = .ok (.invokespecial 27, 3) := by decide +kernel
theorem d9 : decode yB 9 = .ok (.return_, 1) := by decide +kernel
def site : List Cond := [New4.tab] ++ initW "java/lang/String" 27 New4.yN
def tab : Cond := tabOf yN yB 2 none site
def P (a : Addr) (D : Cell) (fV fC : Field) (b : Addr) (A : Cell) (z : Int32) (args : Array Value) (s : State) : Prop := args = #[.ref a, .ref b] ∧ Blank "java/lang/String" a D s ∧ Found "java/lang/String" "value" "[B" fV s ∧ Found "java/lang/String" "coder" "B" fC s ∧ Ch b A s ∧ StaticIs s "java/lang/String" "COMPACT_STRINGS" "Z" (.int z) ∧ ¬ z = 0 ∧ 0 < A.slots.size ∧ A.slots.size ≤ 536870912 ∧ ∀ i, i < A.slots.size → ¬ 255 < cv A i
def E (a : Addr) (D : Cell) (fV fC : Field) (A : Cell) (r : Option Value) (s u : State) : Prop := Got a D fV fC A 0 A.slots.size r s u
/-- new String(chars), not empty, no char above 255: a Latin-1 String of their low bytes -/
theorem law (l : Launch) (a : Addr) (D : Cell) (fV fC : Field) (b : Addr) (A : Cell) (z : Int32) : Law l yN 2 1 3 52 yB 2 none site (P a D fV fC b A z) (E a D fV fC A) [⟨a, fC.slot⟩, ⟨a, fV.slot⟩] 1 A.slots.size := by
  refine Law.of_walk (plainFor_of_name (by decide +kernel)) (by decide +kernel) (by decide +kernel) (by decide) (fun _ _ h => by rw [h.1]; rfl) (fun _ U U' hal hh h => ⟨h.1, h.2.1.mv hal hh, h.2.2.1.al hal, h.2.2.2.1.al hal, h.2.2.2.2.1.mv hal hh, h.2.2.2.2.2.1.there hal hh, h.2.2.2.2.2.2⟩) (fun r U U' V V' h1 hal h2 h => Got.mv r U U' V V' h1 hal h2 h) ?_
  intro p e s m args below meth c s₁ X0 hexec hbytes hml hret hlk hnm hown hh0 W hP
  obtain ⟨rfl, hB, f1, f2, hA, s1, hz, l0, l2, hp⟩ := hP
  have c1 : Steps p.tables e below (s₁.setTop (entryFrame m #[.ref a, .ref b] 2)) (s₁.setTop (mkF m 0 #[.val (.ref a), .val (.ref b)] [])) := entry rfl
  have c2 : Steps p.tables e below (s₁.setTop (entryFrame m #[.ref a, .ref b] 2)) (s₁.setTop (mkF m 6 #[.val (.ref a), .val (.ref b)] [.null, .int (Int32.ofNat A.slots.size), .int 0, .ref b, .ref a])) := c1.trans (by
    refine XS.aloadN X0.here hexec rfl (hb hbytes d0) rfl rfl ?_
    refine XS.aloadN X0.here hexec rfl (hb hbytes d1) rfl rfl ?_
    refine iconstV X0.here hexec rfl 0 (hb hbytes d2) (by decide) ?_
    refine XS.aloadN X0.here hexec rfl (hb hbytes d3) rfl rfl ?_
    refine X0.alen hexec (hA.1.mv X0.warmed.alike hh0) rfl rfl (hb hbytes d4) ?_
    refine XS.aconstNull X0.here hexec rfl (hb hbytes d5) ?_
    exact Steps.refl _)
  obtain ⟨v3, T3, X3, E3, g3⟩ := X0.callN hexec (New4.law l a D fV fC b A z 0 A.slots.size) rfl hown (wks W (initW "java/lang/String" 27 New4.yN)) (W New4.tab (by simp only [site, List.mem_cons, List.mem_append, true_or, or_true])) (W := 0) (Nat.le_of_ble_eq_true rfl) (Nat.le_of_ble_eq_true rfl) (Nat.le_refl _) (by show 0 + A.slots.size ≤ A.slots.size; omega) (g := (mkF m 6 #[.val (.ref a), .val (.ref b)] [.null, .int (Int32.ofNat A.slots.size), .int (Int32.ofNat 0), .ref b, .ref a])) rfl (by rw [hml]; rfl) c2 (argsL := [.ref b, .int (Int32.ofNat 0), .int (Int32.ofNat A.slots.size), .null]) (rest := []) rfl rfl (by show 2 * 0 + 0 ≤ _; decide) (hb hbytes d6) (⟨rfl, hB.mv X0.warmed.alike hh0, f1.al X0.warmed.alike, f2.al X0.warmed.alike, hA.mv X0.warmed.alike hh0, s1.there X0.warmed.alike hh0, hz, l0, by omega, l2, fun i hi => by rw [Nat.zero_add]; exact hp i hi⟩)
  have e0 := Got.mv _ s₁ s _ _ hh0.symm (Vm.Alike.refl _) rfl E3
  obtain rfl := e0.1
  have c4 : Steps p.tables e below (s₁.setTop (entryFrame m #[.ref a, .ref b] 2)) (T3.setTop (mkF m 9 #[.val (.ref a), .val (.ref b)] [])) := g3
  exact ⟨T3, none, _, _, _, X3, by simp, rfl, by omega, (fun _ => rfl), e0, fun fs hl => c4.trans (X3.returnOut hexec hret (hb hbytes d9) hl)⟩
theorem pays {l : Launch} {R : Room} {p : Program} {e : Env} {below : List Frame} {s : State} {sargs : Array Value} {len W : Nat} (a : Addr) (D : Cell) (fV fC : Field) (b : Addr) (A : Cell) (z : Int32) (htab : tab.before sargs s = true) (hfr : 4 ≤ R.frames) (hlo : W + 65 ≤ R.locals) :
    Back l R p e below s sargs yN len W (fun A₁ a₁ => A₁.cells + 1 ≤ R.cells ∧ A₁.slots + A.slots.size ≤ R.slots ∧ P a D fV fC b A z a₁ A₁.U) (fun A₁ _ v₁ B₁ => E a D fV fC A v₁ A₁.U B₁.U ∧ B₁.locs = A₁.locs ++ [⟨a, fC.slot⟩, ⟨a, fV.slot⟩] ∧ B₁.cells = A₁.cells + 1 ∧ B₁.slots = A₁.slots + A.slots.size) :=
  (law l a D fV fC b A z).pays htab hfr (by omega)
end New1
/-- the byte, read back as charAt reads it, is the char -/
theorem lo8_mask {x : Int32} (h0 : ¬ x < 0) (h1 : ¬ 255 < x) : lo8 x &&& 255 = x := by
  have t : ∀ k : Fin 256, lo8 (Int32.ofNat k.val) &&& 255 = Int32.ofNat k.val := by decide +kernel
  rw [Int32.lt_iff_toInt_lt] at h0 h1
  have e0 : (0 : Int32).toInt = 0 := rfl
  have e1 : (255 : Int32).toInt = 255 := rfl
  obtain ⟨k, hk⟩ : ∃ k : Nat, x.toInt = k := ⟨x.toInt.toNat, by omega⟩
  have hx : x = Int32.ofNat k := Int32.toInt_inj.mp (by rw [hk, Int32.toInt_ofNat_small (by omega)])
  rw [hx]
  exact t ⟨k, by omega⟩
end StrChars
namespace StrChars.Road
open Jvm Sem ClassFile Op Lib Jvm.Stand Jvm.Free Jvm.Free.XT
open Jvm.Lib.Cold (StaticIs)
abbrev ST : String := "java/lang/String"
/-- every table word that New1's law asks, flat -/
abbrev words : List Jvm.Cond := [.code New1.yN New1.yB 2 none, .initialized ST, .methodLink ST 27 New4.yN, .instanceMethod New4.yN,
  .code New4.yN New4.yB 6 none, .fieldLink ST 38 ST "COMPACT_STRINGS" "Z", .laysFinal ST ST "value" "[B", .fieldLink ST 9 ST "value" "[B", .laysFinal ST ST "coder" "B", .fieldLink ST 15 ST "coder" "B",
  .methodLink ST 1 Lib.objectInit, .instanceMethod Lib.objectInit, .code Lib.objectInit object_method_1_code 1 none, .methodLink ST 177 Cmp3.yN, .static Cmp3.yN, .methodLink ST 47 CodL.yN, .static CodL.yN,
  .code Cmp3.yN Cmp3.yB 6 (some (.array .byte)), .initialized U16, .arrayClass .byte, .methodLink U16 115 Cmp5.yN, .static Cmp5.yN, .code Cmp5.yN Cmp5.yB 7 (some .int), .code CodL.yN CodL.yB 2 (some .byte)]
theorem tab_of {a : Array Value} {s : State} (h : ∀ w ∈ words, w.before a s = true) : New1.tab.before a s = true := by
  have h5 : Cmp5.tab.before a s = true := unparts (wk h (.code Cmp5.yN Cmp5.yB 7 (some .int))) (wks h (.initialized Cmp5.yN.cls :: Cmp5.site))
  have hc : CodL.tab.before a s = true := unparts (wk h (.code CodL.yN CodL.yB 2 (some .byte))) (wks h (.initialized CodL.yN.cls :: CodL.site))
  have q5 : ∀ w ∈ Cmp5.tab :: words, w.before a s = true := fun w hw => (List.mem_cons.mp hw).elim (fun e => e ▸ h5) (h w)
  have h3 : Cmp3.tab.before a s = true := unparts (wk q5 (.code Cmp3.yN Cmp3.yB 6 (some (.array .byte)))) (wks q5 (.initialized Cmp3.yN.cls :: Cmp3.site))
  have q3 : ∀ w ∈ Cmp3.tab :: CodL.tab :: words, w.before a s = true := fun w hw => (List.mem_cons.mp hw).elim (fun e => e ▸ h3) fun hw => (List.mem_cons.mp hw).elim (fun e => e ▸ hc) (h w)
  have h4 : New4.tab.before a s = true := unparts (wk q3 (.code New4.yN New4.yB 6 none)) (wks q3 (.initialized New4.yN.cls :: New4.site))
  have q4 : ∀ w ∈ New4.tab :: words, w.before a s = true := fun w hw => (List.mem_cons.mp hw).elim (fun e => e ▸ h4) (h w)
  exact unparts (wk q4 (.code New1.yN New1.yB 2 none)) (wks q4 (.initialized New1.yN.cls :: New1.site))
/-- the words ride from the start Z to the walk's own state -/
theorem moved {Z s : State} {a0 args : Array Value} (hZ : Z.Warmed39 s.vm) (hw : ∀ d ∈ words, d.before a0 Z = true) : ∀ d ∈ words, d.before args s = true := fun d hd => by
  have q := hw d hd
  have t : ∀ d ∈ words, d = .arrayClass .byte ∨ (d.onTables && d.keepsFace) = true := by decide +kernel
  rcases t d hd with rfl | t
  · exact RoadKit.mvA hZ q
  · exact RoadKit.mv hZ q t
/-- WHAT COMES BACK, over the tables of the start Z: h the heap at the call, h' behind it -/
def Q (Z : State) (x : Addr) (A : Cell) (h : Heap) (v : Option Value) (h' : Heap) (L : List Loc) : Prop := v = none ∧ (∀ y ∈ L, y.base = x) ∧ RoadKit.Keep h h' [x] ∧ h'.size = h.size + 1 ∧ RoadKit.Exa Z h' x ST ∧ RoadKit.Fld Z h' x ST "value" "[B" (.ref h.size) ∧ RoadKit.Fld Z h' x ST "coder" "B" (.int 0) ∧
  (∃ V : Cell, RoadKit.Arr Z h' h.size V .byte ∧ V.vm = .none ∧ Z.vm.findClass "[B" = some V.cls ∧ V.slots.size = A.slots.size ∧ ∀ j, j < A.slots.size → V.slots[j]? = some (.int (lo8 (cv A j)))) ∧
  ∀ (O n d : String) (w : Value), RoadKit.Fld Z h x O n d w → RoadKit.slotOf Z O n d ≠ RoadKit.slotOf Z ST "value" "[B" → RoadKit.slotOf Z O n d ≠ RoadKit.slotOf Z ST "coder" "B" → RoadKit.Fld Z h' x O n d w
/-- **new String(chars) AT A CALL, IN THE ROAD'S FORM**: for specialBack behind newO: x the fresh String, b the char[] with the cell A -/
theorem back {p : Program} {l : Launch} {e : Env} {R : Room} {s : State} {args : Array Value} {below : List Frame} {len W : Nat} {Z : State} {a0 : Array Value} {h : Heap} (hZ : Z.Warmed39 s.vm) (hw : ∀ d ∈ words, d.before a0 Z = true) {kI : Nat} (wi : (Jvm.Cond.instantiable ST kI).before a0 Z = true)
    {x b : Addr} {A : Cell} {z : Int32} {v0 c0 : Value} (E : RoadKit.Exa Z h x ST) (V : RoadKit.Fld Z h x ST "value" "[B" v0) (C : RoadKit.Fld Z h x ST "coder" "B" c0) (K : RoadKit.Arr Z h b A .char) (hty : Typed .char A) (S : RoadKit.Sta Z h ST "COMPACT_STRINGS" "Z" (.int z)) (hz : ¬ z = 0)
    (l0 : 0 < A.slots.size) (l2 : A.slots.size ≤ 536870912) (hp : ∀ i, i < A.slots.size → ¬ 255 < cv A i) (hfr : 4 ≤ R.frames) (hlo : W + 65 ≤ R.locals) :
    Back l R p e below s args New1.yN len W (fun P a => a = #[.ref x, .ref b] ∧ P.U.heap = h ∧ P.cells + 1 ≤ R.cells ∧ P.slots + A.slots.size ≤ R.slots)
      (fun P _ v B => ∃ L, Q Z x A h v B.U.heap L ∧ B.locs = P.locs ++ L ∧ B.cells = P.cells + 1 ∧ B.slots = P.slots + A.slots.size) := by
  intro m meth c P g ig mk a X hg hsize hdg hW hn hp'
  obtain ⟨rfl, rfl, r1, r2⟩ := hp'
  have al : Z.vm.Alike P.U.vm := hZ.alike.trans X.warmed.alike
  obtain ⟨D, cfV, kV, iV, fV, hD, gV, stV, knV, obV, asV, slV⟩ := id V
  obtain ⟨D', cfC, kC, iC, fC, hD', gC, stC, -, -, asC, slC⟩ := id C
  cases hD.symm.trans hD'
  obtain ⟨D2, kD, e1, e2, e3, e4, e5⟩ := id E
  cases hD.symm.trans e1
  obtain ⟨c2, k2, i1, i2, i3, -⟩ := Cond.instantiable_spec wi
  cases e2.symm.trans i1
  cases e3.symm.trans i2
  obtain ⟨kU, u1, u2⟩ := al.2.2 _ _ e3
  have hB : Blank ST x D P.U := ⟨hD, ⟨knV, fun q hq => by rw [hq] at obV; cases obV⟩, by rw [al.findClass]; exact e2, kU, u1, by rw [u2]; exact i3, by rw [u2]; exact e5 i3⟩
  have F1 : Found ST "value" "[B" fV P.U := ⟨SBG.found_only al ⟨cfV, kV, iV, gV⟩, stV⟩
  have F2 : Found ST "coder" "B" fC P.U := ⟨SBG.found_only al ⟨cfC, kC, iC, gC⟩, stC⟩
  have hA : Ch b A P.U := ⟨⟨K.1, State.isArrayOf_alike al K.2.1, K.2.2, by omega⟩, hty⟩
  have hS : StaticIs P.U ST "COMPACT_STRINGS" "Z" (.int z) := by
    obtain ⟨cfS, iS, kS, fS, st, cS, t1, t2, t3, t4, t5, t6, t7⟩ := S
    exact StaticIs.there (s := { Z with heap := P.U.heap }) ⟨cfS, iS, kS, fS, st, cS, t1, t2, t3, t4, t5, (fun q => by rw [q] at t6; cases t6), t7⟩ al rfl
  obtain ⟨v, B, X', ⟨⟨hv, E', V', q1, q2, q3, q4, q5, q6, q7, q8, q9, q10, q11⟩, hl, hc, hs⟩, st⟩ := New1.pays x D fV fC b A z (tab_of (moved hZ hw)) hfr hlo m meth c P g ig mk _ X hg hsize hdg hW hn ⟨r1, r2, rfl, hB, F1, F2, hA, hS, hz, l0, l2, hp⟩
  have al' : Z.vm.Alike B.U.vm := hZ.alike.trans X'.warmed.alike
  have hsz : E'.slots.size = D.slots.size := by
    obtain ⟨-, -, -, kB, w1, w2, w3⟩ := q1
    obtain ⟨kB', y1, y2⟩ := al'.2.2 _ _ e3
    rw [q2.2.1] at w1
    cases w1.symm.trans y1
    rw [w3, e5 i3, y2]
  refine ⟨v, B, X', ⟨_, ⟨hv, ?_, ⟨by omega, fun y cy hy hn' => q10 y cy (by simpa using hn') hy, fun y cy hy => ?_⟩, q11, ⟨E', _, q1.1, by rw [q2.2.1]; exact e2, by rw [q2.2.1]; exact e3, by rw [q2.1]; exact obV, fun _ => by rw [hsz]; exact e5 i3⟩,
    ⟨E', cfV, kV, iV, fV, q1.1, gV, stV, by rw [q2.1]; exact knV, by rw [q2.1]; exact obV, by rw [q2.2.1]; exact asV, q3⟩, ⟨E', cfC, kC, iC, fC, q1.1, gC, stC, by rw [q2.1]; exact knV, by rw [q2.1]; exact obV, by rw [q2.2.1]; exact asC, q4⟩,
    ⟨V', ⟨q5.1, State.isArrayOf_alike al'.symm q5.2.1, q5.2.2.1⟩, q6, by rw [← al'.findClass]; exact q7, q8, fun j hj => by have := q9 j hj; rwa [Nat.zero_add] at this⟩, fun O n d w F n1 n2 => ?_⟩, hl, hc, hs⟩, st⟩
  · intro y hy
    simp only [List.mem_cons, List.not_mem_nil, or_false] at hy
    rcases hy with rfl | rfl <;> rfl
  · by_cases q : y = x
    · subst q
      cases hD.symm.trans hy
      exact ⟨E', q1.1, q2.2.1, q2.1, hsz⟩
    · exact ⟨cy, q10 y cy q hy, rfl, rfl, rfl⟩
  · obtain ⟨D3, cf, k, i, f, g1, g2, g3, g4, g5, g6, g7⟩ := F
    cases hD.symm.trans g1
    simp only [RoadKit.slotOf, g2, gV, gC, Option.map_some, Option.getD_some] at n1 n2
    exact ⟨E', cf, k, i, f, q1.1, g2, g3, by rw [q2.1]; exact g4, by rw [q2.1]; exact g5, by rw [q2.2.1]; exact g6, by rw [q2.2.2 f.slot (by simp [n1, n2])]; exact g7⟩
end StrChars.Road
namespace StrChars.Road
open Jvm Sem ClassFile Op Lib Jvm.Stand Jvm.Free Jvm.Free.XT
/-- WHAT COMES BACK, the byte[] as a list of values -/
def QA (Z : State) (x : Addr) (zn : Int32) (cs : List Int32) (h : Heap) (v : Option Value) (h' : Heap) (L : List Loc) : Prop := v = none ∧ (∀ y ∈ L, y.base = x) ∧ RoadKit.Keep h h' [x] ∧ h'.size = h.size + 1 ∧ RoadKit.Exa Z h' x ST ∧ RoadKit.Fld Z h' x ST "value" "[B" (.ref h.size) ∧ RoadKit.Fld Z h' x ST "coder" "B" (.int 0) ∧
  (∃ kb, Z.vm.findClass "[B" = some kb ∧ RoadKit.Arv Z h' h.size kb .byte zn (cs.map fun c => .int (lo8 c)) (.int 0)) ∧
  ∀ (O n d : String) (w : Value), RoadKit.Fld Z h x O n d w → RoadKit.slotOf Z O n d ≠ RoadKit.slotOf Z ST "value" "[B" → RoadKit.slotOf Z O n d ≠ RoadKit.slotOf Z ST "coder" "B" → RoadKit.Fld Z h' x O n d w
/-- **new String(chars) AT A CALL, THE ARRAYS AS LISTS**: the char[] at b holds cs, not empty, no char above 255 -/
theorem backArv {p : Program} {l : Launch} {e : Env} {R : Room} {s : State} {args : Array Value} {below : List Frame} {len W : Nat} {Z : State} {a0 : Array Value} {h : Heap} (hZ : Z.Warmed39 s.vm) (hw : ∀ d ∈ words, d.before a0 Z = true) {kI : Nat} (wi : (Jvm.Cond.instantiable ST kI).before a0 Z = true)
    {x b : Addr} {k : ClassId} {zn z : Int32} {cs : List Int32} {dv v0 c0 : Value} (E : RoadKit.Exa Z h x ST) (V : RoadKit.Fld Z h x ST "value" "[B" v0) (C : RoadKit.Fld Z h x ST "coder" "B" c0) (K : RoadKit.Arv Z h b k .char zn (cs.map Value.int) dv) (S : RoadKit.Sta Z h ST "COMPACT_STRINGS" "Z" (.int z)) (hz : ¬ z = 0)
    (hlen : zn.toNatClampNeg = cs.length) (h0 : 0 < cs.length) (hbig : cs.length ≤ 536870912) (hall : ∀ c ∈ cs, ¬ 255 < c) (hfr : 4 ≤ R.frames) (hlo : W + 65 ≤ R.locals) :
    Back l R p e below s args New1.yN len W (fun P a => a = #[.ref x, .ref b] ∧ P.U.heap = h ∧ P.cells + 1 ≤ R.cells ∧ P.slots + cs.length ≤ R.slots)
      (fun P _ v B => ∃ L, QA Z x zn cs h v B.U.heap L ∧ B.locs = P.locs ++ L ∧ B.cells = P.cells + 1 ∧ B.slots = P.slots + cs.length) := by
  obtain ⟨A, K1, K2, K3, K4, K5, K6⟩ := K
  have e : A.slots.size = cs.length := K3.trans hlen
  have hat : ∀ (i : Nat) (hi : i < cs.length), A.slots[i]? = some (.int cs[i]) := fun i hi => by rw [K5 i (by omega)]; simp [List.getD_eq_getElem?_getD, hi]
  have hcv : ∀ (i : Nat) (hi : i < cs.length), cv A i = cs[i] := fun i hi => by unfold cv; rw [hat i hi]
  have hty : Typed .char A := fun i v hv => by
    have hi : i < A.slots.size := (Array.getElem?_eq_some_iff.mp hv).1
    have q := K5 i hi
    rw [hv] at q
    rw [Option.some.inj q]
    exact K6 i hi
  refine Back.mono (back hZ hw wi E V C K1 hty S hz (by omega) (by omega) (fun i hi => by rw [hcv i (by omega)]; exact hall _ (List.getElem_mem _)) hfr hlo) (fun P a hp => ⟨hp.1, hp.2.1, hp.2.2.1, by rw [e]; exact hp.2.2.2⟩) (fun P a v B hp hq => ?_)
  obtain ⟨L, ⟨q1, q2, q3, q4, q5, q6, q7, ⟨V', v1, v2, v3, v4, v5⟩, q9⟩, hl, hc, hs⟩ := hq
  refine ⟨L, ⟨q1, q2, q3, q4, q5, q6, q7, ⟨V'.cls, v3, V', v1, rfl, by rw [v4, e, hlen], K4, fun i hi => ?_, fun i hi => ?_⟩, q9⟩, hl, hc, by rw [hs, e]⟩
  · have hi' : i < cs.length := by omega
    rw [v5 i (by omega), hcv i hi']; simp [List.getD_eq_getElem?_getD, hi']
  · have hi' : i < cs.length := by omega
    simp only [List.getD_eq_getElem?_getD, List.getElem?_map, List.getElem?_eq_getElem hi', Option.map_some, Option.getD_some]
    exact fits_lo8 _
end StrChars.Road
namespace StrChars.Road
open Jvm Sem ClassFile Op Lib Jvm.Stand Jvm.Free Jvm.Free.XT
/-- WHAT COMES BACK, in the writer's own shape -/
def QV (Z : State) (x : Addr) (N : Int32) (bs : List Int32) (h : Heap) (n0 : Nat) (v : Option Value) (h' : Heap) (L : List Loc) : Prop := v = none ∧ RoadKit.Fr n0 L ∧ RoadKit.Keep h h' [x] ∧ RoadKit.Exa Z h' x ST ∧ RoadKit.Fld Z h' x ST "coder" "B" (.int 0) ∧
  ∃ (t : Addr) (kb : ClassId), n0 ≤ t ∧ h.size ≤ t ∧ ¬ t = x ∧ RoadKit.Fld Z h' x ST "value" "[B" (.ref t) ∧ RoadKit.Arv Z h' t kb .byte N (bs.map Value.int) (.int 0)
/-- **new String(chars) AT A CALL, FOR THE WRITER**: a char[] of n known ints, each 0 to 255 -/
theorem backV {p : Program} {l : Launch} {e : Env} {R : Room} {s : State} {args : Array Value} {below : List Frame} {len W : Nat} {Z : State} {a0 : Array Value} {h : Heap} (hZ : Z.Warmed39 s.vm) (hw : ∀ d ∈ words, d.before a0 Z = true) {kI : Nat} (wi : (Jvm.Cond.instantiable ST kI).before a0 Z = true)
    {x b : Addr} {kC : ClassId} {cs bs : List Int32} {d v0 c0 : Value} {z N : Int32} {n n0 : Nat} (hx0 : n0 ≤ x) (hh0 : n0 ≤ h.size) (E : RoadKit.Exa Z h x ST) (V : RoadKit.Fld Z h x ST "value" "[B" v0) (C : RoadKit.Fld Z h x ST "coder" "B" c0) (K : RoadKit.Arv Z h b kC .char N (cs.map Value.int) d) (S : RoadKit.Sta Z h ST "COMPACT_STRINGS" "Z" (.int z)) (hz : ¬ z = 0)
    (hn : cs.length = n) (hN : N = Int32.ofNat n) (l0 : 0 < n) (l2 : n ≤ 4000) (hp : ∀ c ∈ cs, ¬ c < 0 ∧ ¬ (255 : Int32) < c) (hb : bs = cs.map (fun c => c.toInt8.toInt32)) (hfr : 4 ≤ R.frames) (hlo : W + 65 ≤ R.locals) :
    Back l R p e below s args (⟨"java/lang/String", "<init>", "([C)V"⟩ : MethodName) len W (fun P a => a = #[.ref x, .ref b] ∧ P.U.heap = h ∧ P.cells + 1 ≤ R.cells ∧ P.slots + n ≤ R.slots)
      (fun P _ v B => ∃ L, QV Z x N bs h n0 v B.U.heap L ∧ B.locs = P.locs ++ L ∧ B.cells = P.cells + 1 ∧ B.slots = P.slots + n) := by
  subst hn hN hb
  refine Back.mono (backArv hZ hw wi E V C K S hz (n32 (by omega)) l0 (by omega) (fun c hc => (hp c hc).2) hfr hlo) (fun P a hp => hp) (fun P a v B hp hq => ?_)
  obtain ⟨L, ⟨q1, q2, q3, q4, q5, q6, q7, ⟨kb, v1, v2⟩, q9⟩, hl, hc, hs⟩ := hq
  exact ⟨L, ⟨q1, fun y hy => by rw [q2 y hy]; exact hx0, q3, q5, q7, h.size, kb, hh0, Nat.le_refl _, Nat.ne_of_gt E.lt, q6, by rw [List.map_map]; exact v2⟩, hl, hc, hs⟩
end StrChars.Road
namespace StrChars
open Jvm Sem ClassFile Op Lib Jvm.Stand Jvm.Free.XT Jvm.Free.ALB Jvm.Free.JM Jvm.Free
open Jvm.Lib.Cold (StaticIs)
def hi8 (x : Int32) : Int32 := lo8 (x >>> ((8 : Int32) &&& 31))
/-- what StringUTF16.getChar makes of two bytes -/
def pairCh (u v : Int32) : Int32 := (((u &&& 255) <<< ((0 : Int32) &&& 31)) ||| ((v &&& 255) <<< ((8 : Int32) &&& 31))).toUInt32.toUInt16.toUInt32.toInt32
theorem shr0 (c : Int32) : c >>> ((0 : Int32) &&& 31) = c := by
  have e : ((0 : Int32) &&& 31) = 0 := by decide
  rw [e]
  apply Int32.toBitVec_inj.mp
  rw [Int32.toBitVec_shiftRight]
  have e1 : ((0 : Int32).toBitVec.smod 32) = 0#32 := by decide
  rw [e1, BitVec.sshiftRight_eq']
  exact BitVec.sshiftRight_zero
theorem lo8_and (x : Int32) : (lo8 x &&& 255).toBitVec.toNat = x.toBitVec.toNat % 256 := by
  have h : (lo8 x).toBitVec = (x.toBitVec.signExtend 8).signExtend 32 := by rw [lo8, Int8.toBitVec_toInt32, Int32.toBitVec_toInt8]
  rw [Int32.toBitVec_and, BitVec.toNat_and, h]
  have e : ((x.toBitVec.signExtend 8).signExtend 32).toNat % 256 = x.toBitVec.toNat % 256 := by
    rw [BitVec.toNat_signExtend]
    have hlt := x.toBitVec.isLt
    simp only [BitVec.toNat_setWidth, BitVec.toNat_signExtend]
    split <;> split <;> omega
  rw [← e]
  exact Nat.and_two_pow_sub_one_eq_mod _ 8
theorem pair_says {c : Int32} (h0 : ¬ c < 0) (h1 : ¬ 65535 < c) : pairCh (lo8 c) (hi8 c) = c := by
  rw [Int32.lt_iff_toInt_lt] at h0 h1
  have e0 : (0 : Int32).toInt = 0 := rfl
  have e1 : (65535 : Int32).toInt = 65535 := rfl
  have hc : c.toInt = c.toBitVec.toNat := by
    have := c.toBitVec.isLt
    have e : c.toInt = c.toBitVec.toInt := rfl
    rw [e] at h0 h1
    rw [e]
    rw [BitVec.toInt_eq_toNat_cond] at h0 h1 ⊢
    split at h0 <;> split <;> omega
  have hn : c.toBitVec.toNat < 65536 := by omega
  have a1 := lo8_and c
  have a2 : (hi8 c &&& 255).toBitVec.toNat = c.toBitVec.toNat / 256 := by
    rw [hi8, lo8_and]
    have e : ((8 : Int32) &&& 31) = 8 := by decide
    rw [e, Int32.toBitVec_shiftRight]
    have e2 : ((8 : Int32).toBitVec.smod 32) = 8#32 := by decide
    rw [e2, BitVec.sshiftRight_eq', BitVec.toNat_sshiftRight_of_msb_false (by rw [BitVec.msb_eq_false_iff_two_mul_lt]; omega)]
    show c.toBitVec.toNat >>> 8 % 256 = _
    rw [Nat.shiftRight_eq_div_pow]
    omega
  unfold pairCh
  apply Int32.toBitVec_inj.mp
  apply BitVec.eq_of_toNat_eq
  have f0 : ((0 : Int32) &&& 31) = 0 := by decide
  have f8 : ((8 : Int32) &&& 31) = 8 := by decide
  rw [f0, f8]
  have g : (((lo8 c &&& 255) <<< (0 : Int32)) ||| ((hi8 c &&& 255) <<< (8 : Int32))).toBitVec.toNat = c.toBitVec.toNat := by
    rw [Int32.toBitVec_or, Int32.toBitVec_shiftLeft, Int32.toBitVec_shiftLeft]
    have s0 : ((0 : Int32).toBitVec.smod 32) = 0#32 := by decide
    have s8 : ((8 : Int32).toBitVec.smod 32) = 8#32 := by decide
    rw [s0, s8, BitVec.toNat_or]
    simp only [BitVec.shiftLeft_eq', BitVec.toNat_shiftLeft, a1, a2]
    show (c.toBitVec.toNat % 256) <<< 0 % 2 ^ 32 ||| (c.toBitVec.toNat / 256) <<< 8 % 2 ^ 32 = _
    rw [Nat.shiftLeft_zero, Nat.mod_eq_of_lt (show c.toBitVec.toNat % 256 < 2 ^ 32 by omega), Nat.mod_eq_of_lt (show (c.toBitVec.toNat / 256) <<< 8 < 2 ^ 32 by rw [Nat.shiftLeft_eq]; omega), Nat.or_comm, ← Nat.shiftLeft_add_eq_or_of_lt (by omega), Nat.shiftLeft_eq]
    omega
  show BitVec.toNat (((((lo8 c &&& 255) <<< (0 : Int32)) ||| ((hi8 c &&& 255) <<< (8 : Int32))).toBitVec.setWidth 16).setWidth 32) = _
  rw [BitVec.toNat_setWidth, BitVec.toNat_setWidth, g]
  omega
end StrChars
namespace StrChars
open Jvm Sem ClassFile Op Lib Jvm.Stand Jvm.Free.XT Jvm.Free.ALB Jvm.Free.JM Jvm.Free
open Jvm.Lib.Cold (StaticIs)
theorem shr1 {n : Nat} (h : 2 * n < 2 ^ 31) : Int32.ofNat (2 * n) >>> ((1 : Int32) &&& 31) = Int32.ofNat n := by
  have e : ((1 : Int32) &&& 31) = 1 := by decide
  rw [e]
  apply Int32.toBitVec_inj.mp
  rw [Int32.toBitVec_shiftRight]
  have e1 : ((1 : Int32).toBitVec.smod 32) = 1#32 := by decide
  have hm : (BitVec.ofNat 32 (2 * n)).toNat = 2 * n := by rw [BitVec.toNat_ofNat, Nat.mod_eq_of_lt (by omega)]
  rw [e1, BitVec.sshiftRight_eq']
  apply BitVec.eq_of_toNat_eq
  show ((BitVec.ofNat 32 (2 * n)).sshiftRight 1).toNat = (BitVec.ofNat 32 n).toNat
  rw [BitVec.toNat_sshiftRight_of_msb_false (by rw [BitVec.msb_eq_false_iff_two_mul_lt, hm]; omega), hm, BitVec.toNat_ofNat, Nat.shiftRight_eq_div_pow]
  omega
/-- charAt's cast of a byte read back -/
def chr8 (u : Int32) : Int32 := (u &&& 255).toUInt32.toUInt16.toUInt32.toInt32
theorem chr8_lo8 {c : Int32} (h0 : ¬ c < 0) (h1 : ¬ 255 < c) : chr8 (lo8 c) = c := by
  have t : ∀ k : Fin 256, (Int32.ofNat k.val).toUInt32.toUInt16.toUInt32.toInt32 = Int32.ofNat k.val := by decide +kernel
  unfold chr8
  rw [lo8_mask h0 h1]
  rw [Int32.lt_iff_toInt_lt] at h0 h1
  have e0 : (0 : Int32).toInt = 0 := rfl
  have e1 : (255 : Int32).toInt = 255 := rfl
  obtain ⟨k, hk⟩ : ∃ k : Nat, c.toInt = k := ⟨c.toInt.toNat, by omega⟩
  have hx : c = Int32.ofNat k := Int32.toInt_inj.mp (by rw [hk, Int32.toInt_ofNat_small (by omega)])
  rw [hx]
  exact t ⟨k, by omega⟩
theorem narrow_ch {c : Int32} (h0 : ¬ c < 0) (h1 : ¬ 65535 < c) : narrow .char (.int c) = .int c := by
  have q : narrow .char (.int (pairCh (lo8 c) (hi8 c))) = .int (pairCh (lo8 c) (hi8 c)) := narrow_c _
  rwa [pair_says h0 h1] at q
/-- the array's cell V codes the n chars f 0 .. f (n - 1) by the coder cd, as the JDK does: coder 1 just where some char is above 255 -/
def Cod (cd : Int32) (n : Nat) (f : Nat → Int32) (V : Cell) : Prop := (cd = 0 ∧ V.slots.size = n ∧ ∀ j, j < n → V.slots[j]? = some (.int (lo8 (f j))) ∧ ¬ 255 < f j) ∨ (cd = 1 ∧ V.slots.size = 2 * n ∧ (∀ j, j < n → V.slots[2 * j]? = some (.int (lo8 (f j))) ∧ V.slots[2 * j + 1]? = some (.int (hi8 (f j)))) ∧ ∃ j, j < n ∧ 255 < f j)
theorem Cod.cd {cd : Int32} {n : Nat} {f : Nat → Int32} {V : Cell} (h : Cod cd n f V) : cd = 0 ∨ cd = 1 := h.imp (fun q => q.1) fun q => q.1
theorem Cod.len {cd : Int32} {n : Nat} {f : Nat → Int32} {V : Cell} (h : Cod cd n f V) (hs : V.slots.size < 2 ^ 31) : Int32.ofNat V.slots.size >>> (cd &&& 31) = Int32.ofNat n := by
  rcases h with ⟨rfl, h, -⟩ | ⟨rfl, h, -⟩
  · rw [shr0, h]
  · rw [h, shr1 (by omega)]
/-- **x is a String of the n chars f 0 .. f (n - 1)**, Latin-1 or UTF-16; its array at t has the cell V -/
def Txt (x t : Addr) (V : Cell) (cd : Int32) (n : Nat) (f : Nat → Int32) (U : State) : Prop := Exact "java/lang/String" x U ∧ Has x "java/lang/String" "value" "[B" (.ref t) U ∧ Has x "java/lang/String" "coder" "B" (.int cd) U ∧ XT.Arr .byte t V U ∧ Cod cd n f V ∧ ∀ j, j < n → ¬ f j < 0 ∧ ¬ 65535 < f j
theorem Txt.mv {x t : Addr} {V : Cell} {cd : Int32} {n : Nat} {f : Nat → Int32} {U U' : State} (h : Txt x t V cd n f U) (hal : U.vm.Alike U'.vm) (hh : U'.heap = U.heap) : Txt x t V cd n f U' := ⟨h.1.mv hal hh, h.2.1.mv hal hh, h.2.2.1.mv hal hh, h.2.2.2.1.mv hal hh, h.2.2.2.2⟩
namespace Cdr
def yN : MethodName := ⟨"java/lang/String", "coder", "()B"⟩
abbrev yB : ByteArray := jdk_42_method_152_code
theorem d0 : decode yB 0 = .ok (.getstatic 38, 3) := by decide +kernel
theorem d3 : decode yB 3 = .ok (.ifCond (.eq) 10, 3) := by decide +kernel
theorem d6 : decode yB 6 = .ok (.aload_n 0, 1) := by decide +kernel
theorem d7 : decode yB 7 = .ok (.getfield 15, 3) := by decide +kernel
theorem d10 : decode yB 10 = .ok (.goto 4, 3) := by decide +kernel
theorem d14 : decode yB 14 = .ok (.ireturn, 1) := by decide +kernel
def site : List Cond := [.fieldLink "java/lang/String" 38 "java/lang/String" "COMPACT_STRINGS" "Z", .fieldLink "java/lang/String" 15 "java/lang/String" "coder" "B"]
def tab : Cond := tabOf yN yB 1 (some .byte) site
def P (x : Addr) (cd z : Int32) (args : Array Value) (s : State) : Prop := args = #[.ref x] ∧ Has x "java/lang/String" "coder" "B" (.int cd) s ∧ (cd = 0 ∨ cd = 1) ∧ StaticIs s "java/lang/String" "COMPACT_STRINGS" "Z" (.int z) ∧ ¬ z = 0
def E (cd : Int32) (r : Option Value) (s u : State) : Prop := XT.PureE (some (.int cd)) r s u
theorem law (l : Launch) (x : Addr) (cd z : Int32) : Law l yN 1 0 0 0 yB 1 (some .byte) site (P x cd z) (E cd) [] 0 0 := by
  refine Law.of_walk (plainFor_of_name (by decide +kernel)) (by decide +kernel) (by decide +kernel) (by decide) (fun _ _ h => by rw [h.1]; rfl) (fun _ U U' hal hh h => ⟨h.1, h.2.1.mv hal hh, h.2.2.1, h.2.2.2.1.there hal hh, h.2.2.2.2⟩) (fun r U U' V V' h1 hal h2 h => XT.PureE.mv r U U' V V' h1 hal h2 h) ?_
  intro p e s m args below meth c s₁ X0 hexec hbytes hml hret hlk hnm hown hh0 W hP
  obtain ⟨rfl, hx, hc, s1, hz⟩ := hP
  have c1 : Steps p.tables e below (s₁.setTop (entryFrame m #[.ref x] 1)) (s₁.setTop (mkF m 0 #[.val (.ref x)] [])) := entry rfl
  obtain ⟨T2, X2, q2, st2⟩ := X0.sget hexec hown (wk W (.fieldLink "java/lang/String" 38 "java/lang/String" "COMPACT_STRINGS" "Z")) s1 (fun _ _ h => by rw [hh0]; exact h) (g := (mkF m 0 #[.val (.ref x)] [])) rfl (hb hbytes d0)
  have hh2 := q2.trans hh0
  have c3 : Steps p.tables e below (s₁.setTop (entryFrame m #[.ref x] 1)) (T2.setTop (mkF m 7 #[.val (.ref x)] [.ref x])) := (c1.trans (st2 _ (Steps.refl _))).trans (by
    refine XS.ifNo X2.here hexec rfl (hb hbytes d3) rfl (i0_eq_f hz) ?_
    refine XS.aloadN X2.here hexec rfl (hb hbytes d6) rfl rfl ?_
    exact Steps.refl _)
  obtain ⟨T4, X4, q4, st4⟩ := X2.hget hexec hown (wk W (.fieldLink "java/lang/String" 15 "java/lang/String" "coder" "B")) (hx.mv X2.warmed.alike hh2) (g := (mkF m 7 #[.val (.ref x)] [.ref x])) rfl (rest := []) rfl (hb hbytes d7)
  have c5 : Steps p.tables e below (s₁.setTop (entryFrame m #[.ref x] 1)) (T4.setTop (mkF m 14 #[.val (.ref x)] [.int cd])) := (c3.trans (st4 _ (Steps.refl _))).trans (by
    refine XS.goto X4.here hexec rfl (pc0 := 10) rfl (hb hbytes d10) (by decide) rfl ?_
    exact Steps.refl _)
  exact ⟨T4, some (.int cd), _, _, _, X4, rfl, rfl, rfl, (fun h => by cases h), ⟨rfl, q4.trans hh2⟩, fun fs hl => c5.trans (X4.ireturnOut hexec hret (by rcases hc with rfl | rfl <;> rfl) (Or.inr (Or.inr (Or.inl rfl))) (hb hbytes d14) hl)⟩
end Cdr
namespace Len
def yN : MethodName := ⟨"java/lang/String", "length", "()I"⟩
abbrev yB : ByteArray := jdk_42_method_54_code
theorem d0 : decode yB 0 = .ok (.aload_n 0, 1) := by decide +kernel
theorem d1 : decode yB 1 = .ok (.getfield 9, 3) := by decide +kernel
theorem d4 : decode yB 4 = .ok (.arraylength, 1) := by decide +kernel
theorem d5 : decode yB 5 = .ok (.aload_n 0, 1) := by decide +kernel
theorem d6 : decode yB 6 = .ok (.invokevirtual 335, 3) := by decide +kernel
theorem d9 : decode yB 9 = .ok (.ishr, 1) := by decide +kernel
theorem d10 : decode yB 10 = .ok (.ireturn, 1) := by decide +kernel
def site : List Cond := [.fieldLink "java/lang/String" 9 "java/lang/String" "value" "[B", Cdr.tab] ++ virtW "java/lang/String" 335 "java/lang/String" Cdr.yN Cdr.yN
def tab : Cond := tabOf yN yB 1 (some .int) site
def P (x t : Addr) (V : Cell) (cd : Int32) (n : Nat) (f : Nat → Int32) (z : Int32) (args : Array Value) (s : State) : Prop := args = #[.ref x] ∧ Txt x t V cd n f s ∧ StaticIs s "java/lang/String" "COMPACT_STRINGS" "Z" (.int z) ∧ ¬ z = 0
def E (n : Nat) (r : Option Value) (s u : State) : Prop := XT.PureE (some (.int (Int32.ofNat n))) r s u
/-- length() of a String of n chars, in either coding -/
theorem law (l : Launch) (x t : Addr) (V : Cell) (cd : Int32) (n : Nat) (f : Nat → Int32) (z : Int32) : Law l yN 1 0 1 13 yB 1 (some .int) site (P x t V cd n f z) (E n) [] 0 0 := by
  refine Law.of_walk (plainFor_of_name (by decide +kernel)) (by decide +kernel) (by decide +kernel) (by decide) (fun _ _ h => by rw [h.1]; rfl) (fun _ U U' hal hh h => ⟨h.1, h.2.1.mv hal hh, h.2.2.1.there hal hh, h.2.2.2⟩) (fun r U U' V V' h1 hal h2 h => XT.PureE.mv r U U' V V' h1 hal h2 h) ?_
  intro p e s m args below meth c s₁ X0 hexec hbytes hml hret hlk hnm hown hh0 W hP
  obtain ⟨rfl, hx, s1, hz⟩ := hP
  have v31 := hx.2.2.2.1.2.2.2
  have c1 : Steps p.tables e below (s₁.setTop (entryFrame m #[.ref x] 1)) (s₁.setTop (mkF m 1 #[.val (.ref x)] [.ref x])) := Steps.trans (entry rfl) (by
    show Steps p.tables e below (s₁.setTop (mkF m 0 #[.val (.ref x)] [])) _
    refine XS.aloadN X0.here hexec rfl (hb hbytes d0) rfl rfl ?_
    exact Steps.refl _)
  obtain ⟨T2, X2, q2, st2⟩ := X0.hget hexec hown (wk W (.fieldLink "java/lang/String" 9 "java/lang/String" "value" "[B")) (hx.mv X0.warmed.alike hh0).2.1 (g := (mkF m 1 #[.val (.ref x)] [.ref x])) rfl (rest := []) rfl (hb hbytes d1)
  have hh2 := q2.trans hh0
  have hx2 := hx.mv X2.warmed.alike hh2
  have c3 : Steps p.tables e below (s₁.setTop (entryFrame m #[.ref x] 1)) (T2.setTop (mkF m 6 #[.val (.ref x)] [.ref x, .int (Int32.ofNat V.slots.size)])) := (c1.trans (st2 _ (Steps.refl _))).trans (by
    refine X2.alen hexec hx2.2.2.2.1 rfl rfl (hb hbytes d4) ?_
    refine XS.aloadN X2.here hexec rfl (hb hbytes d5) rfl rfl ?_
    exact Steps.refl _)
  obtain ⟨v4, T4, X4, E4, g4⟩ := X2.callV hexec (Cdr.law l x cd z) hown (wks W (virtW "java/lang/String" 335 "java/lang/String" Cdr.yN Cdr.yN)) rfl (by decide) (wk W Cdr.tab) (W := 1) (Nat.le_of_ble_eq_true rfl) (Nat.le_of_ble_eq_true rfl) (Nat.le_refl _) (Nat.le_refl _) (hx2.1.fc X2.warmed.alike) hx2.1.is (g := (mkF m 6 #[.val (.ref x)] [.ref x, .int (Int32.ofNat V.slots.size)])) rfl (by rw [hml]; rfl) c3 (argsL := []) (rest := [.int (Int32.ofNat V.slots.size)]) rfl rfl (by show 2 * 0 + (1 + 0) ≤ _; decide) (hb hbytes d6) (⟨rfl, hx2.2.2.1, hx.2.2.2.2.1.cd, s1.there X2.warmed.alike hh2, hz⟩)
  obtain ⟨rfl, q4⟩ := E4
  have c5 : Steps p.tables e below (s₁.setTop (entryFrame m #[.ref x] 1)) (T4.setTop (mkF m 10 #[.val (.ref x)] [.int (Int32.ofNat V.slots.size >>> (cd &&& 31))])) := Steps.trans g4 (by
    refine ishr X4.here hexec rfl (hb hbytes d9) rfl ?_
    exact Steps.refl _)
  rw [hx.2.2.2.2.1.len v31] at c5
  exact ⟨T4, some (.int (Int32.ofNat n)), _, _, _, X4, rfl, rfl, rfl, (fun h => by cases h), ⟨rfl, q4.trans hh2⟩, fun fs hl => c5.trans (X4.ireturnOut hexec hret rfl (Or.inl rfl) (hb hbytes d10) hl)⟩
theorem pays {l : Launch} {R : Room} {p : Program} {e : Env} {below : List Frame} {s : State} {sargs : Array Value} {len W : Nat} (x t : Addr) (V : Cell) (cd : Int32) (n : Nat) (f : Nat → Int32) (z : Int32) (htab : tab.before sargs s = true) (hfr : 2 ≤ R.frames) (hlo : W + 25 ≤ R.locals) :
    Back l R p e below s sargs yN len W (fun A₁ a₁ => A₁.cells + 0 ≤ R.cells ∧ A₁.slots + 0 ≤ R.slots ∧ P x t V cd n f z a₁ A₁.U) (fun A₁ _ v₁ B₁ => E n v₁ A₁.U B₁.U ∧ B₁.locs = A₁.locs ++ [] ∧ B₁.cells = A₁.cells + 0 ∧ B₁.slots = A₁.slots + 0) :=
  (law l x t V cd n f z).pays htab hfr (by omega)
end Len
namespace IsL
def yN : MethodName := ⟨"java/lang/String", "isLatin1", "()Z"⟩
abbrev yB : ByteArray := jdk_42_method_154_code
theorem d0 : decode yB 0 = .ok (.getstatic 38, 3) := by decide +kernel
theorem d3 : decode yB 3 = .ok (.ifCond (.eq) 14, 3) := by decide +kernel
theorem d6 : decode yB 6 = .ok (.aload_n 0, 1) := by decide +kernel
theorem d7 : decode yB 7 = .ok (.getfield 15, 3) := by decide +kernel
theorem d10 : decode yB 10 = .ok (.ifCond (.ne) 7, 3) := by decide +kernel
theorem d13 : decode yB 13 = .ok (.iconst 1, 1) := by decide +kernel
theorem d14 : decode yB 14 = .ok (.goto 4, 3) := by decide +kernel
theorem d17 : decode yB 17 = .ok (.iconst 0, 1) := by decide +kernel
theorem d18 : decode yB 18 = .ok (.ireturn, 1) := by decide +kernel
def site : List Cond := [.fieldLink "java/lang/String" 38 "java/lang/String" "COMPACT_STRINGS" "Z", .fieldLink "java/lang/String" 15 "java/lang/String" "coder" "B"]
def tab : Cond := tabOf yN yB 1 (some .boolean) site
def P (x : Addr) (cd z : Int32) (args : Array Value) (s : State) : Prop := args = #[.ref x] ∧ Has x "java/lang/String" "coder" "B" (.int cd) s ∧ (cd = 0 ∨ cd = 1) ∧ StaticIs s "java/lang/String" "COMPACT_STRINGS" "Z" (.int z) ∧ ¬ z = 0
def E (cd : Int32) (r : Option Value) (s u : State) : Prop := XT.PureE (some (.int (1 - cd))) r s u
theorem law (l : Launch) (x : Addr) (cd z : Int32) : Law l yN 1 0 0 0 yB 1 (some .boolean) site (P x cd z) (E cd) [] 0 0 := by
  refine Law.of_walk (plainFor_of_name (by decide +kernel)) (by decide +kernel) (by decide +kernel) (by decide) (fun _ _ h => by rw [h.1]; rfl) (fun _ U U' hal hh h => ⟨h.1, h.2.1.mv hal hh, h.2.2.1, h.2.2.2.1.there hal hh, h.2.2.2.2⟩) (fun r U U' V V' h1 hal h2 h => XT.PureE.mv r U U' V V' h1 hal h2 h) ?_
  intro p e s m args below meth c s₁ X0 hexec hbytes hml hret hlk hnm hown hh0 W hP
  obtain ⟨rfl, hx, hc, s1, hz⟩ := hP
  have c1 : Steps p.tables e below (s₁.setTop (entryFrame m #[.ref x] 1)) (s₁.setTop (mkF m 0 #[.val (.ref x)] [])) := entry rfl
  obtain ⟨T2, X2, q2, st2⟩ := X0.sget hexec hown (wk W (.fieldLink "java/lang/String" 38 "java/lang/String" "COMPACT_STRINGS" "Z")) s1 (fun _ _ h => by rw [hh0]; exact h) (g := (mkF m 0 #[.val (.ref x)] [])) rfl (hb hbytes d0)
  have hh2 := q2.trans hh0
  have c3 : Steps p.tables e below (s₁.setTop (entryFrame m #[.ref x] 1)) (T2.setTop (mkF m 7 #[.val (.ref x)] [.ref x])) := (c1.trans (st2 _ (Steps.refl _))).trans (by
    refine XS.ifNo X2.here hexec rfl (hb hbytes d3) rfl (i0_eq_f hz) ?_
    refine XS.aloadN X2.here hexec rfl (hb hbytes d6) rfl rfl ?_
    exact Steps.refl _)
  obtain ⟨T4, X4, q4, st4⟩ := X2.hget hexec hown (wk W (.fieldLink "java/lang/String" 15 "java/lang/String" "coder" "B")) (hx.mv X2.warmed.alike hh2) (g := (mkF m 7 #[.val (.ref x)] [.ref x])) rfl (rest := []) rfl (hb hbytes d7)
  have c5 : Steps p.tables e below (s₁.setTop (entryFrame m #[.ref x] 1)) (T4.setTop (mkF m 10 #[.val (.ref x)] [.int cd])) := c3.trans (st4 _ (Steps.refl _))
  have c6 : Steps p.tables e below (s₁.setTop (entryFrame m #[.ref x] 1)) (T4.setTop (mkF m 18 #[.val (.ref x)] [.int (1 - cd)])) := by
    rcases hc with rfl | rfl
    · exact c5.trans (by
        refine XS.ifNo X4.here hexec rfl (hb hbytes d10) rfl (i0_ne_f rfl) ?_
        refine iconstV X4.here hexec rfl 1 (hb hbytes d13) (by decide) ?_
        refine XS.goto X4.here hexec rfl (pc0 := 14) rfl (hb hbytes d14) (by decide) rfl ?_
        exact Steps.refl _)
    · exact c5.trans (by
        refine XS.ifYes X4.here hexec rfl (pc0 := 10) rfl (hb hbytes d10) rfl (i0_ne_t (by decide)) (by decide) rfl ?_
        refine iconstV X4.here hexec rfl 0 (hb hbytes d17) (by decide) ?_
        exact Steps.refl _)
  exact ⟨T4, some (.int (1 - cd)), _, _, _, X4, rfl, rfl, rfl, (fun h => by cases h), ⟨rfl, q4.trans hh2⟩, fun fs hl => c6.trans (X4.ireturnOut hexec hret (by rcases hc with rfl | rfl <;> rfl) (Or.inr (Or.inl rfl)) (hb hbytes d18) hl)⟩
end IsL
namespace LChA
def yN : MethodName := ⟨"java/lang/StringLatin1", "charAt", "([BI)C"⟩
abbrev yB : ByteArray := jdk_43_method_2_code
theorem d0 : decode yB 0 = .ok (.iload_n 1, 1) := by decide +kernel
theorem d1 : decode yB 1 = .ok (.aload_n 0, 1) := by decide +kernel
theorem d2 : decode yB 2 = .ok (.arraylength, 1) := by decide +kernel
theorem d3 : decode yB 3 = .ok (.invokestatic 9, 3) := by decide +kernel
theorem d6 : decode yB 6 = .ok (.aload_n 0, 1) := by decide +kernel
theorem d7 : decode yB 7 = .ok (.iload_n 1, 1) := by decide +kernel
theorem d8 : decode yB 8 = .ok (.baload, 1) := by decide +kernel
theorem d9 : decode yB 9 = .ok (.sipush 255, 3) := by decide +kernel
theorem d12 : decode yB 12 = .ok (.iand, 1) := by decide +kernel
theorem d13 : decode yB 13 = .ok (.i2c, 1) := by decide +kernel
theorem d14 : decode yB 14 = .ok (.ireturn, 1) := by decide +kernel
def site : List Cond := [JO.Str_checkIndex.tab] ++ staticW "java/lang/StringLatin1" 9 JO.Str_checkIndex.yN
def tab : Cond := tabOf yN yB 2 (some .char) site
def P (t : Addr) (V : Cell) (i : Nat) (u : Int32) (fm : Value) (args : Array Value) (s : State) : Prop := args = #[.ref t, .int (Int32.ofNat i)] ∧ XT.Arr .byte t V s ∧ V.slots[i]? = some (.int u) ∧ (StaticIs s "jdk/internal/util/Preconditions" "SIOOBE_FORMATTER" "Ljava/util/function/BiFunction;" fm ∧ fm.isRef = true)
def E (u : Int32) (r : Option Value) (s w : State) : Prop := XT.PureE (some (.int (chr8 u))) r s w
theorem law (l : Launch) (t : Addr) (V : Cell) (i : Nat) (u : Int32) (fm : Value) : Law l yN 2 2 2 27 yB 2 (some .char) site (P t V i u fm) (E u) [] 0 0 := by
  refine Law.of_walk (plainFor_of_name (by decide +kernel)) (by decide +kernel) (by decide +kernel) (by decide) (fun _ _ h => by rw [h.1]; rfl) (fun _ U U' hal hh h => ⟨h.1, h.2.1.mv hal hh, h.2.2.1, h.2.2.2.1.there hal hh, h.2.2.2.2⟩) (fun r U U' V V' h1 hal h2 h => XT.PureE.mv r U U' V V' h1 hal h2 h) ?_
  intro p e s m args below meth c s₁ X0 hexec hbytes hml hret hlk hnm hown hh0 W hP
  obtain ⟨rfl, hV, hu, s1, rf⟩ := hP
  have v31 := hV.2.2.2
  have hi : i < V.slots.size := (Array.getElem?_eq_some_iff.mp hu).1
  have c1 : Steps p.tables e below (s₁.setTop (entryFrame m #[.ref t, .int (Int32.ofNat i)] 2)) (s₁.setTop (mkF m 0 #[.val (.ref t), .val (.int (Int32.ofNat i))] [])) := entry rfl
  have c2 : Steps p.tables e below (s₁.setTop (entryFrame m #[.ref t, .int (Int32.ofNat i)] 2)) (s₁.setTop (mkF m 3 #[.val (.ref t), .val (.int (Int32.ofNat i))] [.int (Int32.ofNat V.slots.size), .int (Int32.ofNat i)])) := c1.trans (by
    refine XS.iloadN X0.here hexec rfl (hb hbytes d0) rfl ?_
    refine XS.aloadN X0.here hexec rfl (hb hbytes d1) rfl rfl ?_
    refine X0.alen hexec (hV.mv X0.warmed.alike hh0) rfl rfl (hb hbytes d2) ?_
    exact Steps.refl _)
  obtain ⟨v3, T3, X3, E3, g3⟩ := X0.callS hexec (JO.Str_checkIndex.law l (Int32.ofNat i) (Int32.ofNat V.slots.size) fm) hown (wks W (staticW "java/lang/StringLatin1" 9 JO.Str_checkIndex.yN)) (wk W JO.Str_checkIndex.tab) (W := 0) (Nat.le_of_ble_eq_true rfl) (Nat.le_of_ble_eq_true rfl) (Nat.le_refl _) (Nat.le_refl _) (g := (mkF m 3 #[.val (.ref t), .val (.int (Int32.ofNat i))] [.int (Int32.ofNat V.slots.size), .int (Int32.ofNat i)])) rfl (by rw [hml]; rfl) c2 (argsL := [.int (Int32.ofNat i), .int (Int32.ofNat V.slots.size)]) (rest := []) rfl rfl (by show 2 * 0 + 0 ≤ _; decide) (hb hbytes d3) (⟨rfl, rf, s1.there X0.warmed.alike hh0, Int32.ofNat_not_neg (by omega), lt32 v31 hi⟩)
  obtain ⟨rfl, q3⟩ := E3
  have hh3 := q3.trans hh0
  have c4 : Steps p.tables e below (s₁.setTop (entryFrame m #[.ref t, .int (Int32.ofNat i)] 2)) (T3.setTop (mkF m 14 #[.val (.ref t), .val (.int (Int32.ofNat i))] [.int (chr8 u)])) := Steps.trans g3 (by
    refine XS.aloadN X3.here hexec rfl (hb hbytes d6) rfl rfl ?_
    refine XS.iloadN X3.here hexec rfl (hb hbytes d7) rfl ?_
    refine X3.aget hexec (hV.mv X3.warmed.alike hh3) rfl hu rfl rfl (hb hbytes d8) ?_
    refine sipushV X3.here hexec rfl 255 (hb hbytes d9) (by decide) ?_
    refine XS.iand X3.here hexec rfl (hb hbytes d12) rfl ?_
    refine i2c X3.here hexec rfl (hb hbytes d13) rfl ?_
    exact Steps.refl _)
  exact ⟨T3, some (.int (chr8 u)), _, _, _, X3, rfl, rfl, rfl, (fun h => by cases h), ⟨rfl, hh3⟩, fun fs hl => c4.trans (X3.ireturnOut hexec hret (narrow_c _) (Or.inr (Or.inr (Or.inr (Or.inl rfl)))) (hb hbytes d14) hl)⟩
end LChA
end StrChars
namespace StrChars.Road
open Jvm Sem ClassFile Op Lib Jvm.Stand Jvm.Free Jvm.Free.XT
open Jvm.Lib.Cold (StaticIs)
theorem consq {a : Array Value} {s : State} {c : Jvm.Cond} {L : List Jvm.Cond} (h0 : c.before a s = true) (h : ∀ w ∈ L, w.before a s = true) : ∀ w ∈ c :: L, w.before a s = true := fun w hw => (List.mem_cons.mp hw).elim (fun e => e ▸ h0) (h w)
/-- the words of String.length(), either coding -/
abbrev wordsLen : List Jvm.Cond := [.code Len.yN Len.yB 1 (some .int), .initialized ST, .fieldLink ST 9 ST "value" "[B", .fieldLink ST 38 ST "COMPACT_STRINGS" "Z", .fieldLink ST 15 ST "coder" "B", .code Cdr.yN Cdr.yB 1 (some .byte), .methodLink ST 335 Cdr.yN, .declares Cdr.yN, .selects ST Cdr.yN Cdr.yN, .instanceMethod Cdr.yN]
theorem tabLen_of {a : Array Value} {s : State} (h : ∀ w ∈ wordsLen, w.before a s = true) : Len.tab.before a s = true := by
  have hc : Cdr.tab.before a s = true := unparts (wk h (.code Cdr.yN Cdr.yB 1 (some .byte))) (wks h (.initialized Cdr.yN.cls :: Cdr.site))
  have q := consq hc h
  exact unparts (wk q (.code Len.yN Len.yB 1 (some .int))) (wks q (.initialized Len.yN.cls :: Len.site))
theorem movedLen {Z s : State} {a0 args : Array Value} (hZ : Z.Warmed39 s.vm) (hw : ∀ d ∈ wordsLen, d.before a0 Z = true) : ∀ d ∈ wordsLen, d.before args s = true := fun d hd => by
  have q := hw d hd
  have t : ∀ d ∈ wordsLen, d = .arrayClass .byte ∨ (d.onTables && d.keepsFace) = true := by decide +kernel
  rcases t d hd with rfl | t
  · exact RoadKit.mvA hZ q
  · exact RoadKit.mv hZ q t
/-- the bytes of the chars cs, low before high -/
def wideBytes : List Int32 → List Value
  | [] => []
  | c :: cs => .int (lo8 c) :: .int (hi8 c) :: wideBytes cs
theorem wide_lo (d : Value) : ∀ (cs : List Int32) (j : Nat), j < cs.length → (wideBytes cs).getD (2 * j) d = .int (lo8 (cs.getD j 0))
  | [], j, h => absurd h (Nat.not_lt_zero j)
  | c :: cs, 0, _ => rfl
  | c :: cs, j + 1, h => by
    have q := wide_lo d cs j (by simpa using h)
    rw [show 2 * (j + 1) = 2 * j + 1 + 1 from by omega]
    simpa [wideBytes] using q
theorem wide_hi (d : Value) : ∀ (cs : List Int32) (j : Nat), j < cs.length → (wideBytes cs).getD (2 * j + 1) d = .int (hi8 (cs.getD j 0))
  | [], j, h => absurd h (Nat.not_lt_zero j)
  | c :: cs, 0, _ => rfl
  | c :: cs, j + 1, h => by
    have q := wide_hi d cs j (by simpa using h)
    rw [show 2 * (j + 1) + 1 = 2 * j + 1 + 1 + 1 from by omega]
    simpa [wideBytes] using q
theorem low_at (d : Value) (cs : List Int32) (j : Nat) (h : j < cs.length) : (cs.map fun c => Value.int (lo8 c)).getD j d = .int (lo8 (cs.getD j 0)) := by
  simp [List.getD_eq_getElem?_getD, h]
/-- an array of N2 bytes vs codes the chars cs by the coder cd -/
def CodA (cs : List Int32) (cd N2 : Int32) (vs : List Value) : Prop := (cd = 0 ∧ N2 = Int32.ofNat cs.length ∧ vs = (cs.map fun c => Value.int (lo8 c)) ∧ ∀ c ∈ cs, ¬ 255 < c) ∨ (cd = 1 ∧ N2 = Int32.ofNat (2 * cs.length) ∧ vs = wideBytes cs ∧ ∃ c ∈ cs, 255 < c)
theorem CodA.cod {cs : List Int32} {cd N2 : Int32} {vs : List Value} {V : Cell} (h : CodA cs cd N2 vs) (hn : 2 * cs.length < 2 ^ 31) (hs : V.slots.size = N2.toNatClampNeg) (hv : RoadKit.Has V vs (.int 0)) : Cod cd cs.length (fun j => cs.getD j 0) V := by
  rcases h with ⟨rfl, rfl, rfl, h⟩ | ⟨rfl, rfl, rfl, c, hc, hw⟩
  · rw [n32 (by omega)] at hs
    exact Or.inl ⟨rfl, hs, fun j hj => ⟨by rw [hv j (by omega), low_at _ _ _ hj], by
      have e : cs.getD j 0 = cs[j] := by simp [List.getD_eq_getElem?_getD, hj]
      show ¬ 255 < cs.getD j 0
      rw [e]; exact h _ (List.getElem_mem _)⟩⟩
  · rw [n32 (by omega)] at hs
    obtain ⟨j, hj, rfl⟩ := List.getElem_of_mem hc
    exact Or.inr ⟨rfl, hs, fun j hj => ⟨by rw [hv _ (by omega), wide_lo _ _ _ hj], by rw [hv _ (by omega), wide_hi _ _ _ hj]⟩, j, hj, by
      have e : cs.getD j 0 = cs[j] := by simp [List.getD_eq_getElem?_getD, hj]
      show 255 < cs.getD j 0
      rw [e]; exact hw⟩
/-- an object of exactly java/lang/String, its two fields found: as the laws ask it -/
theorem strObj {Z U : State} {a0 : Array Value} {kI : Nat} (wi : (Jvm.Cond.instantiable ST kI).before a0 Z = true) (al : Z.vm.Alike U.vm) {x : Addr} {v0 c0 : Value} (E : RoadKit.Exa Z U.heap x ST) (V : RoadKit.Fld Z U.heap x ST "value" "[B" v0) (C : RoadKit.Fld Z U.heap x ST "coder" "B" c0) :
    ∃ (D : Cell) (fV fC : Field), Blank ST x D U ∧ Found ST "value" "[B" fV U ∧ Found ST "coder" "B" fC U ∧ D.slots[fV.slot]? = some v0 ∧ D.slots[fC.slot]? = some c0 ∧ RoadKit.slotOf Z ST "value" "[B" = fV.slot ∧ RoadKit.slotOf Z ST "coder" "B" = fC.slot := by
  obtain ⟨D, cfV, kV, iV, fV, hD, gV, stV, knV, obV, asV, slV⟩ := V
  obtain ⟨D', cfC, kC, iC, fC, hD', gC, stC, -, -, asC, slC⟩ := C
  cases hD.symm.trans hD'
  obtain ⟨D2, kD, e1, e2, e3, e4, e5⟩ := E
  cases hD.symm.trans e1
  obtain ⟨c2, k2, i1, i2, i3, -⟩ := Cond.instantiable_spec wi
  cases e2.symm.trans i1
  cases e3.symm.trans i2
  obtain ⟨kU, u1, u2⟩ := al.2.2 _ _ e3
  exact ⟨D, fV, fC, ⟨hD, ⟨knV, fun q hq => by rw [hq] at obV; cases obV⟩, by rw [al.findClass]; exact e2, kU, u1, by rw [u2]; exact i3, by rw [u2]; exact e5 i3⟩, ⟨SBG.found_only al ⟨cfV, kV, iV, gV⟩, stV⟩, ⟨SBG.found_only al ⟨cfC, kC, iC, gC⟩, stC⟩, slV, slC, by simp [RoadKit.slotOf, gV], by simp [RoadKit.slotOf, gC]⟩
theorem sta_is {Z U : State} (al : Z.vm.Alike U.vm) {C n d : String} {v : Value} (S : RoadKit.Sta Z U.heap C n d v) : StaticIs U C n d v := by
  obtain ⟨cfS, iS, kS, fS, st, cS, t1, t2, t3, t4, t5, t6, t7⟩ := S
  exact StaticIs.there (s := { Z with heap := U.heap }) ⟨cfS, iS, kS, fS, st, cS, t1, t2, t3, t4, t5, (fun q => by rw [q] at t6; cases t6), t7⟩ al rfl
/-- **length() OF SUCH A STRING** -/
theorem lenW {p : Program} {l : Launch} {e : Env} {R : Room} {s : State} {args : Array Value} {below : List Frame} {len W : Nat} {Z : State} {a0 : Array Value} {h : Heap} (hZ : Z.Warmed39 s.vm) (hw : ∀ d ∈ wordsLen, d.before a0 Z = true) {kI : Nat} (wi : (Jvm.Cond.instantiable ST kI).before a0 Z = true)
    {x t : Addr} {kb : ClassId} {cs : List Int32} {cd N2 z : Int32} {vs : List Value} (E : RoadKit.Exa Z h x ST) (V : RoadKit.Fld Z h x ST "value" "[B" (.ref t)) (C : RoadKit.Fld Z h x ST "coder" "B" (.int cd)) (K : RoadKit.Arv Z h t kb .byte N2 vs (.int 0)) (hc : CodA cs cd N2 vs) (hb : ∀ c ∈ cs, ¬ c < 0 ∧ ¬ (65535 : Int32) < c)
    (S : RoadKit.Sta Z h ST "COMPACT_STRINGS" "Z" (.int z)) (hz : ¬ z = 0) (l2 : cs.length ≤ 4000) (hfr : 2 ≤ R.frames) (hlo : W + 25 ≤ R.locals) :
    Back l R p e below s args (⟨"java/lang/String", "length", "()I"⟩ : MethodName) len W (fun P a => a = #[.ref x] ∧ P.U.heap = h ∧ P.cells + 0 ≤ R.cells ∧ P.slots + 0 ≤ R.slots)
      (fun P _ v B => ∃ L, (v = some (.int (Int32.ofNat cs.length)) ∧ L = [] ∧ B.U.heap = h) ∧ B.locs = P.locs ++ L ∧ B.cells = P.cells + 0 ∧ B.slots = P.slots + 0) := by
  obtain ⟨A, K1, K2, K3, K4, K5, K6⟩ := K
  have hcod := hc.cod (by omega) K3 K5
  intro m meth c P g ig mk a X hg hsize hdg hW hn hp'
  obtain ⟨rfl, rfl, r1, r2⟩ := hp'
  have al : Z.vm.Alike P.U.vm := hZ.alike.trans X.warmed.alike
  obtain ⟨D, fV, fC, hB, F1, F2, g1, g2, -, -⟩ := strObj wi al E V C
  have hx : Txt x t A cd cs.length (fun j => cs.getD j 0) P.U := ⟨⟨_, hB.2.2.1, D, hB.1, rfl, by cases q : D.vm <;> first | rfl | exact absurd q (hB.2.1.2 _)⟩, Has.of hB F1 g1, Has.of hB F2 g2, ⟨K1.1, State.isArrayOf_alike al K1.2.1, K1.2.2, by rcases hcod with ⟨-, q, -⟩ | ⟨-, q, -⟩ <;> omega⟩, hcod, fun j hj => by
    have e : cs.getD j 0 = cs[j] := by simp [List.getD_eq_getElem?_getD, hj]
    show ¬ cs.getD j 0 < 0 ∧ ¬ 65535 < cs.getD j 0
    rw [e]; exact hb _ (List.getElem_mem _)⟩
  obtain ⟨v, B, X', ⟨⟨hv, hh⟩, hl, hk, hs⟩, st⟩ := Len.pays x t A cd cs.length (fun j => cs.getD j 0) z (tabLen_of (movedLen hZ hw)) hfr hlo m meth c P g ig mk _ X hg hsize hdg hW hn ⟨r1, r2, rfl, hx, sta_is al S, hz⟩
  exact ⟨v, B, X', ⟨[], ⟨hv, rfl, hh⟩, hl, hk, hs⟩, st⟩
end StrChars.Road
namespace StrChars.Road
open Jvm Sem ClassFile Op Lib Jvm.Stand Jvm.Free Jvm.Free.XT
open Jvm.Lib.Cold (StaticIs)
/-- the road's facts of a String, as the laws ask it -/
theorem txt_of {Z U : State} {a0 : Array Value} {kI : Nat} (wi : (Jvm.Cond.instantiable ST kI).before a0 Z = true) (al : Z.vm.Alike U.vm) {x t : Addr} {kb : ClassId} {cs : List Int32} {cd N2 : Int32} {vs : List Value} (E : RoadKit.Exa Z U.heap x ST) (V : RoadKit.Fld Z U.heap x ST "value" "[B" (.ref t)) (C : RoadKit.Fld Z U.heap x ST "coder" "B" (.int cd)) (K : RoadKit.Arv Z U.heap t kb .byte N2 vs (.int 0)) (hc : CodA cs cd N2 vs) (hb : ∀ c ∈ cs, ¬ c < 0 ∧ ¬ (65535 : Int32) < c) (l2 : cs.length ≤ 4000) :
    ∃ A, Txt x t A cd cs.length (fun j => cs.getD j 0) U := by
  obtain ⟨A, K1, K2, K3, K4, K5, K6⟩ := K
  have hcod := hc.cod (by omega) K3 K5
  obtain ⟨D, fV, fC, hB, F1, F2, g1, g2, -, -⟩ := strObj wi al E V C
  exact ⟨A, ⟨_, hB.2.2.1, D, hB.1, rfl, by cases q : D.vm <;> first | rfl | exact absurd q (hB.2.1.2 _)⟩, Has.of hB F1 g1, Has.of hB F2 g2, ⟨K1.1, State.isArrayOf_alike al K1.2.1, K1.2.2, by rcases hcod with ⟨-, q, -⟩ | ⟨-, q, -⟩ <;> omega⟩, hcod, fun j hj => by
    have e : cs.getD j 0 = cs[j] := by simp [List.getD_eq_getElem?_getD, hj]
    show ¬ cs.getD j 0 < 0 ∧ ¬ 65535 < cs.getD j 0
    rw [e]; exact hb _ (List.getElem_mem _)⟩
end StrChars.Road
namespace StrChars
open Jvm Sem ClassFile Op Lib Jvm.Stand Jvm.Free.XT Jvm.Free.ALB Jvm.Free.JM Jvm.Free
open Jvm.Lib.Cold (StaticIs)
namespace ChN
def yN : MethodName := ⟨"java/lang/String", "charAt", "(I)C"⟩
abbrev yB : ByteArray := jdk_42_method_56_code
theorem d0 : decode yB 0 = .ok (.aload_n 0, 1) := by decide +kernel
theorem d1 : decode yB 1 = .ok (.invokevirtual 492, 3) := by decide +kernel
theorem d4 : decode yB 4 = .ok (.ifCond (.eq) 12, 3) := by decide +kernel
theorem d7 : decode yB 7 = .ok (.aload_n 0, 1) := by decide +kernel
theorem d8 : decode yB 8 = .ok (.getfield 9, 3) := by decide +kernel
theorem d11 : decode yB 11 = .ok (.iload_n 1, 1) := by decide +kernel
theorem d12 : decode yB 12 = .ok (.invokestatic 495, 3) := by decide +kernel
theorem d15 : decode yB 15 = .ok (.ireturn, 1) := by decide +kernel
def site : List Cond := [.fieldLink "java/lang/String" 9 "java/lang/String" "value" "[B", IsL.tab, LChA.tab] ++ virtW "java/lang/String" 492 "java/lang/String" IsL.yN IsL.yN ++ staticW "java/lang/String" 495 LChA.yN
def tab : Cond := tabOf yN yB 2 (some .char) site
def P (x t : Addr) (V : Cell) (n : Nat) (f : Nat → Int32) (z : Int32) (fm : Value) (i : Nat) (args : Array Value) (s : State) : Prop := args = #[.ref x, .int (Int32.ofNat i)] ∧ Txt x t V 0 n f s ∧ i < n ∧ StaticIs s "java/lang/String" "COMPACT_STRINGS" "Z" (.int z) ∧ ¬ z = 0 ∧ StaticIs s "jdk/internal/util/Preconditions" "SIOOBE_FORMATTER" "Ljava/util/function/BiFunction;" fm ∧ fm.isRef = true
def E (f : Nat → Int32) (i : Nat) (r : Option Value) (s u : State) : Prop := XT.PureE (some (.int (f i))) r s u
/-- charAt(i) of a Latin-1 String of n chars, i < n: f i -/
theorem law (l : Launch) (x t : Addr) (V : Cell) (n : Nat) (f : Nat → Int32) (z : Int32) (fm : Value) (i : Nat) : Law l yN 2 1 3 40 yB 2 (some .char) site (P x t V n f z fm i) (E f i) [] 0 0 := by
  refine Law.of_walk (plainFor_of_name (by decide +kernel)) (by decide +kernel) (by decide +kernel) (by decide) (fun _ _ h => by rw [h.1]; rfl) (fun _ U U' hal hh h => ⟨h.1, h.2.1.mv hal hh, h.2.2.1, h.2.2.2.1.there hal hh, h.2.2.2.2.1, h.2.2.2.2.2.1.there hal hh, h.2.2.2.2.2.2⟩) (fun r U U' V V' h1 hal h2 h => XT.PureE.mv r U U' V V' h1 hal h2 h) ?_
  intro p e s m args below meth c s₁ X0 hexec hbytes hml hret hlk hnm hown hh0 W hP
  obtain ⟨rfl, hx, hi, s1, hz, s3, rf⟩ := hP
  have v31 := hx.2.2.2.1.2.2.2
  have hr := hx.2.2.2.2.2 i hi
  have hx0 := hx.mv X0.warmed.alike hh0
  have c1 : Steps p.tables e below (s₁.setTop (entryFrame m #[.ref x, .int (Int32.ofNat i)] 2)) (s₁.setTop (mkF m 1 #[.val (.ref x), .val (.int (Int32.ofNat i))] [.ref x])) := Steps.trans (entry rfl) (by
    show Steps p.tables e below (s₁.setTop (mkF m 0 #[.val (.ref x), .val (.int (Int32.ofNat i))] [])) _
    refine XS.aloadN X0.here hexec rfl (hb hbytes d0) rfl rfl ?_
    exact Steps.refl _)
  obtain ⟨v2, T2, X2, E2, g2⟩ := X0.callV hexec (IsL.law l x 0 z) hown (wks W (virtW "java/lang/String" 492 "java/lang/String" IsL.yN IsL.yN)) rfl (by decide) (wk W IsL.tab) (W := 0) (Nat.le_of_ble_eq_true rfl) (Nat.le_of_ble_eq_true rfl) (Nat.le_refl _) (Nat.le_refl _) (hx0.1.fc X0.warmed.alike) hx0.1.is (g := (mkF m 1 #[.val (.ref x), .val (.int (Int32.ofNat i))] [.ref x])) rfl (by rw [hml]; rfl) c1 (argsL := []) (rest := []) rfl rfl (by show 2 * 0 + 0 ≤ _; decide) (hb hbytes d1) (⟨rfl, hx0.2.2.1, hx.2.2.2.2.1.cd, s1.there X0.warmed.alike hh0, hz⟩)
  obtain ⟨rfl, q2⟩ := E2
  have hh2 := q2.trans hh0
  have hx2 := hx.mv X2.warmed.alike hh2
  obtain ⟨-, k1, k2⟩ | ⟨k0, -⟩ := hx.2.2.2.2.1
  · have c3 : Steps p.tables e below (s₁.setTop (entryFrame m #[.ref x, .int (Int32.ofNat i)] 2)) (T2.setTop (mkF m 8 #[.val (.ref x), .val (.int (Int32.ofNat i))] [.ref x])) := Steps.trans g2 (by
      refine XS.ifNo X2.here hexec rfl (hb hbytes d4) rfl (i0_eq_f (by decide)) ?_
      refine XS.aloadN X2.here hexec rfl (hb hbytes d7) rfl rfl ?_
      exact Steps.refl _)
    obtain ⟨T4, X4, q4, st4⟩ := X2.hget hexec hown (wk W (.fieldLink "java/lang/String" 9 "java/lang/String" "value" "[B")) hx2.2.1 (g := (mkF m 8 #[.val (.ref x), .val (.int (Int32.ofNat i))] [.ref x])) rfl (rest := []) rfl (hb hbytes d8)
    have hh4 := q4.trans hh2
    have c5 : Steps p.tables e below (s₁.setTop (entryFrame m #[.ref x, .int (Int32.ofNat i)] 2)) (T4.setTop (mkF m 12 #[.val (.ref x), .val (.int (Int32.ofNat i))] [.int (Int32.ofNat i), .ref t])) := (c3.trans (st4 _ (Steps.refl _))).trans (by
      refine XS.iloadN X4.here hexec rfl (hb hbytes d11) rfl ?_
      exact Steps.refl _)
    obtain ⟨v6, T6, X6, E6, g6⟩ := X4.callS hexec (LChA.law l t V i (lo8 (f i)) fm) hown (wks W (staticW "java/lang/String" 495 LChA.yN)) (wk W LChA.tab) (W := 0) (Nat.le_of_ble_eq_true rfl) (Nat.le_of_ble_eq_true rfl) (Nat.le_refl _) (Nat.le_refl _) (g := (mkF m 12 #[.val (.ref x), .val (.int (Int32.ofNat i))] [.int (Int32.ofNat i), .ref t])) rfl (by rw [hml]; rfl) c5 (argsL := [.ref t, .int (Int32.ofNat i)]) (rest := []) rfl rfl (by show 2 * 0 + 0 ≤ _; decide) (hb hbytes d12) (⟨rfl, hx.2.2.2.1.mv X4.warmed.alike hh4, (k2 i hi).1, s3.there X4.warmed.alike hh4, rf⟩)
    obtain ⟨rfl, q6⟩ := E6
    rw [chr8_lo8 hr.1 (k2 i hi).2] at g6
    exact ⟨T6, some (.int (f i)), _, _, _, X6, rfl, rfl, rfl, (fun h => by cases h), ⟨rfl, q6.trans hh4⟩, fun fs hl => Steps.trans g6 (X6.ireturnOut hexec hret (narrow_ch hr.1 hr.2) (Or.inr (Or.inr (Or.inr (Or.inl rfl)))) (hb hbytes d15) hl)⟩
  · exact absurd k0 (by decide)
theorem pays {l : Launch} {R : Room} {p : Program} {e : Env} {below : List Frame} {s : State} {sargs : Array Value} {len W : Nat} (x t : Addr) (V : Cell) (n : Nat) (f : Nat → Int32) (z : Int32) (fm : Value) (i : Nat) (htab : tab.before sargs s = true) (hfr : 4 ≤ R.frames) (hlo : W + 53 ≤ R.locals) :
    Back l R p e below s sargs yN len W (fun A₁ a₁ => A₁.cells + 0 ≤ R.cells ∧ A₁.slots + 0 ≤ R.slots ∧ P x t V n f z fm i a₁ A₁.U) (fun A₁ _ v₁ B₁ => E f i v₁ A₁.U B₁.U ∧ B₁.locs = A₁.locs ++ [] ∧ B₁.cells = A₁.cells + 0 ∧ B₁.slots = A₁.slots + 0) :=
  (law l x t V n f z fm i).pays htab hfr (by omega)
end ChN
end StrChars
namespace StrChars.Road
open Jvm Sem ClassFile Op Lib Jvm.Stand Jvm.Free Jvm.Free.XT
open Jvm.Lib.Cold (StaticIs)
/-- the words of String.charAt(int), the Latin-1 road alone -/
abbrev wordsChN : List Jvm.Cond := [.code ChN.yN ChN.yB 2 (some .char), .initialized ST, .fieldLink ST 9 ST "value" "[B", .fieldLink ST 38 ST "COMPACT_STRINGS" "Z", .fieldLink ST 15 ST "coder" "B", .code IsL.yN IsL.yB 1 (some .boolean), .methodLink ST 492 IsL.yN, .declares IsL.yN, .selects ST IsL.yN IsL.yN, .instanceMethod IsL.yN,
  .methodLink ST 495 LChA.yN, .static LChA.yN, .code LChA.yN LChA.yB 2 (some .char), .initialized "java/lang/StringLatin1", .methodLink "java/lang/StringLatin1" 9 JO.Str_checkIndex.yN, .static JO.Str_checkIndex.yN, .code JO.Str_checkIndex.yN JO.Str_checkIndex.yB 2 none,
  .fieldLink ST 1053 "jdk/internal/util/Preconditions" "SIOOBE_FORMATTER" "Ljava/util/function/BiFunction;", .methodLink ST 1059 JC.PreCheck.yN, .static JC.PreCheck.yN, .code JC.PreCheck.yN JC.PreCheck.yB 3 (some .int), .initialized "jdk/internal/util/Preconditions"]
theorem tabChN_of {a : Array Value} {s : State} (h : ∀ w ∈ wordsChN, w.before a s = true) : ChN.tab.before a s = true := by
  have hp : JC.PreCheck.tab.before a s = true := unparts (wk h (.code JC.PreCheck.yN JC.PreCheck.yB 3 (some .int))) (wks h (.initialized JC.PreCheck.yN.cls :: JC.PreCheck.site))
  have qk := consq hp h
  have hk : JO.Str_checkIndex.tab.before a s = true := unparts (wk qk (.code JO.Str_checkIndex.yN JO.Str_checkIndex.yB 2 none)) (wks qk (.initialized JO.Str_checkIndex.yN.cls :: JO.Str_checkIndex.site))
  have ql := consq hk h
  have hl : LChA.tab.before a s = true := unparts (wk ql (.code LChA.yN LChA.yB 2 (some .char))) (wks ql (.initialized LChA.yN.cls :: LChA.site))
  have hi : IsL.tab.before a s = true := unparts (wk h (.code IsL.yN IsL.yB 1 (some .boolean))) (wks h (.initialized IsL.yN.cls :: IsL.site))
  have q := consq hi (consq hl h)
  exact unparts (wk q (.code ChN.yN ChN.yB 2 (some .char))) (wks q (.initialized ChN.yN.cls :: ChN.site))
theorem movedChN {Z s : State} {a0 args : Array Value} (hZ : Z.Warmed39 s.vm) (hw : ∀ d ∈ wordsChN, d.before a0 Z = true) : ∀ d ∈ wordsChN, d.before args s = true := fun d hd => by
  have t : ∀ d ∈ wordsChN, (d.onTables && d.keepsFace) = true := by decide +kernel
  exact RoadKit.mv hZ (hw d hd) (t d hd)
/-- **charAt(i) OF A LATIN-1 STRING**, i < n: the char -/
theorem chN {p : Program} {l : Launch} {e : Env} {R : Room} {s : State} {args : Array Value} {below : List Frame} {len W : Nat} {Z : State} {a0 : Array Value} {h : Heap} (hZ : Z.Warmed39 s.vm) (hw : ∀ d ∈ wordsChN, d.before a0 Z = true) {kI : Nat} (wi : (Jvm.Cond.instantiable ST kI).before a0 Z = true)
    {x t : Addr} {kb : ClassId} {cs : List Int32} {N2 z : Int32} {vs : List Value} {fm : Value} {i : Nat} {j : Int32} (E : RoadKit.Exa Z h x ST) (V : RoadKit.Fld Z h x ST "value" "[B" (.ref t)) (C : RoadKit.Fld Z h x ST "coder" "B" (.int 0)) (K : RoadKit.Arv Z h t kb .byte N2 vs (.int 0)) (hc : CodA cs 0 N2 vs) (hb : ∀ c ∈ cs, ¬ c < 0 ∧ ¬ (65535 : Int32) < c)
    (S : RoadKit.Sta Z h ST "COMPACT_STRINGS" "Z" (.int z)) (hz : ¬ z = 0) (F : RoadKit.Sta Z h "jdk/internal/util/Preconditions" "SIOOBE_FORMATTER" "Ljava/util/function/BiFunction;" fm) (rf : fm.isRef = true) (l2 : cs.length ≤ 4000) (hi : i < cs.length) (hj : j = Int32.ofNat i) (hfr : 4 ≤ R.frames) (hlo : W + 53 ≤ R.locals) :
    Back l R p e below s args (⟨"java/lang/String", "charAt", "(I)C"⟩ : MethodName) len W (fun P a => a = #[.ref x, .int j] ∧ P.U.heap = h ∧ P.cells + 0 ≤ R.cells ∧ P.slots + 0 ≤ R.slots)
      (fun P _ v B => ∃ L, (v = some (.int (cs.getD i 0)) ∧ L = [] ∧ B.U.heap = h) ∧ B.locs = P.locs ++ L ∧ B.cells = P.cells + 0 ∧ B.slots = P.slots + 0) := by
  subst hj
  intro m meth c P g ig mk a X hg hsize hdg hW hn hp'
  obtain ⟨rfl, rfl, r1, r2⟩ := hp'
  have al : Z.vm.Alike P.U.vm := hZ.alike.trans X.warmed.alike
  obtain ⟨A, hx⟩ := txt_of wi al E V C K hc hb l2
  obtain ⟨v, B, X', ⟨⟨hv, hh⟩, hl, hk, hs⟩, st⟩ := ChN.pays x t A cs.length (fun j => cs.getD j 0) z fm i (tabChN_of (movedChN hZ hw)) hfr hlo m meth c P g ig mk _ X hg hsize hdg hW hn ⟨r1, r2, rfl, hx, hi, sta_is al S, hz, sta_is al F, rf⟩
  exact ⟨v, B, X', ⟨[], ⟨hv, rfl, hh⟩, hl, hk, hs⟩, st⟩
/-- what backV says of its String, as the contracts of this text ask it: cs's low bytes, coder 0 -/
theorem codOf {cs : List Int32} {n : Nat} (hn : cs.length = n) (hb : ∀ c ∈ cs, ¬ 255 < c) : CodA cs 0 (Int32.ofNat n) ((cs.map lo8).map Value.int) := Or.inl ⟨rfl, by rw [hn], by simp [List.map_map, Function.comp_def], hb⟩
end StrChars.Road
end Jvm.Pilot.@@N@@
namespace Jvm.Pilot.@@N@@
open Jvm Jvm.ClassFile Sem Op Lib Jvm.Free Jvm.Stand Jvm.LawKit Jvm.RoadKit Bundle Jvm.Pilot.@@N@@.Jvm.D
def irm (a b : Int32) : Int32 := a - a / b * b
theorem wi {Z : State} {a0 : Array Value} (hw : ∀ d ∈ tables_1, d.before a0 Z = true) {d : Jvm.Cond} (i : Nat) (h : tables_1[i]? = some d) : d.before a0 Z = true := hw d (List.mem_of_getElem? h)
theorem own_uniq {Z : State} {h : Heap} {a : Addr} {C n d : String} {v w : Value} (F : Fld Z h a C n d v) (G : Fld Z h a C n d w) : v = w := by
  obtain ⟨c1, cf1, k1, i1, f1, a1, a2, -, -, -, -, a7⟩ := F
  obtain ⟨c2, cf2, k2, i2, f2, b1, b2, -, -, -, -, b7⟩ := G
  cases a1.symm.trans b1
  cases a2.symm.trans b2
  exact Option.some.inj (a7.symm.trans b7)
theorem own_ne {Z : State} {h : Heap} {a b : Addr} {C n d : String} {v w : Value} (F : Fld Z h a C n d v) (G : Fld Z h b C n d w) (hn : v ≠ w) : a ≠ b := fun e => by
  subst e
  exact hn (own_uniq F G)
theorem own_fldI {s : State} {args : Array Value} {t : Term} {a : Addr} {C n d : String} {k : Int32} (ev : t.eval args s none [] s = some (.ref a)) (h : (Cond.eq (Term.field t C n d) (Term.int k)).value args s none s [] = some true) : Fld s s.heap a C n d (.int k) := Fld.start ((fld_at ev).symm.trans (eqv_i rfl h))
theorem own_and255 (x : Int32) : ¬ nar .char ((x &&& (255 : Int32)).toUInt32.toUInt16.toUInt32.toInt32) < 0 ∧ ¬ (255 : Int32) < nar .char ((x &&& (255 : Int32)).toUInt32.toUInt16.toUInt32.toInt32) := by
  have t : ∀ k : Fin 256, ¬ nar .char ((Int32.ofNat k.val).toUInt32.toUInt16.toUInt32.toInt32) < 0 ∧ ¬ (255 : Int32) < nar .char ((Int32.ofNat k.val).toUInt32.toUInt16.toUInt32.toInt32) := by decide +kernel
  have h : (x &&& 255).toBitVec.toNat < 256 := by
    simp only [Int32.toBitVec_and, BitVec.toNat_and]
    exact Nat.lt_succ_of_le Nat.and_le_right
  have e : (x &&& 255) = Int32.ofNat (x &&& 255).toBitVec.toNat := by
    apply Int32.toBitVec_inj.mp
    show _ = BitVec.ofNat 32 _
    rw [BitVec.ofNat_toNat]; simp
  rw [e]
  exact t ⟨_, h⟩
theorem own_nar {x : Int32} (h : ¬ x < 0 ∧ ¬ (255 : Int32) < x) : nar .char x = x := by
  have t : ∀ k : Fin 256, nar .char (Int32.ofNat k.val) = Int32.ofNat k.val := by decide +kernel
  obtain ⟨h1, h2⟩ := h
  rw [Int32.lt_iff_toInt_lt] at h1 h2
  have e0 : (0 : Int32).toInt = 0 := rfl
  have e1 : (255 : Int32).toInt = 255 := rfl
  have e : x = Int32.ofNat x.toInt.toNat := by
    apply Int32.toInt_inj.mp
    rw [Int32.toInt_ofNat_of_lt (by omega)]
    omega
  rw [e]
  exact t ⟨x.toInt.toNat, by omega⟩
theorem own_safe0 {Z : State} {EL : List (String × Nat)} {vm : Vm} {h : Heap} {x : Addr} (hal : Z.vm.Alike vm) (E : Exa Z h x "java/lang/String") (F : Fld Z h x "java/lang/String" "value" "[B" .null) : Safe Z EL vm h x := fun B => by
  obtain ⟨cell, k, e1, e2, e3, -, -⟩ := E
  obtain ⟨p, -, u, a, -, q, -, G, rfl | rfl⟩ := B
  · obtain ⟨c2, cf, kf, i, f, g1, g2, g3, g4, g5, g6, g7⟩ := F
    cases (show h[q.sa]? = some q.sC from G.ha).symm.trans g1
    obtain ⟨cS, ⟨⟨-, -, -, ⟨c1, k1, i1, f1, -⟩, -, -, -, v1, -⟩, -⟩, -⟩ := G
    obtain ⟨k3, e3', -⟩ := State.fieldFound?_setVm (s := Z) hal g2
    have e4 := (show (Wst Z vm h).fieldFound? _ _ _ = _ from e3').symm.trans f1
    simp only [Option.some.injEq, Prod.mk.injEq] at e4
    rw [← e4.2.2.2, g7] at v1
    cases v1
  · cases (show h[q.sd]? = some q.SA from G.hd).symm.trans e1
    obtain ⟨cS, -, -, f, -⟩ := G
    have f' := f
    rw [show (Wst Z vm h).vm.findClass "[B" = Z.vm.findClass "[B" from hal.findClass _ _] at f'
    obtain ⟨k1, q1, q2⟩ := Vm.findClass_spec f'
    obtain ⟨k2, q3, q4⟩ := Vm.findClass_spec e2
    cases q1.symm.trans q3
    exact absurd (q2.symm.trans q4) (by decide)
theorem own_decl {Z : State} {a0 : Array Value} {y : MethodName} {bytes : ByteArray} {maxL : Nat} {ret : Option FieldType} (w3 : (Cond.instanceMethod y).before a0 Z = true) (wc : (Cond.code y bytes maxL ret).before a0 Z = true) : (Cond.declares y).before a0 Z = true := by
  obtain ⟨mk, methM, hn, hm, hst, -⟩ := Cond.instanceMethod_spec w3
  obtain ⟨m2, cM, q1, -, -, -, -, -, -, hsig⟩ := Cond.code_spec hn wc
  cases hm.symm.trans q1
  simp [Cond.before, Cond.holds, Cond.value, hn, hm, hst, hsig]
theorem own_same {Z : State} {a0 : Array Value} {y z : MethodName} (w3 : (Cond.instanceMethod y).before a0 Z = true) (hy : y.cls ≠ "java/lang/invoke/MethodHandle" ∧ y.cls ≠ "java/lang/invoke/VarHandle") (hz : z.cls = y.cls) (w4 : (Cond.instanceMethod z).before a0 Z = true) (nf : NotFace Z z) : (Cond.sameMethod y.cls y.cls y.name y.desc).before a0 Z = true := by
  obtain ⟨mk, methM, hn, -⟩ := Cond.instanceMethod_spec w3
  obtain ⟨m2, methM2, hn2, -⟩ := Cond.instanceMethod_spec w4
  obtain ⟨kr, hkr, hni⟩ := nf _ hn2
  have c1 := findClass_of_methodNamed hn
  have c2 := findClass_of_methodNamed hn2
  rw [hz] at c2
  have e : mk.cls = m2.cls := Option.some.inj (c1.symm.trans c2)
  rw [← e] at hkr
  have hf := State.methodFound?_of_named hn hy
  have hn' : Z.methodNamed? ⟨y.cls, y.name, y.desc⟩ = some mk := hn
  simp [Cond.before, Cond.holds, Cond.value, c1, hf, hn', hkr, hni]
theorem own_nf {s : State} {args : Array Value} {y z : MethodName} (hz : z.cls = y.cls) (w4 : (Cond.instanceMethod z).before args s = true) (nf : NotFace s z) : NotFace s y := fun r0 h0 => by
  obtain ⟨m2, methM2, hn2, -⟩ := Cond.instanceMethod_spec w4
  obtain ⟨kr, hkr, hni⟩ := nf _ hn2
  have c1 := findClass_of_methodNamed h0
  have c2 := findClass_of_methodNamed hn2
  rw [hz] at c2
  have e : r0.cls = m2.cls := Option.some.inj (c1.symm.trans c2)
  exact ⟨kr, by rw [e]; exact hkr, hni⟩
theorem own_sub0 (x : Int32) : x - (0 : Int32) = x := by simp
def CpOK (c : Int32) (m : Nat) (us vd vn : List Value) : Prop := ∃ cN : Nat, ¬ (c <<< ((0 : Int32) &&& 31)) < 0 ∧ ¬ (Int32.ofNat m) < 0 ∧ (c <<< ((0 : Int32) &&& 31)).toNatClampNeg = cN ∧ (Int32.ofNat m).toNatClampNeg = m ∧ cN + m ≤ 16 ∧ us = (List.range m).map (fun i => us.getD i (.int (0 : Int32))) ∧ cN + m ≤ vd.length ∧ vd.take cN ++ us ++ vd.drop (cN + m) = vn
def CrOK (n : Int32) (m : Nat) (vs us : List Value) : Prop := ¬ n < 0 ∧ n < (16 : Int32) ∧ ¬ n = (16 : Int32) ∧ n.toNatClampNeg = m ∧ m ≤ 16 ∧ us = (List.range m).map (fun i => vs.getD i (.int (0 : Int32)))
theorem own_z0 : (0 : Int32).toNatClampNeg = 0 := by decide
theorem own_z16 : (16 : Int32).toNatClampNeg = 16 := by decide
theorem own_rep {m : Nat} {dv : Value} {us : List Value} : (List.replicate m dv).take 0 ++ us ++ (List.replicate m dv).drop (0 + m) = us := by simp
theorem own_hus {vs us : List Value} {dv : Value} {n : Int32} {m : Nat} (q : n.toNatClampNeg = m) (h : us = (List.range m).map (fun i => vs.getD i dv)) : us = (List.range n.toNatClampNeg).map fun i => vs.getD ((0 : Int32).toNatClampNeg + i) dv := by
  rw [q, own_z0]; simp only [Nat.zero_add]; exact h
theorem own_cod {cs : List Int32} {N : Int32} {vs : List Value} (h : StrChars.Road.CodA cs 0 N vs) : N = Int32.ofNat cs.length ∧ vs = cs.map (fun c => Value.int (StrChars.lo8 c)) := by
  rcases h with ⟨-, h1, h2, -⟩ | ⟨h, -⟩
  · exact ⟨h1, h2⟩
  · exact absurd h (by decide)
theorem own_up (cs : List Int32) (h : ∀ c ∈ cs, ¬ c < 0 ∧ ¬ (255 : Int32) < c) : ∀ c ∈ cs, ¬ c < 0 ∧ ¬ (65535 : Int32) < c := fun c hc => ⟨(h c hc).1, fun q => (h c hc).2 (by rw [Int32.lt_iff_toInt_lt] at q ⊢; have e1 : (65535 : Int32).toInt = 65535 := rfl; have e2 : (255 : Int32).toInt = 255 := rfl; omega)⟩
theorem own_memS {a : Int32} {l : List Int32} (h : ¬ a < 0 ∧ ¬ (255 : Int32) < a) (r : ∀ c ∈ l, ¬ c < 0 ∧ ¬ (255 : Int32) < c) : ∀ c ∈ a :: l, ¬ c < 0 ∧ ¬ (255 : Int32) < c := fun c hc => by
  rcases List.mem_cons.mp hc with q | q
  · rw [q]; exact h
  · exact r c q
theorem own_mem0 : ∀ c ∈ ([] : List Int32), ¬ c < 0 ∧ ¬ (255 : Int32) < c := fun _ q => nomatch q
def Str (Z : State) (h : Heap) (x : Addr) (cs : List Int32) : Prop := ∃ (t : Addr) (kb : ClassId) (N : Int32) (vs : List Value), Exa Z h x "java/lang/String" ∧ Fld Z h x "java/lang/String" "value" "[B" (.ref t) ∧ Fld Z h x "java/lang/String" "coder" "B" (.int 0) ∧ Arv Z h t kb .byte N vs (.int 0) ∧ StrChars.Road.CodA cs 0 N vs ∧ (∀ c ∈ cs, ¬ c < 0 ∧ ¬ (255 : Int32) < c) ∧ cs.length ≤ 4000
theorem Str.ext {Z : State} {h h' : Heap} {x : Addr} {cs : List Int32} (E : Ext h h') (S : Str Z h x cs) : Str Z h' x cs := by
  obtain ⟨t, kb, N, vs, q1, q2, q3, q4, q5, q6, q7⟩ := S
  exact ⟨t, kb, N, vs, q1.ext E, q2.ext E, q3.ext E, q4.ext E, q5, q6, q7⟩
theorem own_ext {h h' : Heap} (K : Keep h h' []) : Ext h h' := ⟨K.1, fun a c q => K.2.1 a c q nin0⟩
theorem own_EW {Z : State} {a0 : Array Value} (hw : ∀ d ∈ tables_1, d.before a0 Z = true) : EW Z a0 consts_1 := EW.cons (wi hw 59 rfl) (by decide) (EW.cons (wi hw 112 rfl) (by decide) (EW.cons (wi hw 113 rfl) (by decide) (EW.cons (wi hw 34 rfl) (by decide) EW.nil)))
def QP (r : Value) (h0 : Heap) (n0 : Nat) (v : Option Value) (h : Heap) (L : List Loc) : Prop := v = some r ∧ Fr n0 L ∧ h = h0
def QV0 (h0 : Heap) (n0 : Nat) (v : Option Value) (h : Heap) (L : List Loc) : Prop := v = none ∧ Fr n0 L ∧ h = h0
theorem d15_0 : decode jdk_42_method_152_code 0 = .ok (.getstatic 38, 3) := by decide +kernel
theorem d15_3 : decode jdk_42_method_152_code 3 = .ok (.ifCond .eq 10, 3) := by decide +kernel
theorem d15_6 : decode jdk_42_method_152_code 6 = .ok (.aload_n 0, 1) := by decide +kernel
theorem d15_7 : decode jdk_42_method_152_code 7 = .ok (.getfield 15, 3) := by decide +kernel
theorem d15_10 : decode jdk_42_method_152_code 10 = .ok (.goto 4, 3) := by decide +kernel
theorem d15_14 : decode jdk_42_method_152_code 14 = .ok (.ireturn, 1) := by decide +kernel
theorem ef_R_1 (m : MethodId) (x0 : Addr) : entryFrame m #[(.ref x0)] 1 = mkF m 0 #[.val (.ref x0)] [] := by first | (simp [entryFrame, mkF, argsToLocals, Value.category]; done) | rfl
theorem pn_0 : plainName "java/lang/String" = true := by first | (simp [plainName, overriddenIn]; done) | decide +kernel
set_option maxRecDepth 65536 in
set_option maxHeartbeats 40000000 in
theorem rmCd (l : Launch) (Z : State) (a0 : Array Value) (hw : ∀ d ∈ tables_1, d.before a0 Z = true) (ws : List Jvm.Cond) (x : Addr) (G1 : Int32) (h0 : Heap) (n0 : Nat) (O0 : Old Z n0 h0) (S_CS : Sta Z Z.heap "java/lang/String" "COMPACT_STRINGS" "Z" (.int G1)) (hG1 : ¬ (G1 = (0 : Int32))) (F_x : Fld Z h0 x "java/lang/String" "coder" "B" (.int (0 : Int32))) :
    MetFree l (⟨"java/lang/String", "coder", "()B"⟩ : MethodName) (head1 (Jvm.Cond.code (⟨"java/lang/String", "coder", "()B"⟩ : MethodName) jdk_42_method_152_code 1 (some .byte) :: ws) ({ frames := 0, cells := 0, slots := 0, locals := 0 } : Room)) (fun a_ U => a_ = #[(.ref x)] ∧ Z.Warmed39 U.vm ∧ U.heap = h0) (fun _ _ _ _ _ => True) (fun _ U o U' => ∃ v L, o = .returned v ∧ QP (.int (0 : Int32)) h0 n0 v U'.heap L ∧ FrameEnd U o U' L ({ frames := 0, cells := 0, slots := 0, locals := 0 } : Room).cells ({ frames := 0, cells := 0, slots := 0, locals := 0 } : Room).slots) := by
  refine MetFree.of_bodySF (plainFor_of_name pn_0) hisR ?_
  intro p e s m args below meth c s₁ Bd hml0 hP hK
  obtain ⟨rfl, hZ, hh⟩ := hP
  have hx := Bd.exec
  have hby := Bd.bytes
  have hml : c.maxLocals = 1 := hml0
  have hown : s.vm.findClass "java/lang/String" = some m.cls := findClass_of_methodNamed Bd.named
  have hnm := (name_of_methodNamed Bd.named Bd.method).1
  have X0 : Stand p l e ({ frames := 0, cells := 0, slots := 0, locals := 0 } : Room) s m #[(.ref x)] below meth c s₁ [] 0 0 := Stand.of_body Bd
  have e0 : s₁.heap = h0 := by rw [← hh, Bd.state]; rfl
  have N0 := Fr.nil n0
  have pre0 : ∀ tg, Steps p.tables e below (s₁.setTop (mkF m 0 #[.val (.ref x)] [])) tg → Steps p.tables e below (s₁.setTop (entryFrame m #[(.ref x)] 1)) tg := fun tg kq => castTop (ef_R_1 m x) kq
  obtain ⟨T101, X101, e101, st101⟩ := getS2 X0 hx hZ hown (host := "") (Or.inl (wi hw 18 rfl)) Via.refl e0 (S_CS.ext O0.2) (g := (mkF m 0 #[.val (.ref x)] [])) rfl (hb hby d15_0)
  obtain ⟨T102, X102, e102, st102⟩ := getF X101 hx hZ hown (host := "") (Or.inl (wi hw 30 rfl)) Via.refl e101 F_x (g := (mkF m 7 #[.val (.ref x)] [(.ref x)])) rfl rfl (hb hby d15_7)
  obtain ⟨fs, hr, hrun, hended, hW, hsame⟩ := X102.leave (v := some (.int (0 : Int32))) (fun h => by rw [Bd.returns] at h; cases h)
  refine ⟨_, _, pre0 _ ?_, hrun, hended, _, _, rfl, ?_, ⟨_, rfl⟩, hW, hsame.mono (by decide) (by decide)⟩
  · show Steps p.tables e below (s₁.setTop (mkF m 0 #[.val (.ref x)] [])) _
    refine st101 _ ?_
    show Steps p.tables e below (T101.setTop (mkF m 3 #[.val (.ref x)] [(.int G1)])) _
    refine XS.ifNo X101.here hx rfl (hb hby d15_3) rfl ((if0 _ _).trans (feq hG1).1) ?_
    show Steps p.tables e below (T101.setTop (mkF m 6 #[.val (.ref x)] [])) _
    refine XS.aloadN X101.here hx rfl (hb hby d15_6) rfl rfl ?_
    show Steps p.tables e below (T101.setTop (mkF m 7 #[.val (.ref x)] [(.ref x)])) _
    refine st102 _ ?_
    show Steps p.tables e below (T102.setTop (mkF m 10 #[.val (.ref x)] [(.int (0 : Int32))])) _
    refine XS.goto X102.here hx rfl (pc0 := 10) (pc' := 14) rfl (hb hby d15_10) (by decide) (by decide) ?_
    show Steps p.tables e below (T102.setTop (mkF m 14 #[.val (.ref x)] [(.int (0 : Int32))])) _
    exact retN X102 hx (t := .byte) Bd.returns (by simp) (hb hby d15_14) hr
  · show QP (.int (0 : Int32)) h0 n0 _ T102.heap _
    rw [e102]
    exact ⟨rfl, N0, rfl⟩
theorem d16_0 : decode jdk_68_method_9_code 0 = .ok (.aload_n 0, 1) := by decide +kernel
theorem d16_1 : decode jdk_68_method_9_code 1 = .ok (.getfield 15, 3) := by decide +kernel
theorem d16_4 : decode jdk_68_method_9_code 4 = .ok (.arraylength, 1) := by decide +kernel
theorem d16_5 : decode jdk_68_method_9_code 5 = .ok (.aload_n 0, 1) := by decide +kernel
theorem d16_6 : decode jdk_68_method_9_code 6 = .ok (.getfield 22, 3) := by decide +kernel
theorem d16_9 : decode jdk_68_method_9_code 9 = .ok (.ishr, 1) := by decide +kernel
theorem d16_10 : decode jdk_68_method_9_code 10 = .ok (.istore_n 2, 1) := by decide +kernel
theorem d16_11 : decode jdk_68_method_9_code 11 = .ok (.iload_n 1, 1) := by decide +kernel
theorem d16_12 : decode jdk_68_method_9_code 12 = .ok (.iload_n 2, 1) := by decide +kernel
theorem d16_13 : decode jdk_68_method_9_code 13 = .ok (.isub, 1) := by decide +kernel
theorem d16_14 : decode jdk_68_method_9_code 14 = .ok (.ifCond .le 24, 3) := by decide +kernel
theorem d16_38 : decode jdk_68_method_9_code 38 = .ok (.return_, 1) := by decide +kernel
theorem ef_RI_3 (m : MethodId) (x0 : Addr) (x1 : Int32) : entryFrame m #[(.ref x0), (.int x1)] 3 = mkF m 0 #[.val (.ref x0), .val (.int x1), .unset] [] := by first | (simp [entryFrame, mkF, argsToLocals, Value.category]; done) | rfl
theorem pn_1 : plainName "java/lang/AbstractStringBuilder" = true := by first | (simp [plainName, overriddenIn]; done) | decide +kernel
set_option maxRecDepth 65536 in
set_option maxHeartbeats 40000000 in
theorem rmEn (l : Launch) (Z : State) (a0 : Array Value) (hw : ∀ d ∈ tables_1, d.before a0 Z = true) (ws : List Jvm.Cond) (sb va : Addr) (kv : ClassId) (k : Int32) (vd : List Value) (h0 : Heap) (n0 : Nat) (O0 : Old Z n0 h0) (E_sb : Exa Z h0 sb "java/lang/StringBuilder") (F_v : Fld Z h0 sb "java/lang/AbstractStringBuilder" "value" "[B" (.ref va)) (F_c : Fld Z h0 sb "java/lang/AbstractStringBuilder" "coder" "B" (.int (0 : Int32))) (K_v : Arv Z h0 va kv .byte (16 : Int32) vd (.int (0 : Int32))) (hk : ¬ ((0 : Int32) < (k - ((16 : Int32) >>> ((0 : Int32) &&& 31))))) :
    MetFree l (⟨"java/lang/AbstractStringBuilder", "ensureCapacityInternal", "(I)V"⟩ : MethodName) (head1 (Jvm.Cond.code (⟨"java/lang/AbstractStringBuilder", "ensureCapacityInternal", "(I)V"⟩ : MethodName) jdk_68_method_9_code 3 none :: ws) ({ frames := 0, cells := 0, slots := 0, locals := 0 } : Room)) (fun a_ U => a_ = #[(.ref sb), (.int k)] ∧ Z.Warmed39 U.vm ∧ U.heap = h0) (fun _ _ _ _ _ => True) (fun _ U o U' => ∃ v L, o = .returned v ∧ QV0 h0 n0 v U'.heap L ∧ FrameEnd U o U' L ({ frames := 0, cells := 0, slots := 0, locals := 0 } : Room).cells ({ frames := 0, cells := 0, slots := 0, locals := 0 } : Room).slots) := by
  refine MetFree.of_bodySF (plainFor_of_name pn_1) hisR ?_
  intro p e s m args below meth c s₁ Bd hml0 hP hK
  obtain ⟨rfl, hZ, hh⟩ := hP
  have hx := Bd.exec
  have hby := Bd.bytes
  have hml : c.maxLocals = 3 := hml0
  have hown : s.vm.findClass "java/lang/AbstractStringBuilder" = some m.cls := findClass_of_methodNamed Bd.named
  have hnm := (name_of_methodNamed Bd.named Bd.method).1
  have X0 : Stand p l e ({ frames := 0, cells := 0, slots := 0, locals := 0 } : Room) s m #[(.ref sb), (.int k)] below meth c s₁ [] 0 0 := Stand.of_body Bd
  have e0 : s₁.heap = h0 := by rw [← hh, Bd.state]; rfl
  have N0 := Fr.nil n0
  have pre0 : ∀ tg, Steps p.tables e below (s₁.setTop (mkF m 0 #[.val (.ref sb), .val (.int k), .unset] [])) tg → Steps p.tables e below (s₁.setTop (entryFrame m #[(.ref sb), (.int k)] 3)) tg := fun tg kq => castTop (ef_RI_3 m sb k) kq
  obtain ⟨T101, X101, e101, st101⟩ := getF X0 hx hZ hown (host := "") (Or.inl (wi hw 55 rfl)) Via.refl e0 F_v (g := (mkF m 1 #[.val (.ref sb), .val (.int k), .unset] [(.ref sb)])) rfl rfl (hb hby d16_1)
  obtain ⟨cl_va_5, Ar_va_5, -, S_va_5, N_va_5, -, -⟩ := id (K_v)
  obtain ⟨T102, X102, e102, st102⟩ := getF X101 hx hZ hown (host := "") (Or.inl (wi hw 57 rfl)) Via.refl e101 F_c (g := (mkF m 6 #[.val (.ref sb), .val (.int k), .unset] [(.ref sb), (.int (16 : Int32))])) rfl rfl (hb hby d16_6)
  obtain ⟨fs, hr, hrun, hended, hW, hsame⟩ := X102.leave (v := none) (fun _ => rfl)
  refine ⟨_, _, pre0 _ ?_, hrun, hended, _, _, rfl, ?_, ⟨_, rfl⟩, hW, hsame.mono (by decide) (by decide)⟩
  · show Steps p.tables e below (s₁.setTop (mkF m 0 #[.val (.ref sb), .val (.int k), .unset] [])) _
    refine XS.aloadN X0.here hx rfl (hb hby d16_0) rfl rfl ?_
    show Steps p.tables e below (s₁.setTop (mkF m 1 #[.val (.ref sb), .val (.int k), .unset] [(.ref sb)])) _
    refine st101 _ ?_
    show Steps p.tables e below (T101.setTop (mkF m 4 #[.val (.ref sb), .val (.int k), .unset] [(.ref va)])) _
    refine X101.arraylength hx (by rw [e101]; exact Ar_va_5.1) (State.isArrayOf_alike hZ.alike Ar_va_5.2.1) (g := (mkF m 4 #[.val (.ref sb), .val (.int k), .unset] [(.ref va)])) rfl rfl (hb hby d16_4) _ ?_
    rw [len_of S_va_5 N_va_5]
    show Steps p.tables e below (T101.setTop (mkF m 5 #[.val (.ref sb), .val (.int k), .unset] [(.int (16 : Int32))])) _
    refine XS.aloadN X101.here hx rfl (hb hby d16_5) rfl rfl ?_
    show Steps p.tables e below (T101.setTop (mkF m 6 #[.val (.ref sb), .val (.int k), .unset] [(.ref sb), (.int (16 : Int32))])) _
    refine st102 _ ?_
    show Steps p.tables e below (T102.setTop (mkF m 9 #[.val (.ref sb), .val (.int k), .unset] [(.int (0 : Int32)), (.int (16 : Int32))])) _
    refine XS.ishr X102.here hx rfl (hb hby d16_9) rfl ?_
    show Steps p.tables e below (T102.setTop (mkF m 10 #[.val (.ref sb), .val (.int k), .unset] [(.int ((16 : Int32) >>> ((0 : Int32) &&& 31)))])) _
    refine XS.istoreN X102.here hx rfl (hb hby d16_10) rfl (l' := #[.val (.ref sb), .val (.int k), .val (.int ((16 : Int32) >>> ((0 : Int32) &&& 31)))]) rfl ?_
    show Steps p.tables e below (T102.setTop (mkF m 11 #[.val (.ref sb), .val (.int k), .val (.int ((16 : Int32) >>> ((0 : Int32) &&& 31)))] [])) _
    refine XS.iloadN X102.here hx rfl (hb hby d16_11) rfl ?_
    show Steps p.tables e below (T102.setTop (mkF m 12 #[.val (.ref sb), .val (.int k), .val (.int ((16 : Int32) >>> ((0 : Int32) &&& 31)))] [(.int k)])) _
    refine XS.iloadN X102.here hx rfl (hb hby d16_12) rfl ?_
    show Steps p.tables e below (T102.setTop (mkF m 13 #[.val (.ref sb), .val (.int k), .val (.int ((16 : Int32) >>> ((0 : Int32) &&& 31)))] [(.int ((16 : Int32) >>> ((0 : Int32) &&& 31))), (.int k)])) _
    refine XS.isub X102.here hx rfl (hb hby d16_13) rfl ?_
    show Steps p.tables e below (T102.setTop (mkF m 14 #[.val (.ref sb), .val (.int k), .val (.int ((16 : Int32) >>> ((0 : Int32) &&& 31)))] [(.int (k - ((16 : Int32) >>> ((0 : Int32) &&& 31))))])) _
    refine XS.ifYes X102.here hx rfl (pc0 := 14) (pc' := 38) rfl (hb hby d16_14) rfl ((if0 _ _).trans (flt hk).2.2.2) (by decide) (by decide) ?_
    show Steps p.tables e below (T102.setTop (mkF m 38 #[.val (.ref sb), .val (.int k), .val (.int ((16 : Int32) >>> ((0 : Int32) &&& 31)))] [])) _
    exact X102.returnOut hx Bd.returns (hb hby d16_38) hr
  · show QV0 h0 n0 _ T102.heap _
    rw [e102]
    exact ⟨rfl, N0, rfl⟩
theorem d18_0 : decode jdk_68_method_71_code 0 = .ok (.getstatic 18, 3) := by decide +kernel
theorem d18_3 : decode jdk_68_method_71_code 3 = .ok (.ifCond .eq 18, 3) := by decide +kernel
theorem d18_6 : decode jdk_68_method_71_code 6 = .ok (.aload_n 0, 1) := by decide +kernel
theorem d18_7 : decode jdk_68_method_71_code 7 = .ok (.getfield 22, 3) := by decide +kernel
theorem d18_10 : decode jdk_68_method_71_code 10 = .ok (.aload_n 1, 1) := by decide +kernel
theorem d18_11 : decode jdk_68_method_71_code 11 = .ok (.invokevirtual 40, 3) := by decide +kernel
theorem pd_0 : parseMethodDescriptor "()B" = some ⟨[], some .byte⟩ := by decide +kernel
theorem d18_14 : decode jdk_68_method_71_code 14 = .ok (.if_icmp .eq 7, 3) := by decide +kernel
theorem d18_21 : decode jdk_68_method_71_code 21 = .ok (.return_, 1) := by decide +kernel
theorem ef_RR_2 (m : MethodId) (x0 : Addr) (x1 : Addr) : entryFrame m #[(.ref x0), (.ref x1)] 2 = mkF m 0 #[.val (.ref x0), .val (.ref x1)] [] := by first | (simp [entryFrame, mkF, argsToLocals, Value.category]; done) | rfl
set_option maxRecDepth 65536 in
set_option maxHeartbeats 40000000 in
theorem rmIf (l : Launch) (Z : State) (a0 : Array Value) (hw : ∀ d ∈ tables_1, d.before a0 Z = true) (ws : List Jvm.Cond) (sb x : Addr) (G1 : Int32) (h0 : Heap) (n0 : Nat) (O0 : Old Z n0 h0) (S_CS : Sta Z Z.heap "java/lang/String" "COMPACT_STRINGS" "Z" (.int G1)) (hG1 : ¬ (G1 = (0 : Int32))) (E_sb : Exa Z h0 sb "java/lang/StringBuilder") (F_c : Fld Z h0 sb "java/lang/AbstractStringBuilder" "coder" "B" (.int (0 : Int32))) (sEx : Exa Z h0 x "java/lang/String") (sCx : Fld Z h0 x "java/lang/String" "coder" "B" (.int (0 : Int32))) :
    MetFree l (⟨"java/lang/AbstractStringBuilder", "inflateIfNeededFor", "(Ljava/lang/String;)V"⟩ : MethodName) (head1 (Jvm.Cond.code (⟨"java/lang/AbstractStringBuilder", "inflateIfNeededFor", "(Ljava/lang/String;)V"⟩ : MethodName) jdk_68_method_71_code 2 none :: ws) ({ frames := 1, cells := 0, slots := 0, locals := 13 } : Room)) (fun a_ U => a_ = #[(.ref sb), (.ref x)] ∧ Z.Warmed39 U.vm ∧ U.heap = h0) (fun _ _ _ _ _ => True) (fun _ U o U' => ∃ v L, o = .returned v ∧ QV0 h0 n0 v U'.heap L ∧ FrameEnd U o U' L ({ frames := 1, cells := 0, slots := 0, locals := 13 } : Room).cells ({ frames := 1, cells := 0, slots := 0, locals := 13 } : Room).slots) := by
  refine MetFree.of_bodySF (plainFor_of_name pn_1) hisR ?_
  intro p e s m args below meth c s₁ Bd hml0 hP hK
  obtain ⟨rfl, hZ, hh⟩ := hP
  have hx := Bd.exec
  have hby := Bd.bytes
  have hml : c.maxLocals = 2 := hml0
  have hown : s.vm.findClass "java/lang/AbstractStringBuilder" = some m.cls := findClass_of_methodNamed Bd.named
  have hnm := (name_of_methodNamed Bd.named Bd.method).1
  have X0 : Stand p l e ({ frames := 1, cells := 0, slots := 0, locals := 13 } : Room) s m #[(.ref sb), (.ref x)] below meth c s₁ [] 0 0 := Stand.of_body Bd
  have e0 : s₁.heap = h0 := by rw [← hh, Bd.state]; rfl
  have N0 := Fr.nil n0
  have pre0 : ∀ tg, Steps p.tables e below (s₁.setTop (mkF m 0 #[.val (.ref sb), .val (.ref x)] [])) tg → Steps p.tables e below (s₁.setTop (entryFrame m #[(.ref sb), (.ref x)] 2)) tg := fun tg kq => castTop (ef_RR_2 m sb x) kq
  obtain ⟨T101, X101, e101, st101⟩ := getS2 X0 hx hZ hown (host := "") (Or.inl (wi hw 54 rfl)) Via.refl e0 (S_CS.ext O0.2) (g := (mkF m 0 #[.val (.ref sb), .val (.ref x)] [])) rfl (hb hby d18_0)
  obtain ⟨T102, X102, e102, st102⟩ := getF X101 hx hZ hown (host := "") (Or.inl (wi hw 57 rfl)) Via.refl e101 F_c (g := (mkF m 7 #[.val (.ref sb), .val (.ref x)] [(.ref sb)])) rfl rfl (hb hby d18_7)
  obtain ⟨cq103, kq103, q103a, q103b, q103c⟩ := isOf hZ e102 sEx
  obtain ⟨_, _, ⟨T103, L103, k103, n103⟩, -, X103, ⟨Lc103, hQ103, l103, y103, z103⟩, st103⟩ := X102.virtualBack hx (y := (⟨"java/lang/String", "coder", "()B"⟩ : MethodName)) (z := (⟨"java/lang/String", "coder", "()B"⟩ : MethodName)) hown (mvT hZ (wi hw 102 rfl)) (mvT hZ (wi hw 81 rfl)) (notFace_of_selects (args := #[]) (mvT hZ (wi hw 83 rfl))) (mvT hZ (wi hw 83 rfl)) (mvT hZ (wi hw 82 rfl)) (by decide) (backOf (W := 1) (rmCd l Z a0 hw [] x G1 h0 n0 O0 S_CS hG1 sCx) hZ (wi hw 84 rfl) (wi hw 6 rfl) (by decide) (by decide)) q103a q103c (g := (mkF m 11 #[.val (.ref sb), .val (.ref x)] [(.ref x), (.int (0 : Int32))])) rfl (by rw [hml]; rfl) (Steps.refl _) (argsL := []) (rest := [(.int (0 : Int32))]) (lenOf pd_0 rfl) rfl (by show 2 * 0 + _ ≤ _; exact Nat.le_of_eq rfl) (hb hby d18_11) (fun _ _ => ⟨rfl, e102, (by decide : 0 + 0 ≤ _), (by decide : 0 + 0 ≤ _)⟩)
  dsimp only [Pt.U, Pt.locs, Pt.cells, Pt.slots] at X103 l103 y103 z103 st103 hQ103
  subst l103 y103 z103
  obtain ⟨rfl, N103q, hh103⟩ := hQ103
  have e103 : T103.heap = h0 := hh103
  have N103 := Fr.app N0 N103q
  obtain ⟨fs, hr, hrun, hended, hW, hsame⟩ := X103.leave (v := none) (fun _ => rfl)
  refine ⟨_, _, pre0 _ ?_, hrun, hended, _, _, rfl, ?_, ⟨_, rfl⟩, hW, hsame.mono (by decide) (by decide)⟩
  · show Steps p.tables e below (s₁.setTop (mkF m 0 #[.val (.ref sb), .val (.ref x)] [])) _
    refine st101 _ ?_
    show Steps p.tables e below (T101.setTop (mkF m 3 #[.val (.ref sb), .val (.ref x)] [(.int G1)])) _
    refine XS.ifNo X101.here hx rfl (hb hby d18_3) rfl ((if0 _ _).trans (feq hG1).1) ?_
    show Steps p.tables e below (T101.setTop (mkF m 6 #[.val (.ref sb), .val (.ref x)] [])) _
    refine XS.aloadN X101.here hx rfl (hb hby d18_6) rfl rfl ?_
    show Steps p.tables e below (T101.setTop (mkF m 7 #[.val (.ref sb), .val (.ref x)] [(.ref sb)])) _
    refine st102 _ ?_
    show Steps p.tables e below (T102.setTop (mkF m 10 #[.val (.ref sb), .val (.ref x)] [(.int (0 : Int32))])) _
    refine XS.aloadN X102.here hx rfl (hb hby d18_10) rfl rfl ?_
    show Steps p.tables e below (T102.setTop (mkF m 11 #[.val (.ref sb), .val (.ref x)] [(.ref x), (.int (0 : Int32))])) _
    refine st103.trans ?_
    show Steps p.tables e below (T103.setTop (mkF m 14 #[.val (.ref sb), .val (.ref x)] [(.int (0 : Int32)), (.int (0 : Int32))])) _
    refine XS.icmpYes X103.here hx rfl (pc0 := 14) (pc' := 21) rfl (hb hby d18_14) rfl (teq (by decide : (0 : Int32) = (0 : Int32))).1 (by decide) (by decide) ?_
    show Steps p.tables e below (T103.setTop (mkF m 21 #[.val (.ref sb), .val (.ref x)] [])) _
    exact X103.returnOut hx Bd.returns (hb hby d18_21) hr
  · show QV0 h0 n0 _ T103.heap _
    rw [e103]
    exact ⟨rfl, N103, rfl⟩
def QG (Z : State) (va : Addr) (kv : ClassId) (vn : List Value) (h0 : Heap) (n0 : Nat) (v : Option Value) (h : Heap) (L : List Loc) : Prop := v = none ∧ Fr n0 L ∧ Keep h0 h [va] ∧ Arv Z h va kv .byte (16 : Int32) vn (.int (0 : Int32))
theorem d19_0 : decode jdk_42_method_147_code 0 = .ok (.aload_n 0, 1) := by decide +kernel
theorem d19_1 : decode jdk_42_method_147_code 1 = .ok (.invokevirtual 335, 3) := by decide +kernel
theorem d19_4 : decode jdk_42_method_147_code 4 = .ok (.iload_n 3, 1) := by decide +kernel
theorem d19_5 : decode jdk_42_method_147_code 5 = .ok (.if_icmp .ne 23, 3) := by decide +kernel
theorem d19_8 : decode jdk_42_method_147_code 8 = .ok (.aload_n 0, 1) := by decide +kernel
theorem d19_9 : decode jdk_42_method_147_code 9 = .ok (.getfield 9, 3) := by decide +kernel
theorem d19_12 : decode jdk_42_method_147_code 12 = .ok (.iconst 0, 1) := by decide +kernel
theorem d19_13 : decode jdk_42_method_147_code 13 = .ok (.aload_n 1, 1) := by decide +kernel
theorem d19_14 : decode jdk_42_method_147_code 14 = .ok (.iload_n 2, 1) := by decide +kernel
theorem d19_15 : decode jdk_42_method_147_code 15 = .ok (.iload_n 3, 1) := by decide +kernel
theorem d19_16 : decode jdk_42_method_147_code 16 = .ok (.ishl, 1) := by decide +kernel
theorem d19_17 : decode jdk_42_method_147_code 17 = .ok (.aload_n 0, 1) := by decide +kernel
theorem d19_18 : decode jdk_42_method_147_code 18 = .ok (.getfield 9, 3) := by decide +kernel
theorem d19_21 : decode jdk_42_method_147_code 21 = .ok (.arraylength, 1) := by decide +kernel
theorem d19_22 : decode jdk_42_method_147_code 22 = .ok (.invokestatic 212, 3) := by decide +kernel
theorem d19_25 : decode jdk_42_method_147_code 25 = .ok (.goto 18, 3) := by decide +kernel
theorem d19_43 : decode jdk_42_method_147_code 43 = .ok (.return_, 1) := by decide +kernel
theorem ef_RRII_4 (m : MethodId) (x0 : Addr) (x1 : Addr) (x2 : Int32) (x3 : Int32) : entryFrame m #[(.ref x0), (.ref x1), (.int x2), (.int x3)] 4 = mkF m 0 #[.val (.ref x0), .val (.ref x1), .val (.int x2), .val (.int x3)] [] := by first | (simp [entryFrame, mkF, argsToLocals, Value.category]; done) | rfl
set_option maxRecDepth 65536 in
set_option maxHeartbeats 40000000 in
theorem rmGB (l : Launch) (Z : State) (a0 : Array Value) (hw : ∀ d ∈ tables_1, d.before a0 Z = true) (ws : List Jvm.Cond) (x tx va : Addr) (kbx kv : ClassId) (cn G1 : Int32) (m_ : Nat) (us vd vn : List Value) (h0 : Heap) (n0 : Nat) (O0 : Old Z n0 h0) (S_CS : Sta Z Z.heap "java/lang/String" "COMPACT_STRINGS" "Z" (.int G1)) (hG1 : ¬ (G1 = (0 : Int32))) (sEx : Exa Z h0 x "java/lang/String") (sVx : Fld Z h0 x "java/lang/String" "value" "[B" (.ref tx)) (sCx : Fld Z h0 x "java/lang/String" "coder" "B" (.int (0 : Int32))) (sKx : Arv Z h0 tx kbx .byte (Int32.ofNat m_) us (.int (0 : Int32))) (K_v : Arv Z h0 va kv .byte (16 : Int32) vd (.int (0 : Int32))) (gva : n0 ≤ va) (hcp : CpOK cn m_ us vd vn) :
    MetFree l (⟨"java/lang/String", "getBytes", "([BIB)V"⟩ : MethodName) (head1 (Jvm.Cond.code (⟨"java/lang/String", "getBytes", "([BIB)V"⟩ : MethodName) jdk_42_method_147_code 4 none :: ws) ({ frames := 1, cells := 0, slots := 0, locals := 40 } : Room)) (fun a_ U => a_ = #[(.ref x), (.ref va), (.int cn), (.int (0 : Int32))] ∧ Z.Warmed39 U.vm ∧ U.heap = h0) (fun _ _ _ _ _ => True) (fun _ U o U' => ∃ v L, o = .returned v ∧ QG Z va kv vn h0 n0 v U'.heap L ∧ FrameEnd U o U' L ({ frames := 1, cells := 0, slots := 0, locals := 40 } : Room).cells ({ frames := 1, cells := 0, slots := 0, locals := 40 } : Room).slots) := by
  refine MetFree.of_bodySF (plainFor_of_name pn_0) hisR ?_
  intro p e s m args below meth c s₁ Bd hml0 hP hK
  obtain ⟨rfl, hZ, hh⟩ := hP
  have hx := Bd.exec
  have hby := Bd.bytes
  have hml : c.maxLocals = 4 := hml0
  have hown : s.vm.findClass "java/lang/String" = some m.cls := findClass_of_methodNamed Bd.named
  have hnm := (name_of_methodNamed Bd.named Bd.method).1
  have X0 : Stand p l e ({ frames := 1, cells := 0, slots := 0, locals := 40 } : Room) s m #[(.ref x), (.ref va), (.int cn), (.int (0 : Int32))] below meth c s₁ [] 0 0 := Stand.of_body Bd
  have e0 : s₁.heap = h0 := by rw [← hh, Bd.state]; rfl
  have N0 := Fr.nil n0
  have pre0 : ∀ tg, Steps p.tables e below (s₁.setTop (mkF m 0 #[.val (.ref x), .val (.ref va), .val (.int cn), .val (.int (0 : Int32))] [])) tg → Steps p.tables e below (s₁.setTop (entryFrame m #[(.ref x), (.ref va), (.int cn), (.int (0 : Int32))] 4)) tg := fun tg kq => castTop (ef_RRII_4 m x va cn (0 : Int32)) kq
  obtain ⟨cN, q1, q2, q3, q4, q5, q6, q7, q8⟩ := hcp
  obtain ⟨cq101, kq101, q101a, q101b, q101c⟩ := isOf hZ e0 sEx
  obtain ⟨_, _, ⟨T101, L101, k101, n101⟩, -, X101, ⟨Lc101, hQ101, l101, y101, z101⟩, st101⟩ := X0.virtualBack hx (y := (⟨"java/lang/String", "coder", "()B"⟩ : MethodName)) (z := (⟨"java/lang/String", "coder", "()B"⟩ : MethodName)) hown (mvT hZ (wi hw 80 rfl)) (mvT hZ (wi hw 81 rfl)) (notFace_of_selects (args := #[]) (mvT hZ (wi hw 83 rfl))) (mvT hZ (wi hw 83 rfl)) (mvT hZ (wi hw 82 rfl)) (by decide) (backOf (W := 0) (rmCd l Z a0 hw [] x G1 h0 n0 O0 S_CS hG1 sCx) hZ (wi hw 84 rfl) (wi hw 6 rfl) (by decide) (by decide)) q101a q101c (g := (mkF m 1 #[.val (.ref x), .val (.ref va), .val (.int cn), .val (.int (0 : Int32))] [(.ref x)])) rfl (by rw [hml]; rfl) (Steps.refl _) (argsL := []) (rest := []) (lenOf pd_0 rfl) rfl (by show 2 * 0 + _ ≤ _; exact Nat.le_of_eq rfl) (hb hby d19_1) (fun _ _ => ⟨rfl, e0, (by decide : 0 + 0 ≤ _), (by decide : 0 + 0 ≤ _)⟩)
  dsimp only [Pt.U, Pt.locs, Pt.cells, Pt.slots] at X101 l101 y101 z101 st101 hQ101
  subst l101 y101 z101
  obtain ⟨rfl, N101q, hh101⟩ := hQ101
  have e101 : T101.heap = h0 := hh101
  have N101 := Fr.app N0 N101q
  obtain ⟨T102, X102, e102, st102⟩ := getF X101 hx hZ hown (host := "") (Or.inl (wi hw 32 rfl)) Via.refl e101 sVx (g := (mkF m 9 #[.val (.ref x), .val (.ref va), .val (.int cn), .val (.int (0 : Int32))] [(.ref x)])) rfl rfl (hb hby d19_9)
  obtain ⟨T103, X103, e103, st103⟩ := getF X102 hx hZ hown (host := "") (Or.inl (wi hw 32 rfl)) Via.refl e102 sVx (g := (mkF m 18 #[.val (.ref x), .val (.ref va), .val (.int cn), .val (.int (0 : Int32))] [(.ref x), (.int (cn <<< ((0 : Int32) &&& 31))), (.ref va), (.int (0 : Int32)), (.ref tx)])) rfl rfl (hb hby d19_18)
  obtain ⟨cl_tx_27, Ar_tx_27, -, S_tx_27, N_tx_27, -, -⟩ := id (sKx)
  obtain ⟨T104, h104, L104, X104, e104, Nc104, K104, Ac104, st104⟩ := cpA X103 hx hZ hown (wi hw 108 rfl) (wi hw 111 rfl) (wi hw 109 rfl) (wi hw 110 rfl) e103 sKx K_v (us := us) (Or.inl ⟨rfl, rfl⟩) (by decide) q1 q2 (by rw [own_z0, Nat.zero_add]; exact Nat.le_refl _) (by rw [q3, q4, own_z16]; exact q5) (own_hus q4 q6) (by rw [q3, q4]; exact q7) N101 gva (g := (mkF m 22 #[.val (.ref x), .val (.ref va), .val (.int cn), .val (.int (0 : Int32))] [(.int (Int32.ofNat m_)), (.int (cn <<< ((0 : Int32) &&& 31))), (.ref va), (.int (0 : Int32)), (.ref tx)])) rfl (by rw [hml]; rfl) rfl (hb hby d19_22) (by decide) (W := 0) (by show 2 * 0 + _ ≤ _; exact Nat.le_of_eq rfl) (by decide)
  rw [q3, q4, q8] at Ac104
  have Vc104 : Arv Z h104 va kv .byte (16 : Int32) vn (.int (0 : Int32)) := Ac104
  have O104 := O0.keep K104 (allS gva all0)
  have KK104 : Keep h0 h104 [va] := (Keep.refl h0 [va]).trans K104 (allS (Or.inl (List.mem_of_getElem? (i := 0) rfl)) all0)
  obtain ⟨fs, hr, hrun, hended, hW, hsame⟩ := X104.leave (v := none) (fun _ => rfl)
  refine ⟨_, _, pre0 _ ?_, hrun, hended, _, _, rfl, ?_, ⟨_, rfl⟩, hW, hsame.mono (by decide) (by decide)⟩
  · show Steps p.tables e below (s₁.setTop (mkF m 0 #[.val (.ref x), .val (.ref va), .val (.int cn), .val (.int (0 : Int32))] [])) _
    refine XS.aloadN X0.here hx rfl (hb hby d19_0) rfl rfl ?_
    show Steps p.tables e below (s₁.setTop (mkF m 1 #[.val (.ref x), .val (.ref va), .val (.int cn), .val (.int (0 : Int32))] [(.ref x)])) _
    refine st101.trans ?_
    show Steps p.tables e below (T101.setTop (mkF m 4 #[.val (.ref x), .val (.ref va), .val (.int cn), .val (.int (0 : Int32))] [(.int (0 : Int32))])) _
    refine XS.iloadN X101.here hx rfl (hb hby d19_4) rfl ?_
    show Steps p.tables e below (T101.setTop (mkF m 5 #[.val (.ref x), .val (.ref va), .val (.int cn), .val (.int (0 : Int32))] [(.int (0 : Int32)), (.int (0 : Int32))])) _
    refine XS.icmpNo X101.here hx rfl (hb hby d19_5) rfl (teq (by decide : (0 : Int32) = (0 : Int32))).2 ?_
    show Steps p.tables e below (T101.setTop (mkF m 8 #[.val (.ref x), .val (.ref va), .val (.int cn), .val (.int (0 : Int32))] [])) _
    refine XS.aloadN X101.here hx rfl (hb hby d19_8) rfl rfl ?_
    show Steps p.tables e below (T101.setTop (mkF m 9 #[.val (.ref x), .val (.ref va), .val (.int cn), .val (.int (0 : Int32))] [(.ref x)])) _
    refine st102 _ ?_
    show Steps p.tables e below (T102.setTop (mkF m 12 #[.val (.ref x), .val (.ref va), .val (.int cn), .val (.int (0 : Int32))] [(.ref tx)])) _
    refine XS.iconst X102.here hx rfl (hb hby d19_12) ?_
    show Steps p.tables e below (T102.setTop (mkF m 13 #[.val (.ref x), .val (.ref va), .val (.int cn), .val (.int (0 : Int32))] [(.int (0 : Int32)), (.ref tx)])) _
    refine XS.aloadN X102.here hx rfl (hb hby d19_13) rfl rfl ?_
    show Steps p.tables e below (T102.setTop (mkF m 14 #[.val (.ref x), .val (.ref va), .val (.int cn), .val (.int (0 : Int32))] [(.ref va), (.int (0 : Int32)), (.ref tx)])) _
    refine XS.iloadN X102.here hx rfl (hb hby d19_14) rfl ?_
    show Steps p.tables e below (T102.setTop (mkF m 15 #[.val (.ref x), .val (.ref va), .val (.int cn), .val (.int (0 : Int32))] [(.int cn), (.ref va), (.int (0 : Int32)), (.ref tx)])) _
    refine XS.iloadN X102.here hx rfl (hb hby d19_15) rfl ?_
    show Steps p.tables e below (T102.setTop (mkF m 16 #[.val (.ref x), .val (.ref va), .val (.int cn), .val (.int (0 : Int32))] [(.int (0 : Int32)), (.int cn), (.ref va), (.int (0 : Int32)), (.ref tx)])) _
    refine XS.ishl X102.here hx rfl (hb hby d19_16) rfl ?_
    show Steps p.tables e below (T102.setTop (mkF m 17 #[.val (.ref x), .val (.ref va), .val (.int cn), .val (.int (0 : Int32))] [(.int (cn <<< ((0 : Int32) &&& 31))), (.ref va), (.int (0 : Int32)), (.ref tx)])) _
    refine XS.aloadN X102.here hx rfl (hb hby d19_17) rfl rfl ?_
    show Steps p.tables e below (T102.setTop (mkF m 18 #[.val (.ref x), .val (.ref va), .val (.int cn), .val (.int (0 : Int32))] [(.ref x), (.int (cn <<< ((0 : Int32) &&& 31))), (.ref va), (.int (0 : Int32)), (.ref tx)])) _
    refine st103 _ ?_
    show Steps p.tables e below (T103.setTop (mkF m 21 #[.val (.ref x), .val (.ref va), .val (.int cn), .val (.int (0 : Int32))] [(.ref tx), (.int (cn <<< ((0 : Int32) &&& 31))), (.ref va), (.int (0 : Int32)), (.ref tx)])) _
    refine X103.arraylength hx (by rw [e103]; exact Ar_tx_27.1) (State.isArrayOf_alike hZ.alike Ar_tx_27.2.1) (g := (mkF m 21 #[.val (.ref x), .val (.ref va), .val (.int cn), .val (.int (0 : Int32))] [(.ref tx), (.int (cn <<< ((0 : Int32) &&& 31))), (.ref va), (.int (0 : Int32)), (.ref tx)])) rfl rfl (hb hby d19_21) _ ?_
    rw [len_of S_tx_27 N_tx_27]
    show Steps p.tables e below (T103.setTop (mkF m 22 #[.val (.ref x), .val (.ref va), .val (.int cn), .val (.int (0 : Int32))] [(.int (Int32.ofNat m_)), (.int (cn <<< ((0 : Int32) &&& 31))), (.ref va), (.int (0 : Int32)), (.ref tx)])) _
    refine st104 _ ?_
    show Steps p.tables e below (T104.setTop (mkF m 25 #[.val (.ref x), .val (.ref va), .val (.int cn), .val (.int (0 : Int32))] [])) _
    refine XS.goto X104.here hx rfl (pc0 := 25) (pc' := 43) rfl (hb hby d19_25) (by decide) (by decide) ?_
    show Steps p.tables e below (T104.setTop (mkF m 43 #[.val (.ref x), .val (.ref va), .val (.int cn), .val (.int (0 : Int32))] [])) _
    exact X104.returnOut hx Bd.returns (hb hby d19_43) hr
  · show QG Z va kv vn h0 n0 _ T104.heap _
    rw [e104]
    exact ⟨rfl, Nc104, KK104, Vc104⟩
theorem d17_0 : decode jdk_68_method_73_code 0 = .ok (.aload_n 0, 1) := by decide +kernel
theorem d17_1 : decode jdk_68_method_73_code 1 = .ok (.aload_n 2, 1) := by decide +kernel
theorem d17_2 : decode jdk_68_method_73_code 2 = .ok (.invokevirtual 397, 3) := by decide +kernel
theorem pd_1 : parseMethodDescriptor "(Ljava/lang/String;)V" = some ⟨[(.object "java/lang/String")], none⟩ := by decide +kernel
theorem d17_5 : decode jdk_68_method_73_code 5 = .ok (.aload_n 2, 1) := by decide +kernel
theorem d17_6 : decode jdk_68_method_73_code 6 = .ok (.aload_n 0, 1) := by decide +kernel
theorem d17_7 : decode jdk_68_method_73_code 7 = .ok (.getfield 15, 3) := by decide +kernel
theorem d17_10 : decode jdk_68_method_73_code 10 = .ok (.iload_n 1, 1) := by decide +kernel
theorem d17_11 : decode jdk_68_method_73_code 11 = .ok (.aload_n 0, 1) := by decide +kernel
theorem d17_12 : decode jdk_68_method_73_code 12 = .ok (.getfield 22, 3) := by decide +kernel
theorem d17_15 : decode jdk_68_method_73_code 15 = .ok (.invokevirtual 399, 3) := by decide +kernel
theorem pd_2 : parseMethodDescriptor "([BIB)V" = some ⟨[(.array .byte), .int, .byte], none⟩ := by decide +kernel
theorem d17_18 : decode jdk_68_method_73_code 18 = .ok (.return_, 1) := by decide +kernel
theorem ef_RIR_3 (m : MethodId) (x0 : Addr) (x1 : Int32) (x2 : Addr) : entryFrame m #[(.ref x0), (.int x1), (.ref x2)] 3 = mkF m 0 #[.val (.ref x0), .val (.int x1), .val (.ref x2)] [] := by first | (simp [entryFrame, mkF, argsToLocals, Value.category]; done) | rfl
set_option maxRecDepth 65536 in
set_option maxHeartbeats 40000000 in
theorem rmPS (l : Launch) (Z : State) (a0 : Array Value) (hw : ∀ d ∈ tables_1, d.before a0 Z = true) (ws : List Jvm.Cond) (sb x tx va : Addr) (kbx kv : ClassId) (cn G1 : Int32) (m_ : Nat) (us vd vn : List Value) (h0 : Heap) (n0 : Nat) (O0 : Old Z n0 h0) (S_CS : Sta Z Z.heap "java/lang/String" "COMPACT_STRINGS" "Z" (.int G1)) (hG1 : ¬ (G1 = (0 : Int32))) (sEx : Exa Z h0 x "java/lang/String") (sVx : Fld Z h0 x "java/lang/String" "value" "[B" (.ref tx)) (sCx : Fld Z h0 x "java/lang/String" "coder" "B" (.int (0 : Int32))) (sKx : Arv Z h0 tx kbx .byte (Int32.ofNat m_) us (.int (0 : Int32))) (E_sb : Exa Z h0 sb "java/lang/StringBuilder") (F_v : Fld Z h0 sb "java/lang/AbstractStringBuilder" "value" "[B" (.ref va)) (F_c : Fld Z h0 sb "java/lang/AbstractStringBuilder" "coder" "B" (.int (0 : Int32))) (K_v : Arv Z h0 va kv .byte (16 : Int32) vd (.int (0 : Int32))) (gva : n0 ≤ va) (nsv : sb ≠ va) (hcp : CpOK cn m_ us vd vn) :
    MetFree l (⟨"java/lang/AbstractStringBuilder", "putStringAt", "(ILjava/lang/String;)V"⟩ : MethodName) (head1 (Jvm.Cond.code (⟨"java/lang/AbstractStringBuilder", "putStringAt", "(ILjava/lang/String;)V"⟩ : MethodName) jdk_68_method_73_code 3 none :: ws) ({ frames := 2, cells := 0, slots := 0, locals := 55 } : Room)) (fun a_ U => a_ = #[(.ref sb), (.int cn), (.ref x)] ∧ Z.Warmed39 U.vm ∧ U.heap = h0) (fun _ _ _ _ _ => True) (fun _ U o U' => ∃ v L, o = .returned v ∧ QG Z va kv vn h0 n0 v U'.heap L ∧ FrameEnd U o U' L ({ frames := 2, cells := 0, slots := 0, locals := 55 } : Room).cells ({ frames := 2, cells := 0, slots := 0, locals := 55 } : Room).slots) := by
  refine MetFree.of_bodySF (plainFor_of_name pn_1) hisR ?_
  intro p e s m args below meth c s₁ Bd hml0 hP hK
  obtain ⟨rfl, hZ, hh⟩ := hP
  have hx := Bd.exec
  have hby := Bd.bytes
  have hml : c.maxLocals = 3 := hml0
  have hown : s.vm.findClass "java/lang/AbstractStringBuilder" = some m.cls := findClass_of_methodNamed Bd.named
  have hnm := (name_of_methodNamed Bd.named Bd.method).1
  have X0 : Stand p l e ({ frames := 2, cells := 0, slots := 0, locals := 55 } : Room) s m #[(.ref sb), (.int cn), (.ref x)] below meth c s₁ [] 0 0 := Stand.of_body Bd
  have e0 : s₁.heap = h0 := by rw [← hh, Bd.state]; rfl
  have N0 := Fr.nil n0
  have pre0 : ∀ tg, Steps p.tables e below (s₁.setTop (mkF m 0 #[.val (.ref sb), .val (.int cn), .val (.ref x)] [])) tg → Steps p.tables e below (s₁.setTop (entryFrame m #[(.ref sb), (.int cn), (.ref x)] 3)) tg := fun tg kq => castTop (ef_RIR_3 m sb cn x) kq
  obtain ⟨cq101, kq101, q101a, q101b, q101c⟩ := isOf hZ e0 E_sb
  obtain ⟨_, _, ⟨T101, L101, k101, n101⟩, -, X101, ⟨Lc101, hQ101, l101, y101, z101⟩, st101⟩ := X0.virtualBack hx (y := (⟨"java/lang/AbstractStringBuilder", "inflateIfNeededFor", "(Ljava/lang/String;)V"⟩ : MethodName)) (z := (⟨"java/lang/AbstractStringBuilder", "inflateIfNeededFor", "(Ljava/lang/String;)V"⟩ : MethodName)) hown (mvT hZ (wi hw 97 rfl)) (mvT hZ (own_decl (wi hw 98 rfl) (wi hw 101 rfl))) (notFace_of_selects (args := #[]) (mvT hZ (wi hw 100 rfl))) (mvT hZ (wi hw 100 rfl)) (mvT hZ (wi hw 98 rfl)) (by decide) (backOf (W := 0) (rmIf l Z a0 hw [] sb x G1 h0 n0 O0 S_CS hG1 E_sb F_c sEx sCx) hZ (wi hw 101 rfl) (wi hw 51 rfl) (by decide) (by decide)) q101a q101c (g := (mkF m 2 #[.val (.ref sb), .val (.int cn), .val (.ref x)] [(.ref x), (.ref sb)])) rfl (by rw [hml]; rfl) (Steps.refl _) (argsL := [(.ref x)]) (rest := []) (lenOf pd_1 rfl) rfl (by show 2 * 0 + _ ≤ _; exact Nat.le_of_eq rfl) (hb hby d17_2) (fun _ _ => ⟨rfl, e0, (by decide : 0 + 0 ≤ _), (by decide : 0 + 0 ≤ _)⟩)
  dsimp only [Pt.U, Pt.locs, Pt.cells, Pt.slots] at X101 l101 y101 z101 st101 hQ101
  subst l101 y101 z101
  obtain ⟨rfl, N101q, hh101⟩ := hQ101
  have e101 : T101.heap = h0 := hh101
  have N101 := Fr.app N0 N101q
  obtain ⟨T102, X102, e102, st102⟩ := getF X101 hx hZ hown (host := "") (Or.inl (wi hw 55 rfl)) Via.refl e101 F_v (g := (mkF m 7 #[.val (.ref sb), .val (.int cn), .val (.ref x)] [(.ref sb), (.ref x)])) rfl rfl (hb hby d17_7)
  obtain ⟨T103, X103, e103, st103⟩ := getF X102 hx hZ hown (host := "") (Or.inl (wi hw 57 rfl)) Via.refl e102 F_c (g := (mkF m 12 #[.val (.ref sb), .val (.int cn), .val (.ref x)] [(.ref sb), (.int cn), (.ref va), (.ref x)])) rfl rfl (hb hby d17_12)
  obtain ⟨cq104, kq104, q104a, q104b, q104c⟩ := isOf hZ e103 sEx
  obtain ⟨_, _, ⟨T104, L104, k104, n104⟩, -, X104, ⟨Lc104, hQ104, l104, y104, z104⟩, st104⟩ := X103.virtualBack hx (y := (⟨"java/lang/String", "getBytes", "([BIB)V"⟩ : MethodName)) (z := (⟨"java/lang/String", "getBytes", "([BIB)V"⟩ : MethodName)) hown (mvT hZ (wi hw 103 rfl)) (mvT hZ (wi hw 104 rfl)) (notFace_of_selects (args := #[]) (mvT hZ (wi hw 106 rfl))) (mvT hZ (wi hw 106 rfl)) (mvT hZ (wi hw 105 rfl)) (by decide) (backOf (W := 0) (rmGB l Z a0 hw [] x tx va kbx kv cn G1 m_ us vd vn h0 n0 O0 S_CS hG1 sEx sVx sCx sKx K_v gva hcp) hZ (wi hw 107 rfl) (wi hw 6 rfl) (by decide) (by decide)) q104a q104c (g := (mkF m 15 #[.val (.ref sb), .val (.int cn), .val (.ref x)] [(.int (0 : Int32)), (.int cn), (.ref va), (.ref x)])) rfl (by rw [hml]; rfl) (Steps.refl _) (argsL := [(.ref va), (.int cn), (.int (0 : Int32))]) (rest := []) (lenOf pd_2 rfl) rfl (by show 2 * 0 + _ ≤ _; exact Nat.le_of_eq rfl) (hb hby d17_15) (fun _ _ => ⟨rfl, e103, (by decide : 0 + 0 ≤ _), (by decide : 0 + 0 ≤ _)⟩)
  dsimp only [Pt.U, Pt.locs, Pt.cells, Pt.slots] at X104 l104 y104 z104 st104 hQ104
  subst l104 y104 z104
  obtain ⟨rfl, N104q, K104, A104q⟩ := hQ104
  obtain ⟨h104, e104⟩ : ∃ z, T104.heap = z := ⟨_, rfl⟩
  rw [e104] at K104 A104q
  have O104 := O0.keep K104 (allS gva all0)
  have KK104 : Keep h0 h104 [va] := (Keep.refl h0 [va]).trans K104 (allS (Or.inl (List.mem_of_getElem? (i := 0) rfl)) all0)
  have N104 := Fr.app N101 N104q
  obtain ⟨fs, hr, hrun, hended, hW, hsame⟩ := X104.leave (v := none) (fun _ => rfl)
  refine ⟨_, _, pre0 _ ?_, hrun, hended, _, _, rfl, ?_, ⟨_, rfl⟩, hW, hsame.mono (by decide) (by decide)⟩
  · show Steps p.tables e below (s₁.setTop (mkF m 0 #[.val (.ref sb), .val (.int cn), .val (.ref x)] [])) _
    refine XS.aloadN X0.here hx rfl (hb hby d17_0) rfl rfl ?_
    show Steps p.tables e below (s₁.setTop (mkF m 1 #[.val (.ref sb), .val (.int cn), .val (.ref x)] [(.ref sb)])) _
    refine XS.aloadN X0.here hx rfl (hb hby d17_1) rfl rfl ?_
    show Steps p.tables e below (s₁.setTop (mkF m 2 #[.val (.ref sb), .val (.int cn), .val (.ref x)] [(.ref x), (.ref sb)])) _
    refine st101.trans ?_
    show Steps p.tables e below (T101.setTop (mkF m 5 #[.val (.ref sb), .val (.int cn), .val (.ref x)] [])) _
    refine XS.aloadN X101.here hx rfl (hb hby d17_5) rfl rfl ?_
    show Steps p.tables e below (T101.setTop (mkF m 6 #[.val (.ref sb), .val (.int cn), .val (.ref x)] [(.ref x)])) _
    refine XS.aloadN X101.here hx rfl (hb hby d17_6) rfl rfl ?_
    show Steps p.tables e below (T101.setTop (mkF m 7 #[.val (.ref sb), .val (.int cn), .val (.ref x)] [(.ref sb), (.ref x)])) _
    refine st102 _ ?_
    show Steps p.tables e below (T102.setTop (mkF m 10 #[.val (.ref sb), .val (.int cn), .val (.ref x)] [(.ref va), (.ref x)])) _
    refine XS.iloadN X102.here hx rfl (hb hby d17_10) rfl ?_
    show Steps p.tables e below (T102.setTop (mkF m 11 #[.val (.ref sb), .val (.int cn), .val (.ref x)] [(.int cn), (.ref va), (.ref x)])) _
    refine XS.aloadN X102.here hx rfl (hb hby d17_11) rfl rfl ?_
    show Steps p.tables e below (T102.setTop (mkF m 12 #[.val (.ref sb), .val (.int cn), .val (.ref x)] [(.ref sb), (.int cn), (.ref va), (.ref x)])) _
    refine st103 _ ?_
    show Steps p.tables e below (T103.setTop (mkF m 15 #[.val (.ref sb), .val (.int cn), .val (.ref x)] [(.int (0 : Int32)), (.int cn), (.ref va), (.ref x)])) _
    refine st104.trans ?_
    show Steps p.tables e below (T104.setTop (mkF m 18 #[.val (.ref sb), .val (.int cn), .val (.ref x)] [])) _
    exact X104.returnOut hx Bd.returns (hb hby d17_18) hr
  · show QG Z va kv vn h0 n0 _ T104.heap _
    rw [e104]
    exact ⟨rfl, N104, KK104, A104q⟩
def QA (Z : State) (sb va : Addr) (kv : ClassId) (nn : Int32) (vn : List Value) (h0 : Heap) (n0 : Nat) (v : Option Value) (h : Heap) (L : List Loc) : Prop := v = some (.ref sb) ∧ Fr n0 L ∧ Keep h0 h [va, sb] ∧ Fld Z h sb "java/lang/AbstractStringBuilder" "value" "[B" (.ref va) ∧ Fld Z h sb "java/lang/AbstractStringBuilder" "coder" "B" (.int (0 : Int32)) ∧ Fld Z h sb "java/lang/AbstractStringBuilder" "count" "I" (.int nn) ∧ Arv Z h va kv .byte (16 : Int32) vn (.int (0 : Int32))
theorem d13_0 : decode jdk_68_method_22_code 0 = .ok (.aload_n 1, 1) := by decide +kernel
theorem d13_1 : decode jdk_68_method_22_code 1 = .ok (.ifnonnull 8, 3) := by decide +kernel
theorem d13_9 : decode jdk_68_method_22_code 9 = .ok (.aload_n 1, 1) := by decide +kernel
theorem d13_10 : decode jdk_68_method_22_code 10 = .ok (.invokevirtual 32, 3) := by decide +kernel
theorem own_w_lenW : ∀ d ∈ StrChars.Road.wordsLen, d ∈ tables_1 := by decide +kernel
theorem pd_3 : parseMethodDescriptor "()I" = some ⟨[], some .int⟩ := by decide +kernel
theorem d13_13 : decode jdk_68_method_22_code 13 = .ok (.istore_n 2, 1) := by decide +kernel
theorem d13_14 : decode jdk_68_method_22_code 14 = .ok (.aload_n 0, 1) := by decide +kernel
theorem d13_15 : decode jdk_68_method_22_code 15 = .ok (.aload_n 0, 1) := by decide +kernel
theorem d13_16 : decode jdk_68_method_22_code 16 = .ok (.getfield 79, 3) := by decide +kernel
theorem d13_19 : decode jdk_68_method_22_code 19 = .ok (.iload_n 2, 1) := by decide +kernel
theorem d13_20 : decode jdk_68_method_22_code 20 = .ok (.iadd, 1) := by decide +kernel
theorem d13_21 : decode jdk_68_method_22_code 21 = .ok (.invokevirtual 100, 3) := by decide +kernel
theorem pd_4 : parseMethodDescriptor "(I)V" = some ⟨[.int], none⟩ := by decide +kernel
theorem d13_24 : decode jdk_68_method_22_code 24 = .ok (.aload_n 0, 1) := by decide +kernel
theorem d13_25 : decode jdk_68_method_22_code 25 = .ok (.aload_n 0, 1) := by decide +kernel
theorem d13_26 : decode jdk_68_method_22_code 26 = .ok (.getfield 79, 3) := by decide +kernel
theorem d13_29 : decode jdk_68_method_22_code 29 = .ok (.aload_n 1, 1) := by decide +kernel
theorem d13_30 : decode jdk_68_method_22_code 30 = .ok (.invokevirtual 208, 3) := by decide +kernel
theorem pd_5 : parseMethodDescriptor "(ILjava/lang/String;)V" = some ⟨[.int, (.object "java/lang/String")], none⟩ := by decide +kernel
theorem d13_33 : decode jdk_68_method_22_code 33 = .ok (.aload_n 0, 1) := by decide +kernel
theorem d13_34 : decode jdk_68_method_22_code 34 = .ok (.dup, 1) := by decide +kernel
theorem d13_35 : decode jdk_68_method_22_code 35 = .ok (.getfield 79, 3) := by decide +kernel
theorem d13_38 : decode jdk_68_method_22_code 38 = .ok (.iload_n 2, 1) := by decide +kernel
theorem d13_39 : decode jdk_68_method_22_code 39 = .ok (.iadd, 1) := by decide +kernel
theorem d13_40 : decode jdk_68_method_22_code 40 = .ok (.putfield 79, 3) := by decide +kernel
theorem d13_43 : decode jdk_68_method_22_code 43 = .ok (.aload_n 0, 1) := by decide +kernel
theorem d13_44 : decode jdk_68_method_22_code 44 = .ok (.areturn, 1) := by decide +kernel
theorem ef_RR_3 (m : MethodId) (x0 : Addr) (x1 : Addr) : entryFrame m #[(.ref x0), (.ref x1)] 3 = mkF m 0 #[.val (.ref x0), .val (.ref x1), .unset] [] := by first | (simp [entryFrame, mkF, argsToLocals, Value.category]; done) | rfl
set_option maxRecDepth 65536 in
set_option maxHeartbeats 40000000 in
theorem rmAA (l : Launch) (Z : State) (a0 : Array Value) (hw : ∀ d ∈ tables_1, d.before a0 Z = true) (ws : List Jvm.Cond) (sb x va : Addr) (kv : ClassId) (cn nn G1 : Int32) (cs : List Int32) (vd vn : List Value) (h0 : Heap) (n0 : Nat) (O0 : Old Z n0 h0) (S_CS : Sta Z Z.heap "java/lang/String" "COMPACT_STRINGS" "Z" (.int G1)) (hG1 : ¬ (G1 = (0 : Int32))) (T : Str Z h0 x cs) (E_sb : Exa Z h0 sb "java/lang/StringBuilder") (F_v : Fld Z h0 sb "java/lang/AbstractStringBuilder" "value" "[B" (.ref va)) (F_c : Fld Z h0 sb "java/lang/AbstractStringBuilder" "coder" "B" (.int (0 : Int32))) (F_n : Fld Z h0 sb "java/lang/AbstractStringBuilder" "count" "I" (.int cn)) (K_v : Arv Z h0 va kv .byte (16 : Int32) vd (.int (0 : Int32))) (gsb : n0 ≤ sb) (gva : n0 ≤ va) (nsv : sb ≠ va) (hcp : CpOK cn cs.length (cs.map (fun c => Value.int (StrChars.lo8 c))) vd vn) (hen : ¬ ((0 : Int32) < ((cn + (Int32.ofNat cs.length)) - ((16 : Int32) >>> ((0 : Int32) &&& 31))))) (hnn : cn + (Int32.ofNat cs.length) = nn) :
    MetFree l (⟨"java/lang/AbstractStringBuilder", "append", "(Ljava/lang/String;)Ljava/lang/AbstractStringBuilder;"⟩ : MethodName) (head1 (Jvm.Cond.code (⟨"java/lang/AbstractStringBuilder", "append", "(Ljava/lang/String;)Ljava/lang/AbstractStringBuilder;"⟩ : MethodName) jdk_68_method_22_code 3 (some (.object "java/lang/AbstractStringBuilder")) :: ws) ({ frames := 3, cells := 0, slots := 0, locals := 69 } : Room)) (fun a_ U => a_ = #[(.ref sb), (.ref x)] ∧ Z.Warmed39 U.vm ∧ U.heap = h0) (fun _ _ _ _ _ => True) (fun _ U o U' => ∃ v L, o = .returned v ∧ QA Z sb va kv nn vn h0 n0 v U'.heap L ∧ FrameEnd U o U' L ({ frames := 3, cells := 0, slots := 0, locals := 69 } : Room).cells ({ frames := 3, cells := 0, slots := 0, locals := 69 } : Room).slots) := by
  refine MetFree.of_bodySF (plainFor_of_name pn_1) hisR ?_
  intro p e s m args below meth c s₁ Bd hml0 hP hK
  obtain ⟨rfl, hZ, hh⟩ := hP
  have hx := Bd.exec
  have hby := Bd.bytes
  have hml : c.maxLocals = 3 := hml0
  have hown : s.vm.findClass "java/lang/AbstractStringBuilder" = some m.cls := findClass_of_methodNamed Bd.named
  have hnm := (name_of_methodNamed Bd.named Bd.method).1
  have X0 : Stand p l e ({ frames := 3, cells := 0, slots := 0, locals := 69 } : Room) s m #[(.ref sb), (.ref x)] below meth c s₁ [] 0 0 := Stand.of_body Bd
  have e0 : s₁.heap = h0 := by rw [← hh, Bd.state]; rfl
  have N0 := Fr.nil n0
  have pre0 : ∀ tg, Steps p.tables e below (s₁.setTop (mkF m 0 #[.val (.ref sb), .val (.ref x), .unset] [])) tg → Steps p.tables e below (s₁.setTop (entryFrame m #[(.ref sb), (.ref x)] 3)) tg := fun tg kq => castTop (ef_RR_3 m sb x) kq
  obtain ⟨tx, kbx, Nx, vsx, sEx, sVx, sCx, sKx, scdx, shpx, shlx⟩ := id T
  obtain ⟨rfl, rfl⟩ := own_cod scdx
  obtain ⟨cq101, kq101, q101a, q101b, q101c⟩ := isOf hZ e0 sEx
  obtain ⟨_, _, ⟨T101, L101, k101, n101⟩, -, X101, ⟨Lc101, hQ101, l101, y101, z101⟩, st101⟩ := X0.virtualBack hx (y := (⟨"java/lang/String", "length", "()I"⟩ : MethodName)) (z := (⟨"java/lang/String", "length", "()I"⟩ : MethodName)) hown (mvT hZ (wi hw 75 rfl)) (mvT hZ (wi hw 76 rfl)) (notFace_of_selects (args := #[]) (mvT hZ (wi hw 78 rfl))) (mvT hZ (wi hw 78 rfl)) (mvT hZ (wi hw 77 rfl)) (by decide) (StrChars.Road.lenW (W := 0) hZ (fun d hd => hw d (own_w_lenW d hd)) (kI := 4) (wi hw 5 rfl) sEx sVx sCx sKx scdx (own_up _ shpx) (S_CS.ext O0.2) hG1 shlx (by decide) (by decide)) q101a q101c (g := (mkF m 10 #[.val (.ref sb), .val (.ref x), .unset] [(.ref x)])) rfl (by rw [hml]; rfl) (Steps.refl _) (argsL := []) (rest := []) (lenOf pd_3 rfl) rfl (by show 2 * 0 + _ ≤ _; exact Nat.le_of_eq rfl) (hb hby d13_10) (fun _ _ => ⟨rfl, e0, (by decide : 0 + 0 ≤ _), (by decide : 0 + 0 ≤ _)⟩)
  dsimp only [Pt.U, Pt.locs, Pt.cells, Pt.slots] at X101 l101 y101 z101 st101 hQ101
  subst l101 y101 z101
  obtain ⟨rfl, rfl, hh101⟩ := hQ101
  have N101q : Fr n0 ([] : List Loc) := Fr.nil n0
  have e101 : T101.heap = h0 := hh101
  have N101 := Fr.app N0 N101q
  obtain ⟨T102, X102, e102, st102⟩ := getF X101 hx hZ hown (host := "") (Or.inl (wi hw 85 rfl)) Via.refl e101 F_n (g := (mkF m 16 #[.val (.ref sb), .val (.ref x), .val (.int (Int32.ofNat cs.length))] [(.ref sb), (.ref sb)])) rfl rfl (hb hby d13_16)
  obtain ⟨cq103, kq103, q103a, q103b, q103c⟩ := isOf hZ e102 E_sb
  obtain ⟨_, _, ⟨T103, L103, k103, n103⟩, -, X103, ⟨Lc103, hQ103, l103, y103, z103⟩, st103⟩ := X102.virtualBack hx (y := (⟨"java/lang/AbstractStringBuilder", "ensureCapacityInternal", "(I)V"⟩ : MethodName)) (z := (⟨"java/lang/AbstractStringBuilder", "ensureCapacityInternal", "(I)V"⟩ : MethodName)) hown (mvT hZ (wi hw 87 rfl)) (mvT hZ (own_decl (wi hw 88 rfl) (wi hw 91 rfl))) (notFace_of_selects (args := #[]) (mvT hZ (wi hw 90 rfl))) (mvT hZ (wi hw 90 rfl)) (mvT hZ (wi hw 88 rfl)) (by decide) (backOf (W := 0) (rmEn l Z a0 hw [] sb va kv (cn + (Int32.ofNat cs.length)) vd h0 n0 O0 E_sb F_v F_c K_v hen) hZ (wi hw 91 rfl) (wi hw 51 rfl) (by decide) (by decide)) q103a q103c (g := (mkF m 21 #[.val (.ref sb), .val (.ref x), .val (.int (Int32.ofNat cs.length))] [(.int (cn + (Int32.ofNat cs.length))), (.ref sb)])) rfl (by rw [hml]; rfl) (Steps.refl _) (argsL := [(.int (cn + (Int32.ofNat cs.length)))]) (rest := []) (lenOf pd_4 rfl) rfl (by show 2 * 0 + _ ≤ _; exact Nat.le_of_eq rfl) (hb hby d13_21) (fun _ _ => ⟨rfl, e102, (by decide : 0 + 0 ≤ _), (by decide : 0 + 0 ≤ _)⟩)
  dsimp only [Pt.U, Pt.locs, Pt.cells, Pt.slots] at X103 l103 y103 z103 st103 hQ103
  subst l103 y103 z103
  obtain ⟨rfl, N103q, hh103⟩ := hQ103
  have e103 : T103.heap = h0 := hh103
  have N103 := Fr.app N101 N103q
  obtain ⟨T104, X104, e104, st104⟩ := getF X103 hx hZ hown (host := "") (Or.inl (wi hw 85 rfl)) Via.refl e103 F_n (g := (mkF m 26 #[.val (.ref sb), .val (.ref x), .val (.int (Int32.ofNat cs.length))] [(.ref sb), (.ref sb)])) rfl rfl (hb hby d13_26)
  obtain ⟨cq105, kq105, q105a, q105b, q105c⟩ := isOf hZ e104 E_sb
  obtain ⟨_, _, ⟨T105, L105, k105, n105⟩, -, X105, ⟨Lc105, hQ105, l105, y105, z105⟩, st105⟩ := X104.virtualBack hx (y := (⟨"java/lang/AbstractStringBuilder", "putStringAt", "(ILjava/lang/String;)V"⟩ : MethodName)) (z := (⟨"java/lang/AbstractStringBuilder", "putStringAt", "(ILjava/lang/String;)V"⟩ : MethodName)) hown (mvT hZ (wi hw 92 rfl)) (mvT hZ (own_decl (wi hw 93 rfl) (wi hw 96 rfl))) (notFace_of_selects (args := #[]) (mvT hZ (wi hw 95 rfl))) (mvT hZ (wi hw 95 rfl)) (mvT hZ (wi hw 93 rfl)) (by decide) (backOf (W := 0) (rmPS l Z a0 hw [] sb x tx va kbx kv cn G1 cs.length (cs.map (fun c => Value.int (StrChars.lo8 c))) vd vn h0 n0 O0 S_CS hG1 sEx sVx sCx sKx E_sb F_v F_c K_v gva nsv hcp) hZ (wi hw 96 rfl) (wi hw 51 rfl) (by decide) (by decide)) q105a q105c (g := (mkF m 30 #[.val (.ref sb), .val (.ref x), .val (.int (Int32.ofNat cs.length))] [(.ref x), (.int cn), (.ref sb)])) rfl (by rw [hml]; rfl) (Steps.refl _) (argsL := [(.int cn), (.ref x)]) (rest := []) (lenOf pd_5 rfl) rfl (by show 2 * 0 + _ ≤ _; exact Nat.le_of_eq rfl) (hb hby d13_30) (fun _ _ => ⟨rfl, e104, (by decide : 0 + 0 ≤ _), (by decide : 0 + 0 ≤ _)⟩)
  dsimp only [Pt.U, Pt.locs, Pt.cells, Pt.slots] at X105 l105 y105 z105 st105 hQ105
  subst l105 y105 z105
  obtain ⟨rfl, N105q, K105, A105q⟩ := hQ105
  obtain ⟨h105, e105⟩ : ∃ z, T105.heap = z := ⟨_, rfl⟩
  rw [e105] at K105 A105q
  have O105 := O0.keep K105 (allS gva all0)
  have KK105 : Keep h0 h105 [va, sb] := (Keep.refl h0 [va, sb]).trans K105 (allS (Or.inl (List.mem_of_getElem? (i := 0) rfl)) all0)
  have N105 := Fr.app N103 N105q
  have fAbstractStringBuilder_count_1_106 := (F_n.keep K105 (ninS nsv nin0))
  obtain ⟨T107, X107, e107, st107⟩ := getF X105 hx hZ hown (host := "") (Or.inl (wi hw 85 rfl)) Via.refl e105 fAbstractStringBuilder_count_1_106 (g := (mkF m 35 #[.val (.ref sb), .val (.ref x), .val (.int (Int32.ofNat cs.length))] [(.ref sb), (.ref sb)])) rfl rfl (hb hby d13_35)
  have fE_sb_1_108 := (E_sb.keep K105)
  obtain ⟨T109, h109, X109, e109, W109, st109⟩ := putF X107 hx hZ hown (host := "") (Or.inl (wi hw 85 rfl)) Via.refl e107 fAbstractStringBuilder_count_1_106 fE_sb_1_108 (Or.inl (wi hw 86 rfl)) (wi hw 42 rfl) (ty := .int) (by decide) rfl rfl (g := (mkF m 40 #[.val (.ref sb), .val (.ref x), .val (.int (Int32.ofNat cs.length))] [(.int (cn + (Int32.ofNat cs.length))), (.ref sb)])) rfl rfl (hb hby d13_40)
  have Fw109 := fAbstractStringBuilder_count_1_106.same W109
  have O109 := O105.wr W109 gsb
  have KK109 : Keep h0 h109 [va, sb] := KK105.wr W109 (Or.inl (List.mem_of_getElem? (i := 1) rfl))
  have N109 := Fr.snoc X109 N105 gsb
  have fAbstractStringBuilder_value_2_110 := ((F_v.keep K105 (ninS nsv nin0)).other W109 (Or.inr (slot_ne (Or.inl (wi hw 56 rfl)) (Or.inl (wi hw 86 rfl)) (by decide) (t := (.array .byte)) (t' := .int) (by decide) (by decide))))
  have fAbstractStringBuilder_coder_2_111 := ((F_c.keep K105 (ninS nsv nin0)).other W109 (Or.inr (slot_ne (Or.inl (wi hw 58 rfl)) (Or.inl (wi hw 86 rfl)) (by decide) (t := .byte) (t' := .int) (by decide) (by decide))))
  have fV_va_2_112 := (A105q.other W109 (Ne.symm nsv))
  obtain ⟨fs, hr, hrun, hended, hW, hsame⟩ := X109.leave (v := some (.ref sb)) (fun h => by rw [Bd.returns] at h; cases h)
  refine ⟨_, _, pre0 _ ?_, hrun, hended, _, _, rfl, ?_, ⟨_, rfl⟩, hW, hsame.mono (by decide) (by decide)⟩
  · show Steps p.tables e below (s₁.setTop (mkF m 0 #[.val (.ref sb), .val (.ref x), .unset] [])) _
    refine XS.aloadN X0.here hx rfl (hb hby d13_0) rfl rfl ?_
    show Steps p.tables e below (s₁.setTop (mkF m 1 #[.val (.ref sb), .val (.ref x), .unset] [(.ref x)])) _
    refine XS.ifnonnullYes X0.here hx rfl (pc0 := 1) (pc' := 9) rfl (hb hby d13_1) rfl (by decide) (by decide) ?_
    show Steps p.tables e below (s₁.setTop (mkF m 9 #[.val (.ref sb), .val (.ref x), .unset] [])) _
    refine XS.aloadN X0.here hx rfl (hb hby d13_9) rfl rfl ?_
    show Steps p.tables e below (s₁.setTop (mkF m 10 #[.val (.ref sb), .val (.ref x), .unset] [(.ref x)])) _
    refine st101.trans ?_
    show Steps p.tables e below (T101.setTop (mkF m 13 #[.val (.ref sb), .val (.ref x), .unset] [(.int (Int32.ofNat cs.length))])) _
    refine XS.istoreN X101.here hx rfl (hb hby d13_13) rfl (l' := #[.val (.ref sb), .val (.ref x), .val (.int (Int32.ofNat cs.length))]) rfl ?_
    show Steps p.tables e below (T101.setTop (mkF m 14 #[.val (.ref sb), .val (.ref x), .val (.int (Int32.ofNat cs.length))] [])) _
    refine XS.aloadN X101.here hx rfl (hb hby d13_14) rfl rfl ?_
    show Steps p.tables e below (T101.setTop (mkF m 15 #[.val (.ref sb), .val (.ref x), .val (.int (Int32.ofNat cs.length))] [(.ref sb)])) _
    refine XS.aloadN X101.here hx rfl (hb hby d13_15) rfl rfl ?_
    show Steps p.tables e below (T101.setTop (mkF m 16 #[.val (.ref sb), .val (.ref x), .val (.int (Int32.ofNat cs.length))] [(.ref sb), (.ref sb)])) _
    refine st102 _ ?_
    show Steps p.tables e below (T102.setTop (mkF m 19 #[.val (.ref sb), .val (.ref x), .val (.int (Int32.ofNat cs.length))] [(.int cn), (.ref sb)])) _
    refine XS.iloadN X102.here hx rfl (hb hby d13_19) rfl ?_
    show Steps p.tables e below (T102.setTop (mkF m 20 #[.val (.ref sb), .val (.ref x), .val (.int (Int32.ofNat cs.length))] [(.int (Int32.ofNat cs.length)), (.int cn), (.ref sb)])) _
    refine XS.iadd X102.here hx rfl (hb hby d13_20) rfl ?_
    show Steps p.tables e below (T102.setTop (mkF m 21 #[.val (.ref sb), .val (.ref x), .val (.int (Int32.ofNat cs.length))] [(.int (cn + (Int32.ofNat cs.length))), (.ref sb)])) _
    refine st103.trans ?_
    show Steps p.tables e below (T103.setTop (mkF m 24 #[.val (.ref sb), .val (.ref x), .val (.int (Int32.ofNat cs.length))] [])) _
    refine XS.aloadN X103.here hx rfl (hb hby d13_24) rfl rfl ?_
    show Steps p.tables e below (T103.setTop (mkF m 25 #[.val (.ref sb), .val (.ref x), .val (.int (Int32.ofNat cs.length))] [(.ref sb)])) _
    refine XS.aloadN X103.here hx rfl (hb hby d13_25) rfl rfl ?_
    show Steps p.tables e below (T103.setTop (mkF m 26 #[.val (.ref sb), .val (.ref x), .val (.int (Int32.ofNat cs.length))] [(.ref sb), (.ref sb)])) _
    refine st104 _ ?_
    show Steps p.tables e below (T104.setTop (mkF m 29 #[.val (.ref sb), .val (.ref x), .val (.int (Int32.ofNat cs.length))] [(.int cn), (.ref sb)])) _
    refine XS.aloadN X104.here hx rfl (hb hby d13_29) rfl rfl ?_
    show Steps p.tables e below (T104.setTop (mkF m 30 #[.val (.ref sb), .val (.ref x), .val (.int (Int32.ofNat cs.length))] [(.ref x), (.int cn), (.ref sb)])) _
    refine st105.trans ?_
    show Steps p.tables e below (T105.setTop (mkF m 33 #[.val (.ref sb), .val (.ref x), .val (.int (Int32.ofNat cs.length))] [])) _
    refine XS.aloadN X105.here hx rfl (hb hby d13_33) rfl rfl ?_
    show Steps p.tables e below (T105.setTop (mkF m 34 #[.val (.ref sb), .val (.ref x), .val (.int (Int32.ofNat cs.length))] [(.ref sb)])) _
    refine XS.dup X105.here hx rfl (hb hby d13_34) rfl rfl ?_
    show Steps p.tables e below (T105.setTop (mkF m 35 #[.val (.ref sb), .val (.ref x), .val (.int (Int32.ofNat cs.length))] [(.ref sb), (.ref sb)])) _
    refine st107 _ ?_
    show Steps p.tables e below (T107.setTop (mkF m 38 #[.val (.ref sb), .val (.ref x), .val (.int (Int32.ofNat cs.length))] [(.int cn), (.ref sb)])) _
    refine XS.iloadN X107.here hx rfl (hb hby d13_38) rfl ?_
    show Steps p.tables e below (T107.setTop (mkF m 39 #[.val (.ref sb), .val (.ref x), .val (.int (Int32.ofNat cs.length))] [(.int (Int32.ofNat cs.length)), (.int cn), (.ref sb)])) _
    refine XS.iadd X107.here hx rfl (hb hby d13_39) rfl ?_
    show Steps p.tables e below (T107.setTop (mkF m 40 #[.val (.ref sb), .val (.ref x), .val (.int (Int32.ofNat cs.length))] [(.int (cn + (Int32.ofNat cs.length))), (.ref sb)])) _
    refine st109 _ ?_
    show Steps p.tables e below (T109.setTop (mkF m 43 #[.val (.ref sb), .val (.ref x), .val (.int (Int32.ofNat cs.length))] [])) _
    refine XS.aloadN X109.here hx rfl (hb hby d13_43) rfl rfl ?_
    show Steps p.tables e below (T109.setTop (mkF m 44 #[.val (.ref sb), .val (.ref x), .val (.int (Int32.ofNat cs.length))] [(.ref sb)])) _
    jvm_step X109.here [X109.here.top, hx, (hb hby d13_44), X109.method', Bd.returns, Value.isRef, FieldType.isReference]
    first | (intro acts; rw [hr _ acts rfl rfl rfl]) | rw [hr _ _ rfl rfl rfl]
    exact Steps.refl _
  · show QA Z sb va kv nn vn h0 n0 _ T109.heap _
    rw [e109]
    exact ⟨rfl, N109, KK109, fAbstractStringBuilder_value_2_110, fAbstractStringBuilder_coder_2_111, hnn ▸ Fw109, fV_va_2_112⟩
theorem d12_0 : decode jdk_67_method_7_code 0 = .ok (.aload_n 0, 1) := by decide +kernel
theorem d12_1 : decode jdk_67_method_7_code 1 = .ok (.aload_n 1, 1) := by decide +kernel
theorem d12_2 : decode jdk_67_method_7_code 2 = .ok (.invokespecial 29, 3) := by decide +kernel
theorem pd_6 : parseMethodDescriptor "(Ljava/lang/String;)Ljava/lang/AbstractStringBuilder;" = some ⟨[(.object "java/lang/String")], some (.object "java/lang/AbstractStringBuilder")⟩ := by decide +kernel
theorem d12_5 : decode jdk_67_method_7_code 5 = .ok (.pop, 1) := by decide +kernel
theorem d12_6 : decode jdk_67_method_7_code 6 = .ok (.aload_n 0, 1) := by decide +kernel
theorem d12_7 : decode jdk_67_method_7_code 7 = .ok (.areturn, 1) := by decide +kernel
theorem pn_2 : plainName "java/lang/StringBuilder" = true := by first | (simp [plainName, overriddenIn]; done) | decide +kernel
set_option maxRecDepth 65536 in
set_option maxHeartbeats 40000000 in
theorem rmSA (l : Launch) (Z : State) (a0 : Array Value) (hw : ∀ d ∈ tables_1, d.before a0 Z = true) (ws : List Jvm.Cond) (sb x va : Addr) (kv : ClassId) (cn nn G1 : Int32) (cs : List Int32) (vd vn : List Value) (h0 : Heap) (n0 : Nat) (O0 : Old Z n0 h0) (S_CS : Sta Z Z.heap "java/lang/String" "COMPACT_STRINGS" "Z" (.int G1)) (hG1 : ¬ (G1 = (0 : Int32))) (T : Str Z h0 x cs) (E_sb : Exa Z h0 sb "java/lang/StringBuilder") (F_v : Fld Z h0 sb "java/lang/AbstractStringBuilder" "value" "[B" (.ref va)) (F_c : Fld Z h0 sb "java/lang/AbstractStringBuilder" "coder" "B" (.int (0 : Int32))) (F_n : Fld Z h0 sb "java/lang/AbstractStringBuilder" "count" "I" (.int cn)) (K_v : Arv Z h0 va kv .byte (16 : Int32) vd (.int (0 : Int32))) (gsb : n0 ≤ sb) (gva : n0 ≤ va) (nsv : sb ≠ va) (hcp : CpOK cn cs.length (cs.map (fun c => Value.int (StrChars.lo8 c))) vd vn) (hen : ¬ ((0 : Int32) < ((cn + (Int32.ofNat cs.length)) - ((16 : Int32) >>> ((0 : Int32) &&& 31))))) (hnn : cn + (Int32.ofNat cs.length) = nn) :
    MetFree l (⟨"java/lang/StringBuilder", "append", "(Ljava/lang/String;)Ljava/lang/StringBuilder;"⟩ : MethodName) (head1 (Jvm.Cond.code (⟨"java/lang/StringBuilder", "append", "(Ljava/lang/String;)Ljava/lang/StringBuilder;"⟩ : MethodName) jdk_67_method_7_code 2 (some (.object "java/lang/StringBuilder")) :: ws) ({ frames := 4, cells := 0, slots := 0, locals := 83 } : Room)) (fun a_ U => a_ = #[(.ref sb), (.ref x)] ∧ Z.Warmed39 U.vm ∧ U.heap = h0) (fun _ _ _ _ _ => True) (fun _ U o U' => ∃ v L, o = .returned v ∧ QA Z sb va kv nn vn h0 n0 v U'.heap L ∧ FrameEnd U o U' L ({ frames := 4, cells := 0, slots := 0, locals := 83 } : Room).cells ({ frames := 4, cells := 0, slots := 0, locals := 83 } : Room).slots) := by
  refine MetFree.of_bodySF (plainFor_of_name pn_2) hisR ?_
  intro p e s m args below meth c s₁ Bd hml0 hP hK
  obtain ⟨rfl, hZ, hh⟩ := hP
  have hx := Bd.exec
  have hby := Bd.bytes
  have hml : c.maxLocals = 2 := hml0
  have hown : s.vm.findClass "java/lang/StringBuilder" = some m.cls := findClass_of_methodNamed Bd.named
  have hnm := (name_of_methodNamed Bd.named Bd.method).1
  have X0 : Stand p l e ({ frames := 4, cells := 0, slots := 0, locals := 83 } : Room) s m #[(.ref sb), (.ref x)] below meth c s₁ [] 0 0 := Stand.of_body Bd
  have e0 : s₁.heap = h0 := by rw [← hh, Bd.state]; rfl
  have N0 := Fr.nil n0
  have pre0 : ∀ tg, Steps p.tables e below (s₁.setTop (mkF m 0 #[.val (.ref sb), .val (.ref x)] [])) tg → Steps p.tables e below (s₁.setTop (entryFrame m #[(.ref sb), (.ref x)] 2)) tg := fun tg kq => castTop (ef_RR_2 m sb x) kq
  obtain ⟨_, _, ⟨T101, L101, k101, n101⟩, -, X101, ⟨Lc101, hQ101, l101, y101, z101⟩, st101⟩ := superBack X0 hx hZ (y := (⟨"java/lang/AbstractStringBuilder", "append", "(Ljava/lang/String;)Ljava/lang/AbstractStringBuilder;"⟩ : MethodName)) hown (wi hw 70 rfl) (own_same (z := ({ cls := "java/lang/AbstractStringBuilder", name := "ensureCapacityInternal", desc := "(I)V" } : Jvm.MethodName)) (wi hw 71 rfl) (by decide) rfl (wi hw 88 rfl) (notFace_of_selects (wi hw 90 rfl))) (wi hw 71 rfl) (wi hw 72 rfl) (by decide) (backOf (W := 0) (rmAA l Z a0 hw [] sb x va kv cn nn G1 cs vd vn h0 n0 O0 S_CS hG1 T E_sb F_v F_c F_n K_v gsb gva nsv hcp hen hnn) hZ (wi hw 74 rfl) (wi hw 51 rfl) (by decide) (by decide)) e0 (Ins.self E_sb) (g := (mkF m 2 #[.val (.ref sb), .val (.ref x)] [(.ref x), (.ref sb)])) rfl (by rw [hml]; rfl) (wi hw 74 rfl) (argsL := [(.ref x)]) (rest := []) (lenOf pd_6 rfl) rfl (by show 2 * 0 + _ ≤ _; exact Nat.le_of_eq rfl) (hb hby d12_2) (fun _ _ => ⟨rfl, e0, (by decide : 0 + 0 ≤ _), (by decide : 0 + 0 ≤ _)⟩)
  dsimp only [Pt.U, Pt.locs, Pt.cells, Pt.slots] at X101 l101 y101 z101 st101 hQ101
  subst l101 y101 z101
  obtain ⟨rfl, N101q, K101, A101v, A101c, A101n, A101q⟩ := hQ101
  obtain ⟨h101, e101⟩ : ∃ z, T101.heap = z := ⟨_, rfl⟩
  rw [e101] at K101 A101v A101c A101n A101q
  have O101 := O0.keep K101 (allS gva (allS gsb all0))
  have KK101 : Keep h0 h101 [va, sb] := (Keep.refl h0 [va, sb]).trans K101 (allS (Or.inl (List.mem_of_getElem? (i := 0) rfl)) (allS (Or.inl (List.mem_of_getElem? (i := 1) rfl)) all0))
  have N101 := Fr.app N0 N101q
  obtain ⟨fs, hr, hrun, hended, hW, hsame⟩ := X101.leave (v := some (.ref sb)) (fun h => by rw [Bd.returns] at h; cases h)
  refine ⟨_, _, pre0 _ ?_, hrun, hended, _, _, rfl, ?_, ⟨_, rfl⟩, hW, hsame.mono (by decide) (by decide)⟩
  · show Steps p.tables e below (s₁.setTop (mkF m 0 #[.val (.ref sb), .val (.ref x)] [])) _
    refine XS.aloadN X0.here hx rfl (hb hby d12_0) rfl rfl ?_
    show Steps p.tables e below (s₁.setTop (mkF m 1 #[.val (.ref sb), .val (.ref x)] [(.ref sb)])) _
    refine XS.aloadN X0.here hx rfl (hb hby d12_1) rfl rfl ?_
    show Steps p.tables e below (s₁.setTop (mkF m 2 #[.val (.ref sb), .val (.ref x)] [(.ref x), (.ref sb)])) _
    refine st101.trans ?_
    show Steps p.tables e below (T101.setTop (mkF m 5 #[.val (.ref sb), .val (.ref x)] [(.ref sb)])) _
    refine XS.pop X101.here hx rfl (hb hby d12_5) rfl rfl ?_
    show Steps p.tables e below (T101.setTop (mkF m 6 #[.val (.ref sb), .val (.ref x)] [])) _
    refine XS.aloadN X101.here hx rfl (hb hby d12_6) rfl rfl ?_
    show Steps p.tables e below (T101.setTop (mkF m 7 #[.val (.ref sb), .val (.ref x)] [(.ref sb)])) _
    jvm_step X101.here [X101.here.top, hx, (hb hby d12_7), X101.method', Bd.returns, Value.isRef, FieldType.isReference]
    first | (intro acts; rw [hr _ acts rfl rfl rfl]) | rw [hr _ _ rfl rfl rfl]
    exact Steps.refl _
  · show QA Z sb va kv nn vn h0 n0 _ T101.heap _
    rw [e101]
    exact ⟨rfl, N101, KK101, A101v, A101c, A101n, A101q⟩
def QI (Z : State) (sb : Addr) (h0 : Heap) (n0 : Nat) (v : Option Value) (h : Heap) (L : List Loc) : Prop := ∃ (va : Addr) (kv : ClassId), v = none ∧ Fr n0 L ∧ Keep h0 h [sb] ∧ h0.size ≤ va ∧ Fld Z h sb "java/lang/AbstractStringBuilder" "value" "[B" (.ref va) ∧ Fld Z h sb "java/lang/AbstractStringBuilder" "coder" "B" (.int (0 : Int32)) ∧ Fld Z h sb "java/lang/AbstractStringBuilder" "count" "I" (.int (0 : Int32)) ∧ Arv Z h va kv .byte (16 : Int32) [.int (0 : Int32), .int (0 : Int32), .int (0 : Int32), .int (0 : Int32), .int (0 : Int32), .int (0 : Int32), .int (0 : Int32), .int (0 : Int32), .int (0 : Int32), .int (0 : Int32), .int (0 : Int32), .int (0 : Int32), .int (0 : Int32), .int (0 : Int32), .int (0 : Int32), .int (0 : Int32)] (.int (0 : Int32))
theorem d10_0 : decode jdk_68_method_2_code 0 = .ok (.aload_n 0, 1) := by decide +kernel
theorem d10_1 : decode jdk_68_method_2_code 1 = .ok (.invokespecial 3, 3) := by decide +kernel
theorem d10_4 : decode jdk_68_method_2_code 4 = .ok (.getstatic 18, 3) := by decide +kernel
theorem d10_7 : decode jdk_68_method_2_code 7 = .ok (.ifCond .eq 18, 3) := by decide +kernel
theorem d10_10 : decode jdk_68_method_2_code 10 = .ok (.aload_n 0, 1) := by decide +kernel
theorem d10_11 : decode jdk_68_method_2_code 11 = .ok (.iload_n 1, 1) := by decide +kernel
theorem d10_12 : decode jdk_68_method_2_code 12 = .ok (.newarray .byte, 2) := by decide +kernel
theorem d10_14 : decode jdk_68_method_2_code 14 = .ok (.putfield 15, 3) := by decide +kernel
theorem d10_17 : decode jdk_68_method_2_code 17 = .ok (.aload_n 0, 1) := by decide +kernel
theorem d10_18 : decode jdk_68_method_2_code 18 = .ok (.iconst 0, 1) := by decide +kernel
theorem d10_19 : decode jdk_68_method_2_code 19 = .ok (.putfield 22, 3) := by decide +kernel
theorem d10_22 : decode jdk_68_method_2_code 22 = .ok (.goto 16, 3) := by decide +kernel
theorem d10_38 : decode jdk_68_method_2_code 38 = .ok (.return_, 1) := by decide +kernel
theorem ef_RI_2 (m : MethodId) (x0 : Addr) (x1 : Int32) : entryFrame m #[(.ref x0), (.int x1)] 2 = mkF m 0 #[.val (.ref x0), .val (.int x1)] [] := by first | (simp [entryFrame, mkF, argsToLocals, Value.category]; done) | rfl
set_option maxRecDepth 65536 in
set_option maxHeartbeats 40000000 in
theorem rmI1 (l : Launch) (Z : State) (a0 : Array Value) (hw : ∀ d ∈ tables_1, d.before a0 Z = true) (ws : List Jvm.Cond) (sb : Addr) (G1 : Int32) (h0 : Heap) (n0 : Nat) (O0 : Old Z n0 h0) (S_CS : Sta Z Z.heap "java/lang/String" "COMPACT_STRINGS" "Z" (.int G1)) (hG1 : ¬ (G1 = (0 : Int32))) (E_sb : Exa Z h0 sb "java/lang/StringBuilder") (F_v : Fld Z h0 sb "java/lang/AbstractStringBuilder" "value" "[B" .null) (F_c : Fld Z h0 sb "java/lang/AbstractStringBuilder" "coder" "B" (.int (0 : Int32))) (F_n : Fld Z h0 sb "java/lang/AbstractStringBuilder" "count" "I" (.int (0 : Int32))) (gsb : n0 ≤ sb) :
    MetFree l (⟨"java/lang/AbstractStringBuilder", "<init>", "(I)V"⟩ : MethodName) (head1 (Jvm.Cond.code (⟨"java/lang/AbstractStringBuilder", "<init>", "(I)V"⟩ : MethodName) jdk_68_method_2_code 2 none :: ws) ({ frames := 1, cells := 1, slots := 16, locals := 12 } : Room)) (fun a_ U => a_ = #[(.ref sb), (.int (16 : Int32))] ∧ Z.Warmed39 U.vm ∧ U.heap = h0) (fun _ _ _ _ _ => True) (fun _ U o U' => ∃ v L, o = .returned v ∧ QI Z sb h0 n0 v U'.heap L ∧ FrameEnd U o U' L ({ frames := 1, cells := 1, slots := 16, locals := 12 } : Room).cells ({ frames := 1, cells := 1, slots := 16, locals := 12 } : Room).slots) := by
  refine MetFree.of_bodySF (plainFor_of_name pn_1) hisR ?_
  intro p e s m args below meth c s₁ Bd hml0 hP hK
  obtain ⟨rfl, hZ, hh⟩ := hP
  have hx := Bd.exec
  have hby := Bd.bytes
  have hml : c.maxLocals = 2 := hml0
  have hown : s.vm.findClass "java/lang/AbstractStringBuilder" = some m.cls := findClass_of_methodNamed Bd.named
  have hnm := (name_of_methodNamed Bd.named Bd.method).1
  have X0 : Stand p l e ({ frames := 1, cells := 1, slots := 16, locals := 12 } : Room) s m #[(.ref sb), (.int (16 : Int32))] below meth c s₁ [] 0 0 := Stand.of_body Bd
  have e0 : s₁.heap = h0 := by rw [← hh, Bd.state]; rfl
  have N0 := Fr.nil n0
  have pre0 : ∀ tg, Steps p.tables e below (s₁.setTop (mkF m 0 #[.val (.ref sb), .val (.int (16 : Int32))] [])) tg → Steps p.tables e below (s₁.setTop (entryFrame m #[(.ref sb), (.int (16 : Int32))] 2)) tg := fun tg kq => castTop (ef_RI_2 m sb (16 : Int32)) kq
  obtain ⟨T101, X101, e101, st101⟩ := initO X0 hx hZ hown (wi hw 53 rfl) (wi hw 16 rfl) (wi hw 17 rfl) e0 (g := (mkF m 1 #[.val (.ref sb), .val (.int (16 : Int32))] [(.ref sb)])) rfl (by rw [hml]; rfl) rfl (hb hby d10_1) (by decide) (W := 0) (by show 2 * 0 + _ ≤ _; exact Nat.le_of_eq rfl) (by decide)
  obtain ⟨T102, X102, e102, st102⟩ := getS2 X101 hx hZ hown (host := "") (Or.inl (wi hw 54 rfl)) Via.refl e101 (S_CS.ext O0.2) (g := (mkF m 4 #[.val (.ref sb), .val (.int (16 : Int32))] [])) rfl (hb hby d10_4)
  obtain ⟨T103, h103, k103, X103, e103, E103, A103, st103⟩ := newP X102 hx hZ (wi hw 23 rfl) e102 (g := (mkF m 12 #[.val (.ref sb), .val (.int (16 : Int32))] [(.int (16 : Int32)), (.ref sb)])) rfl (hb hby d10_12) rfl (by decide) (cap := 16) (by decide) (by decide) (by decide) (by decide)
  obtain ⟨b103, g103⟩ : ∃ z, z = h0.size := ⟨_, rfl⟩
  rw [← g103] at A103 st103
  have g_b103 : n0 ≤ b103 := Nat.le_trans (O0.1 ▸ O0.2.1) (Nat.le_of_eq g103.symm)
  have sz_b103 : h0.size ≤ b103 := Nat.le_trans (Nat.le_refl _) (Nat.le_of_eq g103.symm)
  have O103 := O0.ext E103
  have KK103 : Keep h0 h103 [sb] := (Keep.refl h0 [sb]).ext E103
  have V_b103 : Arv Z h103 b103 k103 .byte (16 : Int32) [(.int (0 : Int32)), (.int (0 : Int32)), (.int (0 : Int32)), (.int (0 : Int32)), (.int (0 : Int32)), (.int (0 : Int32)), (.int (0 : Int32)), (.int (0 : Int32)), (.int (0 : Int32)), (.int (0 : Int32)), (.int (0 : Int32)), (.int (0 : Int32)), (.int (0 : Int32)), (.int (0 : Int32)), (.int (0 : Int32)), (.int (0 : Int32))] (.int (0 : Int32)) := (Arv.new A103 (by decide)).pad (pad_rep [] (.int (0 : Int32)) 16)
  have fE_sb_1_104 := (E_sb.ext E103)
  have fAbstractStringBuilder_value_1_105 := (F_v.ext E103)
  obtain ⟨T106, h106, X106, e106, W106, st106⟩ := putF X103 hx hZ hown (host := "") (Or.inl (wi hw 55 rfl)) Via.refl e103 fAbstractStringBuilder_value_1_105 fE_sb_1_104 (Or.inl (wi hw 56 rfl)) (wi hw 42 rfl) (ty := (.array .byte)) (by decide) rfl rfl (g := (mkF m 14 #[.val (.ref sb), .val (.int (16 : Int32))] [(.ref b103), (.ref sb)])) rfl rfl (hb hby d10_14)
  have Fw106 := fAbstractStringBuilder_value_1_105.same W106
  have O106 := O103.wr W106 gsb
  have KK106 : Keep h0 h106 [sb] := KK103.wr W106 (Or.inl (List.mem_of_getElem? (i := 0) rfl))
  have N106 := Fr.snoc X106 N0 gsb
  have fE_sb_2_107 := (fE_sb_1_104.wr W106)
  have fAbstractStringBuilder_coder_2_108 := ((F_c.ext E103).other W106 (Or.inr (slot_ne (Or.inl (wi hw 58 rfl)) (Or.inl (wi hw 56 rfl)) (by decide) (t := .byte) (t' := (.array .byte)) (by decide) (by decide))))
  obtain ⟨T109, h109, X109, e109, W109, st109⟩ := putF X106 hx hZ hown (host := "") (Or.inl (wi hw 57 rfl)) Via.refl e106 fAbstractStringBuilder_coder_2_108 fE_sb_2_107 (Or.inl (wi hw 58 rfl)) (wi hw 42 rfl) (ty := .byte) (by decide) rfl rfl (g := (mkF m 19 #[.val (.ref sb), .val (.int (16 : Int32))] [(.int (0 : Int32)), (.ref sb)])) rfl rfl (hb hby d10_19)
  have Fw109 := fAbstractStringBuilder_coder_2_108.same W109
  have O109 := O106.wr W109 gsb
  have KK109 : Keep h0 h109 [sb] := KK106.wr W109 (Or.inl (List.mem_of_getElem? (i := 0) rfl))
  have N109 := Fr.snoc X109 N106 gsb
  have fAbstractStringBuilder_value_3_110 := (Fw106.other W109 (Or.inr (slot_ne (Or.inl (wi hw 56 rfl)) (Or.inl (wi hw 58 rfl)) (by decide) (t := (.array .byte)) (t' := .byte) (by decide) (by decide))))
  have fAbstractStringBuilder_count_3_111 := (((F_n.ext E103).other W106 (Or.inr (slot_ne (Or.inl (wi hw 86 rfl)) (Or.inl (wi hw 56 rfl)) (by decide) (t := .int) (t' := (.array .byte)) (by decide) (by decide)))).other W109 (Or.inr (slot_ne (Or.inl (wi hw 86 rfl)) (Or.inl (wi hw 58 rfl)) (by decide) (t := .int) (t' := .byte) (by decide) (by decide))))
  have fV_b103_3_112 := ((V_b103.other W106 (Ne.symm (Nat.ne_of_lt (Nat.lt_of_lt_of_le E_sb.lt (Nat.le_of_eq g103.symm))))).other W109 (Ne.symm (Nat.ne_of_lt (Nat.lt_of_lt_of_le E_sb.lt (Nat.le_of_eq g103.symm)))))
  obtain ⟨fs, hr, hrun, hended, hW, hsame⟩ := X109.leave (v := none) (fun _ => rfl)
  refine ⟨_, _, pre0 _ ?_, hrun, hended, _, _, rfl, ?_, ⟨_, rfl⟩, hW, hsame.mono (by decide) (by decide)⟩
  · show Steps p.tables e below (s₁.setTop (mkF m 0 #[.val (.ref sb), .val (.int (16 : Int32))] [])) _
    refine XS.aloadN X0.here hx rfl (hb hby d10_0) rfl rfl ?_
    show Steps p.tables e below (s₁.setTop (mkF m 1 #[.val (.ref sb), .val (.int (16 : Int32))] [(.ref sb)])) _
    refine st101 _ ?_
    show Steps p.tables e below (T101.setTop (mkF m 4 #[.val (.ref sb), .val (.int (16 : Int32))] [])) _
    refine st102 _ ?_
    show Steps p.tables e below (T102.setTop (mkF m 7 #[.val (.ref sb), .val (.int (16 : Int32))] [(.int G1)])) _
    refine XS.ifNo X102.here hx rfl (hb hby d10_7) rfl ((if0 _ _).trans (feq hG1).1) ?_
    show Steps p.tables e below (T102.setTop (mkF m 10 #[.val (.ref sb), .val (.int (16 : Int32))] [])) _
    refine XS.aloadN X102.here hx rfl (hb hby d10_10) rfl rfl ?_
    show Steps p.tables e below (T102.setTop (mkF m 11 #[.val (.ref sb), .val (.int (16 : Int32))] [(.ref sb)])) _
    refine XS.iloadN X102.here hx rfl (hb hby d10_11) rfl ?_
    show Steps p.tables e below (T102.setTop (mkF m 12 #[.val (.ref sb), .val (.int (16 : Int32))] [(.int (16 : Int32)), (.ref sb)])) _
    refine st103 _ ?_
    show Steps p.tables e below (T103.setTop (mkF m 14 #[.val (.ref sb), .val (.int (16 : Int32))] [(.ref b103), (.ref sb)])) _
    refine st106 _ ?_
    show Steps p.tables e below (T106.setTop (mkF m 17 #[.val (.ref sb), .val (.int (16 : Int32))] [])) _
    refine XS.aloadN X106.here hx rfl (hb hby d10_17) rfl rfl ?_
    show Steps p.tables e below (T106.setTop (mkF m 18 #[.val (.ref sb), .val (.int (16 : Int32))] [(.ref sb)])) _
    refine XS.iconst X106.here hx rfl (hb hby d10_18) ?_
    show Steps p.tables e below (T106.setTop (mkF m 19 #[.val (.ref sb), .val (.int (16 : Int32))] [(.int (0 : Int32)), (.ref sb)])) _
    refine st109 _ ?_
    show Steps p.tables e below (T109.setTop (mkF m 22 #[.val (.ref sb), .val (.int (16 : Int32))] [])) _
    refine XS.goto X109.here hx rfl (pc0 := 22) (pc' := 38) rfl (hb hby d10_22) (by decide) (by decide) ?_
    show Steps p.tables e below (T109.setTop (mkF m 38 #[.val (.ref sb), .val (.int (16 : Int32))] [])) _
    exact X109.returnOut hx Bd.returns (hb hby d10_38) hr
  · show QI Z sb h0 n0 _ T109.heap _
    rw [e109]
    exact ⟨_, _, rfl, N109, KK109, sz_b103, fAbstractStringBuilder_value_3_110, Fw109, fAbstractStringBuilder_count_3_111, fV_b103_3_112⟩
theorem d9_0 : decode jdk_67_method_1_code 0 = .ok (.aload_n 0, 1) := by decide +kernel
theorem d9_1 : decode jdk_67_method_1_code 1 = .ok (.bipush 16, 2) := by decide +kernel
theorem d9_3 : decode jdk_67_method_1_code 3 = .ok (.invokespecial 1, 3) := by decide +kernel
theorem d9_6 : decode jdk_67_method_1_code 6 = .ok (.return_, 1) := by decide +kernel
set_option maxRecDepth 65536 in
set_option maxHeartbeats 40000000 in
theorem rmI0 (l : Launch) (Z : State) (a0 : Array Value) (hw : ∀ d ∈ tables_1, d.before a0 Z = true) (ws : List Jvm.Cond) (sb : Addr) (G1 : Int32) (h0 : Heap) (n0 : Nat) (O0 : Old Z n0 h0) (S_CS : Sta Z Z.heap "java/lang/String" "COMPACT_STRINGS" "Z" (.int G1)) (hG1 : ¬ (G1 = (0 : Int32))) (E_sb : Exa Z h0 sb "java/lang/StringBuilder") (F_v : Fld Z h0 sb "java/lang/AbstractStringBuilder" "value" "[B" .null) (F_c : Fld Z h0 sb "java/lang/AbstractStringBuilder" "coder" "B" (.int (0 : Int32))) (F_n : Fld Z h0 sb "java/lang/AbstractStringBuilder" "count" "I" (.int (0 : Int32))) (gsb : n0 ≤ sb) :
    MetFree l (⟨"java/lang/StringBuilder", "<init>", "()V"⟩ : MethodName) (head1 (Jvm.Cond.code (⟨"java/lang/StringBuilder", "<init>", "()V"⟩ : MethodName) jdk_67_method_1_code 1 none :: ws) ({ frames := 2, cells := 1, slots := 16, locals := 25 } : Room)) (fun a_ U => a_ = #[(.ref sb)] ∧ Z.Warmed39 U.vm ∧ U.heap = h0) (fun _ _ _ _ _ => True) (fun _ U o U' => ∃ v L, o = .returned v ∧ QI Z sb h0 n0 v U'.heap L ∧ FrameEnd U o U' L ({ frames := 2, cells := 1, slots := 16, locals := 25 } : Room).cells ({ frames := 2, cells := 1, slots := 16, locals := 25 } : Room).slots) := by
  refine MetFree.of_bodySF (plainFor_of_name pn_2) hisR ?_
  intro p e s m args below meth c s₁ Bd hml0 hP hK
  obtain ⟨rfl, hZ, hh⟩ := hP
  have hx := Bd.exec
  have hby := Bd.bytes
  have hml : c.maxLocals = 1 := hml0
  have hown : s.vm.findClass "java/lang/StringBuilder" = some m.cls := findClass_of_methodNamed Bd.named
  have hnm := (name_of_methodNamed Bd.named Bd.method).1
  have X0 : Stand p l e ({ frames := 2, cells := 1, slots := 16, locals := 25 } : Room) s m #[(.ref sb)] below meth c s₁ [] 0 0 := Stand.of_body Bd
  have e0 : s₁.heap = h0 := by rw [← hh, Bd.state]; rfl
  have N0 := Fr.nil n0
  have pre0 : ∀ tg, Steps p.tables e below (s₁.setTop (mkF m 0 #[.val (.ref sb)] [])) tg → Steps p.tables e below (s₁.setTop (entryFrame m #[(.ref sb)] 1)) tg := fun tg kq => castTop (ef_R_1 m sb) kq
  obtain ⟨_, _, ⟨T101, L101, k101, n101⟩, -, X101, ⟨Lc101, hQ101, l101, y101, z101⟩, st101⟩ := X0.specialBack hx (y := (⟨"java/lang/AbstractStringBuilder", "<init>", "(I)V"⟩ : MethodName)) rfl hown (mvT hZ (wi hw 47 rfl)) (mvT hZ (wi hw 48 rfl)) (mvT hZ (wi hw 52 rfl)) (by decide) (backOf (W := 0) (rmI1 l Z a0 hw [] sb G1 h0 n0 O0 S_CS hG1 E_sb F_v F_c F_n gsb) hZ (wi hw 52 rfl) (wi hw 51 rfl) (by decide) (by decide)) (g := (mkF m 3 #[.val (.ref sb)] [(.int (16 : Int32)), (.ref sb)])) rfl (by rw [hml]; rfl) (Steps.refl _) (a := sb) (argsL := [(.int (16 : Int32))]) (rest := []) (lenOf pd_4 rfl) rfl (by show 2 * 0 + _ ≤ _; exact Nat.le_of_eq rfl) (hb hby d9_3) (fun _ _ => ⟨rfl, e0, (by decide : 0 + 1 ≤ _), (by decide : 0 + 16 ≤ _)⟩)
  dsimp only [Pt.U, Pt.locs, Pt.cells, Pt.slots] at X101 l101 y101 z101 st101 hQ101
  subst l101 y101 z101
  obtain ⟨va101, kv101, rfl, N101q, K101, sz101q, A101v, A101c, A101n, A101q⟩ := hQ101
  obtain ⟨h101, e101⟩ : ∃ z, T101.heap = z := ⟨_, rfl⟩
  rw [e101] at K101 A101v A101c A101n A101q
  have g_va101 : n0 ≤ va101 := Nat.le_trans (O0.1 ▸ O0.2.1) sz101q
  have sz_va101 : h0.size ≤ va101 := Nat.le_trans (Nat.le_refl _) sz101q
  have O101 := O0.keep K101 (allS gsb all0)
  have KK101 : Keep h0 h101 [sb] := (Keep.refl h0 [sb]).trans K101 (allS (Or.inl (List.mem_of_getElem? (i := 0) rfl)) all0)
  have N101 := Fr.app N0 N101q
  obtain ⟨fs, hr, hrun, hended, hW, hsame⟩ := X101.leave (v := none) (fun _ => rfl)
  refine ⟨_, _, pre0 _ ?_, hrun, hended, _, _, rfl, ?_, ⟨_, rfl⟩, hW, hsame.mono (by decide) (by decide)⟩
  · show Steps p.tables e below (s₁.setTop (mkF m 0 #[.val (.ref sb)] [])) _
    refine XS.aloadN X0.here hx rfl (hb hby d9_0) rfl rfl ?_
    show Steps p.tables e below (s₁.setTop (mkF m 1 #[.val (.ref sb)] [(.ref sb)])) _
    refine XS.bipush X0.here hx rfl (hb hby d9_1) ?_
    show Steps p.tables e below (s₁.setTop (mkF m 3 #[.val (.ref sb)] [(.int (16 : Int32)), (.ref sb)])) _
    refine st101.trans ?_
    show Steps p.tables e below (T101.setTop (mkF m 6 #[.val (.ref sb)] [])) _
    exact X101.returnOut hx Bd.returns (hb hby d9_6) hr
  · show QI Z sb h0 n0 _ T101.heap _
    rw [e101]
    exact ⟨_, _, rfl, N101, KK101, sz_va101, A101v, A101c, A101n, A101q⟩
theorem d11_0 : decode jdk_31_method_11_code 0 = .ok (.aload_n 0, 1) := by decide +kernel
theorem d11_1 : decode jdk_31_method_11_code 1 = .ok (.ifnonnull 12, 3) := by decide +kernel
theorem d11_13 : decode jdk_31_method_11_code 13 = .ok (.aload_n 0, 1) := by decide +kernel
theorem d11_14 : decode jdk_31_method_11_code 14 = .ok (.areturn, 1) := by decide +kernel
theorem pn_3 : plainName "java/util/Objects" = true := by first | (simp [plainName, overriddenIn]; done) | decide +kernel
set_option maxRecDepth 65536 in
set_option maxHeartbeats 40000000 in
theorem rmNN (l : Launch) (Z : State) (a0 : Array Value) (hw : ∀ d ∈ tables_1, d.before a0 Z = true) (ws : List Jvm.Cond) (x y : Addr) (h0 : Heap) (n0 : Nat) (O0 : Old Z n0 h0) :
    MetFree l (⟨"java/util/Objects", "requireNonNull", "(Ljava/lang/Object;Ljava/lang/String;)Ljava/lang/Object;"⟩ : MethodName) (head1 (Jvm.Cond.code (⟨"java/util/Objects", "requireNonNull", "(Ljava/lang/Object;Ljava/lang/String;)Ljava/lang/Object;"⟩ : MethodName) jdk_31_method_11_code 2 (some (.object "java/lang/Object")) :: ws) ({ frames := 0, cells := 0, slots := 0, locals := 0 } : Room)) (fun a_ U => a_ = #[(.ref x), (.ref y)] ∧ Z.Warmed39 U.vm ∧ U.heap = h0) (fun _ _ _ _ _ => True) (fun _ U o U' => ∃ v L, o = .returned v ∧ QP (.ref x) h0 n0 v U'.heap L ∧ FrameEnd U o U' L ({ frames := 0, cells := 0, slots := 0, locals := 0 } : Room).cells ({ frames := 0, cells := 0, slots := 0, locals := 0 } : Room).slots) := by
  refine MetFree.of_bodySF (plainFor_of_name pn_3) hisR ?_
  intro p e s m args below meth c s₁ Bd hml0 hP hK
  obtain ⟨rfl, hZ, hh⟩ := hP
  have hx := Bd.exec
  have hby := Bd.bytes
  have hml : c.maxLocals = 2 := hml0
  have hown : s.vm.findClass "java/util/Objects" = some m.cls := findClass_of_methodNamed Bd.named
  have hnm := (name_of_methodNamed Bd.named Bd.method).1
  have X0 : Stand p l e ({ frames := 0, cells := 0, slots := 0, locals := 0 } : Room) s m #[(.ref x), (.ref y)] below meth c s₁ [] 0 0 := Stand.of_body Bd
  have e0 : s₁.heap = h0 := by rw [← hh, Bd.state]; rfl
  have N0 := Fr.nil n0
  have pre0 : ∀ tg, Steps p.tables e below (s₁.setTop (mkF m 0 #[.val (.ref x), .val (.ref y)] [])) tg → Steps p.tables e below (s₁.setTop (entryFrame m #[(.ref x), (.ref y)] 2)) tg := fun tg kq => castTop (ef_RR_2 m x y) kq
  obtain ⟨fs, hr, hrun, hended, hW, hsame⟩ := X0.leave (v := some (.ref x)) (fun h => by rw [Bd.returns] at h; cases h)
  refine ⟨_, _, pre0 _ ?_, hrun, hended, _, _, rfl, ?_, ⟨_, rfl⟩, hW, hsame.mono (by decide) (by decide)⟩
  · show Steps p.tables e below (s₁.setTop (mkF m 0 #[.val (.ref x), .val (.ref y)] [])) _
    refine XS.aloadN X0.here hx rfl (hb hby d11_0) rfl rfl ?_
    show Steps p.tables e below (s₁.setTop (mkF m 1 #[.val (.ref x), .val (.ref y)] [(.ref x)])) _
    refine XS.ifnonnullYes X0.here hx rfl (pc0 := 1) (pc' := 13) rfl (hb hby d11_1) rfl (by decide) (by decide) ?_
    show Steps p.tables e below (s₁.setTop (mkF m 13 #[.val (.ref x), .val (.ref y)] [])) _
    refine XS.aloadN X0.here hx rfl (hb hby d11_13) rfl rfl ?_
    show Steps p.tables e below (s₁.setTop (mkF m 14 #[.val (.ref x), .val (.ref y)] [(.ref x)])) _
    jvm_step X0.here [X0.here.top, hx, (hb hby d11_14), X0.method', Bd.returns, Value.isRef, FieldType.isReference]
    first | (intro acts; rw [hr _ acts rfl rfl rfl]) | rw [hr _ _ rfl rfl rfl]
    exact Steps.refl _
  · show QP (.ref x) h0 n0 _ s₁.heap _
    rw [e0]
    exact ⟨rfl, N0, rfl⟩
theorem d23_0 : decode jdk_68_method_64_code 0 = .ok (.aload_n 0, 1) := by decide +kernel
theorem d23_1 : decode jdk_68_method_64_code 1 = .ok (.getfield 15, 3) := by decide +kernel
theorem d23_4 : decode jdk_68_method_64_code 4 = .ok (.areturn, 1) := by decide +kernel
set_option maxRecDepth 65536 in
set_option maxHeartbeats 40000000 in
theorem rmGV (l : Launch) (Z : State) (a0 : Array Value) (hw : ∀ d ∈ tables_1, d.before a0 Z = true) (ws : List Jvm.Cond) (sb va : Addr) (h0 : Heap) (n0 : Nat) (O0 : Old Z n0 h0) (E_sb : Exa Z h0 sb "java/lang/StringBuilder") (F_v : Fld Z h0 sb "java/lang/AbstractStringBuilder" "value" "[B" (.ref va)) :
    MetFree l (⟨"java/lang/AbstractStringBuilder", "getValue", "()[B"⟩ : MethodName) (head1 (Jvm.Cond.code (⟨"java/lang/AbstractStringBuilder", "getValue", "()[B"⟩ : MethodName) jdk_68_method_64_code 1 (some (.array .byte)) :: ws) ({ frames := 0, cells := 0, slots := 0, locals := 0 } : Room)) (fun a_ U => a_ = #[(.ref sb)] ∧ Z.Warmed39 U.vm ∧ U.heap = h0) (fun _ _ _ _ _ => True) (fun _ U o U' => ∃ v L, o = .returned v ∧ QP (.ref va) h0 n0 v U'.heap L ∧ FrameEnd U o U' L ({ frames := 0, cells := 0, slots := 0, locals := 0 } : Room).cells ({ frames := 0, cells := 0, slots := 0, locals := 0 } : Room).slots) := by
  refine MetFree.of_bodySF (plainFor_of_name pn_1) hisR ?_
  intro p e s m args below meth c s₁ Bd hml0 hP hK
  obtain ⟨rfl, hZ, hh⟩ := hP
  have hx := Bd.exec
  have hby := Bd.bytes
  have hml : c.maxLocals = 1 := hml0
  have hown : s.vm.findClass "java/lang/AbstractStringBuilder" = some m.cls := findClass_of_methodNamed Bd.named
  have hnm := (name_of_methodNamed Bd.named Bd.method).1
  have X0 : Stand p l e ({ frames := 0, cells := 0, slots := 0, locals := 0 } : Room) s m #[(.ref sb)] below meth c s₁ [] 0 0 := Stand.of_body Bd
  have e0 : s₁.heap = h0 := by rw [← hh, Bd.state]; rfl
  have N0 := Fr.nil n0
  have pre0 : ∀ tg, Steps p.tables e below (s₁.setTop (mkF m 0 #[.val (.ref sb)] [])) tg → Steps p.tables e below (s₁.setTop (entryFrame m #[(.ref sb)] 1)) tg := fun tg kq => castTop (ef_R_1 m sb) kq
  obtain ⟨T101, X101, e101, st101⟩ := getF X0 hx hZ hown (host := "") (Or.inl (wi hw 55 rfl)) Via.refl e0 F_v (g := (mkF m 1 #[.val (.ref sb)] [(.ref sb)])) rfl rfl (hb hby d23_1)
  obtain ⟨fs, hr, hrun, hended, hW, hsame⟩ := X101.leave (v := some (.ref va)) (fun h => by rw [Bd.returns] at h; cases h)
  refine ⟨_, _, pre0 _ ?_, hrun, hended, _, _, rfl, ?_, ⟨_, rfl⟩, hW, hsame.mono (by decide) (by decide)⟩
  · show Steps p.tables e below (s₁.setTop (mkF m 0 #[.val (.ref sb)] [])) _
    refine XS.aloadN X0.here hx rfl (hb hby d23_0) rfl rfl ?_
    show Steps p.tables e below (s₁.setTop (mkF m 1 #[.val (.ref sb)] [(.ref sb)])) _
    refine st101 _ ?_
    show Steps p.tables e below (T101.setTop (mkF m 4 #[.val (.ref sb)] [(.ref va)])) _
    jvm_step X101.here [X101.here.top, hx, (hb hby d23_4), X101.method', Bd.returns, Value.isRef, FieldType.isReference]
    first | (intro acts; rw [hr _ acts rfl rfl rfl]) | rw [hr _ _ rfl rfl rfl]
    exact Steps.refl _
  · show QP (.ref va) h0 n0 _ T101.heap _
    rw [e101]
    exact ⟨rfl, N0, rfl⟩
theorem d25_0 : decode jdk_68_method_6_code 0 = .ok (.aload_n 0, 1) := by decide +kernel
theorem d25_1 : decode jdk_68_method_6_code 1 = .ok (.getfield 79, 3) := by decide +kernel
theorem d25_4 : decode jdk_68_method_6_code 4 = .ok (.ireturn, 1) := by decide +kernel
set_option maxRecDepth 65536 in
set_option maxHeartbeats 40000000 in
theorem rmL1 (l : Launch) (Z : State) (a0 : Array Value) (hw : ∀ d ∈ tables_1, d.before a0 Z = true) (ws : List Jvm.Cond) (sb : Addr) (cn : Int32) (h0 : Heap) (n0 : Nat) (O0 : Old Z n0 h0) (E_sb : Exa Z h0 sb "java/lang/StringBuilder") (F_n : Fld Z h0 sb "java/lang/AbstractStringBuilder" "count" "I" (.int cn)) :
    MetFree l (⟨"java/lang/AbstractStringBuilder", "length", "()I"⟩ : MethodName) (head1 (Jvm.Cond.code (⟨"java/lang/AbstractStringBuilder", "length", "()I"⟩ : MethodName) jdk_68_method_6_code 1 (some .int) :: ws) ({ frames := 0, cells := 0, slots := 0, locals := 0 } : Room)) (fun a_ U => a_ = #[(.ref sb)] ∧ Z.Warmed39 U.vm ∧ U.heap = h0) (fun _ _ _ _ _ => True) (fun _ U o U' => ∃ v L, o = .returned v ∧ QP (.int cn) h0 n0 v U'.heap L ∧ FrameEnd U o U' L ({ frames := 0, cells := 0, slots := 0, locals := 0 } : Room).cells ({ frames := 0, cells := 0, slots := 0, locals := 0 } : Room).slots) := by
  refine MetFree.of_bodySF (plainFor_of_name pn_1) hisR ?_
  intro p e s m args below meth c s₁ Bd hml0 hP hK
  obtain ⟨rfl, hZ, hh⟩ := hP
  have hx := Bd.exec
  have hby := Bd.bytes
  have hml : c.maxLocals = 1 := hml0
  have hown : s.vm.findClass "java/lang/AbstractStringBuilder" = some m.cls := findClass_of_methodNamed Bd.named
  have hnm := (name_of_methodNamed Bd.named Bd.method).1
  have X0 : Stand p l e ({ frames := 0, cells := 0, slots := 0, locals := 0 } : Room) s m #[(.ref sb)] below meth c s₁ [] 0 0 := Stand.of_body Bd
  have e0 : s₁.heap = h0 := by rw [← hh, Bd.state]; rfl
  have N0 := Fr.nil n0
  have pre0 : ∀ tg, Steps p.tables e below (s₁.setTop (mkF m 0 #[.val (.ref sb)] [])) tg → Steps p.tables e below (s₁.setTop (entryFrame m #[(.ref sb)] 1)) tg := fun tg kq => castTop (ef_R_1 m sb) kq
  obtain ⟨T101, X101, e101, st101⟩ := getF X0 hx hZ hown (host := "") (Or.inl (wi hw 85 rfl)) Via.refl e0 F_n (g := (mkF m 1 #[.val (.ref sb)] [(.ref sb)])) rfl rfl (hb hby d25_1)
  obtain ⟨fs, hr, hrun, hended, hW, hsame⟩ := X101.leave (v := some (.int cn)) (fun h => by rw [Bd.returns] at h; cases h)
  refine ⟨_, _, pre0 _ ?_, hrun, hended, _, _, rfl, ?_, ⟨_, rfl⟩, hW, hsame.mono (by decide) (by decide)⟩
  · show Steps p.tables e below (s₁.setTop (mkF m 0 #[.val (.ref sb)] [])) _
    refine XS.aloadN X0.here hx rfl (hb hby d25_0) rfl rfl ?_
    show Steps p.tables e below (s₁.setTop (mkF m 1 #[.val (.ref sb)] [(.ref sb)])) _
    refine st101 _ ?_
    show Steps p.tables e below (T101.setTop (mkF m 4 #[.val (.ref sb)] [(.int cn)])) _
    exact retI X101 hx Bd.returns (hb hby d25_4) hr
  · show QP (.int cn) h0 n0 _ T101.heap _
    rw [e101]
    exact ⟨rfl, N0, rfl⟩
theorem d24_0 : decode jdk_67_method_93_code 0 = .ok (.aload_n 0, 1) := by decide +kernel
theorem d24_1 : decode jdk_67_method_93_code 1 = .ok (.invokespecial 343, 3) := by decide +kernel
theorem d24_4 : decode jdk_67_method_93_code 4 = .ok (.ireturn, 1) := by decide +kernel
set_option maxRecDepth 65536 in
set_option maxHeartbeats 40000000 in
theorem rmL0 (l : Launch) (Z : State) (a0 : Array Value) (hw : ∀ d ∈ tables_1, d.before a0 Z = true) (ws : List Jvm.Cond) (sb : Addr) (cn : Int32) (h0 : Heap) (n0 : Nat) (O0 : Old Z n0 h0) (E_sb : Exa Z h0 sb "java/lang/StringBuilder") (F_n : Fld Z h0 sb "java/lang/AbstractStringBuilder" "count" "I" (.int cn)) :
    MetFree l (⟨"java/lang/StringBuilder", "length", "()I"⟩ : MethodName) (head1 (Jvm.Cond.code (⟨"java/lang/StringBuilder", "length", "()I"⟩ : MethodName) jdk_67_method_93_code 1 (some .int) :: ws) ({ frames := 1, cells := 0, slots := 0, locals := 12 } : Room)) (fun a_ U => a_ = #[(.ref sb)] ∧ Z.Warmed39 U.vm ∧ U.heap = h0) (fun _ _ _ _ _ => True) (fun _ U o U' => ∃ v L, o = .returned v ∧ QP (.int cn) h0 n0 v U'.heap L ∧ FrameEnd U o U' L ({ frames := 1, cells := 0, slots := 0, locals := 12 } : Room).cells ({ frames := 1, cells := 0, slots := 0, locals := 12 } : Room).slots) := by
  refine MetFree.of_bodySF (plainFor_of_name pn_2) hisR ?_
  intro p e s m args below meth c s₁ Bd hml0 hP hK
  obtain ⟨rfl, hZ, hh⟩ := hP
  have hx := Bd.exec
  have hby := Bd.bytes
  have hml : c.maxLocals = 1 := hml0
  have hown : s.vm.findClass "java/lang/StringBuilder" = some m.cls := findClass_of_methodNamed Bd.named
  have hnm := (name_of_methodNamed Bd.named Bd.method).1
  have X0 : Stand p l e ({ frames := 1, cells := 0, slots := 0, locals := 12 } : Room) s m #[(.ref sb)] below meth c s₁ [] 0 0 := Stand.of_body Bd
  have e0 : s₁.heap = h0 := by rw [← hh, Bd.state]; rfl
  have N0 := Fr.nil n0
  have pre0 : ∀ tg, Steps p.tables e below (s₁.setTop (mkF m 0 #[.val (.ref sb)] [])) tg → Steps p.tables e below (s₁.setTop (entryFrame m #[(.ref sb)] 1)) tg := fun tg kq => castTop (ef_R_1 m sb) kq
  obtain ⟨_, _, ⟨T101, L101, k101, n101⟩, -, X101, ⟨Lc101, hQ101, l101, y101, z101⟩, st101⟩ := superBack X0 hx hZ (y := (⟨"java/lang/AbstractStringBuilder", "length", "()I"⟩ : MethodName)) hown (wi hw 137 rfl) (own_same (z := ({ cls := "java/lang/AbstractStringBuilder", name := "ensureCapacityInternal", desc := "(I)V" } : Jvm.MethodName)) (wi hw 133 rfl) (by decide) rfl (wi hw 88 rfl) (notFace_of_selects (wi hw 90 rfl))) (wi hw 133 rfl) (wi hw 72 rfl) (by decide) (backOf (W := 0) (rmL1 l Z a0 hw [] sb cn h0 n0 O0 E_sb F_n) hZ (wi hw 138 rfl) (wi hw 51 rfl) (by decide) (by decide)) e0 (Ins.self E_sb) (g := (mkF m 1 #[.val (.ref sb)] [(.ref sb)])) rfl (by rw [hml]; rfl) (wi hw 138 rfl) (argsL := []) (rest := []) (lenOf pd_3 rfl) rfl (by show 2 * 0 + _ ≤ _; exact Nat.le_of_eq rfl) (hb hby d24_1) (fun _ _ => ⟨rfl, e0, (by decide : 0 + 0 ≤ _), (by decide : 0 + 0 ≤ _)⟩)
  dsimp only [Pt.U, Pt.locs, Pt.cells, Pt.slots] at X101 l101 y101 z101 st101 hQ101
  subst l101 y101 z101
  obtain ⟨rfl, N101q, hh101⟩ := hQ101
  have e101 : T101.heap = h0 := hh101
  have N101 := Fr.app N0 N101q
  obtain ⟨fs, hr, hrun, hended, hW, hsame⟩ := X101.leave (v := some (.int cn)) (fun h => by rw [Bd.returns] at h; cases h)
  refine ⟨_, _, pre0 _ ?_, hrun, hended, _, _, rfl, ?_, ⟨_, rfl⟩, hW, hsame.mono (by decide) (by decide)⟩
  · show Steps p.tables e below (s₁.setTop (mkF m 0 #[.val (.ref sb)] [])) _
    refine XS.aloadN X0.here hx rfl (hb hby d24_0) rfl rfl ?_
    show Steps p.tables e below (s₁.setTop (mkF m 1 #[.val (.ref sb)] [(.ref sb)])) _
    refine st101.trans ?_
    show Steps p.tables e below (T101.setTop (mkF m 4 #[.val (.ref sb)] [(.int cn)])) _
    exact retI X101 hx Bd.returns (hb hby d24_4) hr
  · show QP (.int cn) h0 n0 _ T101.heap _
    rw [e101]
    exact ⟨rfl, N101, rfl⟩
theorem d26_0 : decode jdk_68_method_68_code 0 = .ok (.getstatic 18, 3) := by decide +kernel
theorem d26_3 : decode jdk_68_method_68_code 3 = .ok (.ifCond .eq 14, 3) := by decide +kernel
theorem d26_6 : decode jdk_68_method_68_code 6 = .ok (.aload_n 0, 1) := by decide +kernel
theorem d26_7 : decode jdk_68_method_68_code 7 = .ok (.getfield 22, 3) := by decide +kernel
theorem d26_10 : decode jdk_68_method_68_code 10 = .ok (.ifCond .ne 7, 3) := by decide +kernel
theorem d26_13 : decode jdk_68_method_68_code 13 = .ok (.iconst 1, 1) := by decide +kernel
theorem d26_14 : decode jdk_68_method_68_code 14 = .ok (.goto 4, 3) := by decide +kernel
theorem d26_18 : decode jdk_68_method_68_code 18 = .ok (.ireturn, 1) := by decide +kernel
set_option maxRecDepth 65536 in
set_option maxHeartbeats 40000000 in
theorem rmLt (l : Launch) (Z : State) (a0 : Array Value) (hw : ∀ d ∈ tables_1, d.before a0 Z = true) (ws : List Jvm.Cond) (sb : Addr) (G1 : Int32) (h0 : Heap) (n0 : Nat) (O0 : Old Z n0 h0) (S_CS : Sta Z Z.heap "java/lang/String" "COMPACT_STRINGS" "Z" (.int G1)) (hG1 : ¬ (G1 = (0 : Int32))) (E_sb : Exa Z h0 sb "java/lang/StringBuilder") (F_c : Fld Z h0 sb "java/lang/AbstractStringBuilder" "coder" "B" (.int (0 : Int32))) :
    MetFree l (⟨"java/lang/AbstractStringBuilder", "isLatin1", "()Z"⟩ : MethodName) (head1 (Jvm.Cond.code (⟨"java/lang/AbstractStringBuilder", "isLatin1", "()Z"⟩ : MethodName) jdk_68_method_68_code 1 (some .boolean) :: ws) ({ frames := 0, cells := 0, slots := 0, locals := 0 } : Room)) (fun a_ U => a_ = #[(.ref sb)] ∧ Z.Warmed39 U.vm ∧ U.heap = h0) (fun _ _ _ _ _ => True) (fun _ U o U' => ∃ v L, o = .returned v ∧ QP (.int (1 : Int32)) h0 n0 v U'.heap L ∧ FrameEnd U o U' L ({ frames := 0, cells := 0, slots := 0, locals := 0 } : Room).cells ({ frames := 0, cells := 0, slots := 0, locals := 0 } : Room).slots) := by
  refine MetFree.of_bodySF (plainFor_of_name pn_1) hisR ?_
  intro p e s m args below meth c s₁ Bd hml0 hP hK
  obtain ⟨rfl, hZ, hh⟩ := hP
  have hx := Bd.exec
  have hby := Bd.bytes
  have hml : c.maxLocals = 1 := hml0
  have hown : s.vm.findClass "java/lang/AbstractStringBuilder" = some m.cls := findClass_of_methodNamed Bd.named
  have hnm := (name_of_methodNamed Bd.named Bd.method).1
  have X0 : Stand p l e ({ frames := 0, cells := 0, slots := 0, locals := 0 } : Room) s m #[(.ref sb)] below meth c s₁ [] 0 0 := Stand.of_body Bd
  have e0 : s₁.heap = h0 := by rw [← hh, Bd.state]; rfl
  have N0 := Fr.nil n0
  have pre0 : ∀ tg, Steps p.tables e below (s₁.setTop (mkF m 0 #[.val (.ref sb)] [])) tg → Steps p.tables e below (s₁.setTop (entryFrame m #[(.ref sb)] 1)) tg := fun tg kq => castTop (ef_R_1 m sb) kq
  obtain ⟨T101, X101, e101, st101⟩ := getS2 X0 hx hZ hown (host := "") (Or.inl (wi hw 54 rfl)) Via.refl e0 (S_CS.ext O0.2) (g := (mkF m 0 #[.val (.ref sb)] [])) rfl (hb hby d26_0)
  obtain ⟨T102, X102, e102, st102⟩ := getF X101 hx hZ hown (host := "") (Or.inl (wi hw 57 rfl)) Via.refl e101 F_c (g := (mkF m 7 #[.val (.ref sb)] [(.ref sb)])) rfl rfl (hb hby d26_7)
  obtain ⟨fs, hr, hrun, hended, hW, hsame⟩ := X102.leave (v := some (.int (1 : Int32))) (fun h => by rw [Bd.returns] at h; cases h)
  refine ⟨_, _, pre0 _ ?_, hrun, hended, _, _, rfl, ?_, ⟨_, rfl⟩, hW, hsame.mono (by decide) (by decide)⟩
  · show Steps p.tables e below (s₁.setTop (mkF m 0 #[.val (.ref sb)] [])) _
    refine st101 _ ?_
    show Steps p.tables e below (T101.setTop (mkF m 3 #[.val (.ref sb)] [(.int G1)])) _
    refine XS.ifNo X101.here hx rfl (hb hby d26_3) rfl ((if0 _ _).trans (feq hG1).1) ?_
    show Steps p.tables e below (T101.setTop (mkF m 6 #[.val (.ref sb)] [])) _
    refine XS.aloadN X101.here hx rfl (hb hby d26_6) rfl rfl ?_
    show Steps p.tables e below (T101.setTop (mkF m 7 #[.val (.ref sb)] [(.ref sb)])) _
    refine st102 _ ?_
    show Steps p.tables e below (T102.setTop (mkF m 10 #[.val (.ref sb)] [(.int (0 : Int32))])) _
    refine XS.ifNo X102.here hx rfl (hb hby d26_10) rfl ((if0 _ _).trans (teq (by decide : (0 : Int32) = (0 : Int32))).2) ?_
    show Steps p.tables e below (T102.setTop (mkF m 13 #[.val (.ref sb)] [])) _
    refine XS.iconst X102.here hx rfl (hb hby d26_13) ?_
    show Steps p.tables e below (T102.setTop (mkF m 14 #[.val (.ref sb)] [(.int (1 : Int32))])) _
    refine XS.goto X102.here hx rfl (pc0 := 14) (pc' := 18) rfl (hb hby d26_14) (by decide) (by decide) ?_
    show Steps p.tables e below (T102.setTop (mkF m 18 #[.val (.ref sb)] [(.int (1 : Int32))])) _
    exact retN X102 hx (t := .boolean) Bd.returns (by simp) (hb hby d26_18) hr
  · show QP (.int (1 : Int32)) h0 n0 _ T102.heap _
    rw [e102]
    exact ⟨rfl, N0, rfl⟩
theorem d29_0 : decode jdk_65_method_131_code 0 = .ok (.iload_n 1, 1) := by decide +kernel
theorem d29_1 : decode jdk_65_method_131_code 1 = .ok (.iload_n 0, 1) := by decide +kernel
theorem d29_2 : decode jdk_65_method_131_code 2 = .ok (.if_icmp .ge 35, 3) := by decide +kernel
theorem d29_37 : decode jdk_65_method_131_code 37 = .ok (.return_, 1) := by decide +kernel
theorem ef_II_2 (m : MethodId) (x0 : Int32) (x1 : Int32) : entryFrame m #[(.int x0), (.int x1)] 2 = mkF m 0 #[.val (.int x0), .val (.int x1)] [] := by first | (simp [entryFrame, mkF, argsToLocals, Value.category]; done) | rfl
theorem pn_4 : plainName "java/util/Arrays" = true := by first | (simp [plainName, overriddenIn]; done) | decide +kernel
set_option maxRecDepth 65536 in
set_option maxHeartbeats 40000000 in
theorem rmCL (l : Launch) (Z : State) (a0 : Array Value) (hw : ∀ d ∈ tables_1, d.before a0 Z = true) (ws : List Jvm.Cond) (k : Int32) (h0 : Heap) (n0 : Nat) (O0 : Old Z n0 h0) (hk : ¬ (k < (0 : Int32))) :
    MetFree l (⟨"java/util/Arrays", "checkLength", "(II)V"⟩ : MethodName) (head1 (Jvm.Cond.code (⟨"java/util/Arrays", "checkLength", "(II)V"⟩ : MethodName) jdk_65_method_131_code 2 none :: ws) ({ frames := 0, cells := 0, slots := 0, locals := 0 } : Room)) (fun a_ U => a_ = #[(.int (0 : Int32)), (.int k)] ∧ Z.Warmed39 U.vm ∧ U.heap = h0) (fun _ _ _ _ _ => True) (fun _ U o U' => ∃ v L, o = .returned v ∧ QV0 h0 n0 v U'.heap L ∧ FrameEnd U o U' L ({ frames := 0, cells := 0, slots := 0, locals := 0 } : Room).cells ({ frames := 0, cells := 0, slots := 0, locals := 0 } : Room).slots) := by
  refine MetFree.of_bodySF (plainFor_of_name pn_4) hisR ?_
  intro p e s m args below meth c s₁ Bd hml0 hP hK
  obtain ⟨rfl, hZ, hh⟩ := hP
  have hx := Bd.exec
  have hby := Bd.bytes
  have hml : c.maxLocals = 2 := hml0
  have hown : s.vm.findClass "java/util/Arrays" = some m.cls := findClass_of_methodNamed Bd.named
  have hnm := (name_of_methodNamed Bd.named Bd.method).1
  have X0 : Stand p l e ({ frames := 0, cells := 0, slots := 0, locals := 0 } : Room) s m #[(.int (0 : Int32)), (.int k)] below meth c s₁ [] 0 0 := Stand.of_body Bd
  have e0 : s₁.heap = h0 := by rw [← hh, Bd.state]; rfl
  have N0 := Fr.nil n0
  have pre0 : ∀ tg, Steps p.tables e below (s₁.setTop (mkF m 0 #[.val (.int (0 : Int32)), .val (.int k)] [])) tg → Steps p.tables e below (s₁.setTop (entryFrame m #[(.int (0 : Int32)), (.int k)] 2)) tg := fun tg kq => castTop (ef_II_2 m (0 : Int32) k) kq
  obtain ⟨fs, hr, hrun, hended, hW, hsame⟩ := X0.leave (v := none) (fun _ => rfl)
  refine ⟨_, _, pre0 _ ?_, hrun, hended, _, _, rfl, ?_, ⟨_, rfl⟩, hW, hsame.mono (by decide) (by decide)⟩
  · show Steps p.tables e below (s₁.setTop (mkF m 0 #[.val (.int (0 : Int32)), .val (.int k)] [])) _
    refine XS.iloadN X0.here hx rfl (hb hby d29_0) rfl ?_
    show Steps p.tables e below (s₁.setTop (mkF m 1 #[.val (.int (0 : Int32)), .val (.int k)] [(.int k)])) _
    refine XS.iloadN X0.here hx rfl (hb hby d29_1) rfl ?_
    show Steps p.tables e below (s₁.setTop (mkF m 2 #[.val (.int (0 : Int32)), .val (.int k)] [(.int (0 : Int32)), (.int k)])) _
    refine XS.icmpYes X0.here hx rfl (pc0 := 2) (pc' := 37) rfl (hb hby d29_2) rfl (flt hk).2.1 (by decide) (by decide) ?_
    show Steps p.tables e below (s₁.setTop (mkF m 37 #[.val (.int (0 : Int32)), .val (.int k)] [])) _
    exact X0.returnOut hx Bd.returns (hb hby d29_37) hr
  · show QV0 h0 n0 _ s₁.heap _
    rw [e0]
    exact ⟨rfl, N0, rfl⟩
theorem d30_0 : decode jdk_29_method_69_code 0 = .ok (.iload_n 0, 1) := by decide +kernel
theorem d30_1 : decode jdk_29_method_69_code 1 = .ok (.iload_n 1, 1) := by decide +kernel
theorem d30_2 : decode jdk_29_method_69_code 2 = .ok (.if_icmp .gt 7, 3) := by decide +kernel
theorem d30_9 : decode jdk_29_method_69_code 9 = .ok (.iload_n 1, 1) := by decide +kernel
theorem d30_10 : decode jdk_29_method_69_code 10 = .ok (.ireturn, 1) := by decide +kernel
set_option maxRecDepth 65536 in
set_option maxHeartbeats 40000000 in
theorem rmMn (l : Launch) (Z : State) (a0 : Array Value) (hw : ∀ d ∈ tables_1, d.before a0 Z = true) (ws : List Jvm.Cond) (k : Int32) (h0 : Heap) (n0 : Nat) (O0 : Old Z n0 h0) (hk : k < (16 : Int32)) :
    MetFree l (⟨"java/lang/Math", "min", "(II)I"⟩ : MethodName) (head1 (Jvm.Cond.code (⟨"java/lang/Math", "min", "(II)I"⟩ : MethodName) jdk_29_method_69_code 2 (some .int) :: ws) ({ frames := 0, cells := 0, slots := 0, locals := 0 } : Room)) (fun a_ U => a_ = #[(.int (16 : Int32)), (.int k)] ∧ Z.Warmed39 U.vm ∧ U.heap = h0) (fun _ _ _ _ _ => True) (fun _ U o U' => ∃ v L, o = .returned v ∧ QP (.int k) h0 n0 v U'.heap L ∧ FrameEnd U o U' L ({ frames := 0, cells := 0, slots := 0, locals := 0 } : Room).cells ({ frames := 0, cells := 0, slots := 0, locals := 0 } : Room).slots) := by
  refine MetFree.of_bodySF (Jvm.Free.JP.mathPlain rfl (by decide +kernel)) hisR ?_
  intro p e s m args below meth c s₁ Bd hml0 hP hK
  obtain ⟨rfl, hZ, hh⟩ := hP
  have hx := Bd.exec
  have hby := Bd.bytes
  have hml : c.maxLocals = 2 := hml0
  have hown : s.vm.findClass "java/lang/Math" = some m.cls := findClass_of_methodNamed Bd.named
  have hnm := (name_of_methodNamed Bd.named Bd.method).1
  have X0 : Stand p l e ({ frames := 0, cells := 0, slots := 0, locals := 0 } : Room) s m #[(.int (16 : Int32)), (.int k)] below meth c s₁ [] 0 0 := Stand.of_body Bd
  have e0 : s₁.heap = h0 := by rw [← hh, Bd.state]; rfl
  have N0 := Fr.nil n0
  have pre0 : ∀ tg, Steps p.tables e below (s₁.setTop (mkF m 0 #[.val (.int (16 : Int32)), .val (.int k)] [])) tg → Steps p.tables e below (s₁.setTop (entryFrame m #[(.int (16 : Int32)), (.int k)] 2)) tg := fun tg kq => castTop (ef_II_2 m (16 : Int32) k) kq
  obtain ⟨fs, hr, hrun, hended, hW, hsame⟩ := X0.leave (v := some (.int k)) (fun h => by rw [Bd.returns] at h; cases h)
  refine ⟨_, _, pre0 _ ?_, hrun, hended, _, _, rfl, ?_, ⟨_, rfl⟩, hW, hsame.mono (by decide) (by decide)⟩
  · show Steps p.tables e below (s₁.setTop (mkF m 0 #[.val (.int (16 : Int32)), .val (.int k)] [])) _
    refine XS.iloadN X0.here hx rfl (hb hby d30_0) rfl ?_
    show Steps p.tables e below (s₁.setTop (mkF m 1 #[.val (.int (16 : Int32)), .val (.int k)] [(.int (16 : Int32))])) _
    refine XS.iloadN X0.here hx rfl (hb hby d30_1) rfl ?_
    show Steps p.tables e below (s₁.setTop (mkF m 2 #[.val (.int (16 : Int32)), .val (.int k)] [(.int k), (.int (16 : Int32))])) _
    refine XS.icmpYes X0.here hx rfl (pc0 := 2) (pc' := 9) rfl (hb hby d30_2) rfl (tlt hk).2.2.1 (by decide) (by decide) ?_
    show Steps p.tables e below (s₁.setTop (mkF m 9 #[.val (.int (16 : Int32)), .val (.int k)] [])) _
    refine XS.iloadN X0.here hx rfl (hb hby d30_9) rfl ?_
    show Steps p.tables e below (s₁.setTop (mkF m 10 #[.val (.int (16 : Int32)), .val (.int k)] [(.int k)])) _
    exact retI X0 hx Bd.returns (hb hby d30_10) hr
  · show QP (.int k) h0 n0 _ s₁.heap _
    rw [e0]
    exact ⟨rfl, N0, rfl⟩
def QC (Z : State) (k : Int32) (us : List Value) (h0 : Heap) (n0 : Nat) (v : Option Value) (h : Heap) (L : List Loc) : Prop := ∃ (b : Addr) (kc : ClassId), v = some (.ref b) ∧ Fr n0 L ∧ Keep h0 h [] ∧ h0.size ≤ b ∧ Arv Z h b kc .byte k us (.int (0 : Int32))
theorem d28_0 : decode jdk_65_method_133_code 0 = .ok (.iload_n 1, 1) := by decide +kernel
theorem d28_1 : decode jdk_65_method_133_code 1 = .ok (.iload_n 2, 1) := by decide +kernel
theorem d28_2 : decode jdk_65_method_133_code 2 = .ok (.invokestatic 343, 3) := by decide +kernel
theorem pd_7 : parseMethodDescriptor "(II)V" = some ⟨[.int, .int], none⟩ := by decide +kernel
theorem d28_5 : decode jdk_65_method_133_code 5 = .ok (.iload_n 2, 1) := by decide +kernel
theorem d28_6 : decode jdk_65_method_133_code 6 = .ok (.iload_n 1, 1) := by decide +kernel
theorem d28_7 : decode jdk_65_method_133_code 7 = .ok (.isub, 1) := by decide +kernel
theorem d28_8 : decode jdk_65_method_133_code 8 = .ok (.istore_n 3, 1) := by decide +kernel
theorem d28_9 : decode jdk_65_method_133_code 9 = .ok (.iload_n 3, 1) := by decide +kernel
theorem d28_10 : decode jdk_65_method_133_code 10 = .ok (.newarray .byte, 2) := by decide +kernel
theorem d28_12 : decode jdk_65_method_133_code 12 = .ok (.astore 4, 2) := by decide +kernel
theorem d28_14 : decode jdk_65_method_133_code 14 = .ok (.aload_n 0, 1) := by decide +kernel
theorem d28_15 : decode jdk_65_method_133_code 15 = .ok (.iload_n 1, 1) := by decide +kernel
theorem d28_16 : decode jdk_65_method_133_code 16 = .ok (.aload 4, 2) := by decide +kernel
theorem d28_18 : decode jdk_65_method_133_code 18 = .ok (.iconst 0, 1) := by decide +kernel
theorem d28_19 : decode jdk_65_method_133_code 19 = .ok (.aload_n 0, 1) := by decide +kernel
theorem d28_20 : decode jdk_65_method_133_code 20 = .ok (.arraylength, 1) := by decide +kernel
theorem d28_21 : decode jdk_65_method_133_code 21 = .ok (.iload_n 1, 1) := by decide +kernel
theorem d28_22 : decode jdk_65_method_133_code 22 = .ok (.isub, 1) := by decide +kernel
theorem d28_23 : decode jdk_65_method_133_code 23 = .ok (.iload_n 3, 1) := by decide +kernel
theorem d28_24 : decode jdk_65_method_133_code 24 = .ok (.invokestatic 304, 3) := by decide +kernel
theorem pd_8 : parseMethodDescriptor "(II)I" = some ⟨[.int, .int], some .int⟩ := by decide +kernel
theorem d28_27 : decode jdk_65_method_133_code 27 = .ok (.invokestatic 150, 3) := by decide +kernel
theorem d28_30 : decode jdk_65_method_133_code 30 = .ok (.aload 4, 2) := by decide +kernel
theorem d28_32 : decode jdk_65_method_133_code 32 = .ok (.areturn, 1) := by decide +kernel
theorem ef_RII_5 (m : MethodId) (x0 : Addr) (x1 : Int32) (x2 : Int32) : entryFrame m #[(.ref x0), (.int x1), (.int x2)] 5 = mkF m 0 #[.val (.ref x0), .val (.int x1), .val (.int x2), .unset, .unset] [] := by first | (simp [entryFrame, mkF, argsToLocals, Value.category]; done) | rfl
set_option maxRecDepth 65536 in
set_option maxHeartbeats 40000000 in
theorem rmCB (l : Launch) (Z : State) (a0 : Array Value) (hw : ∀ d ∈ tables_1, d.before a0 Z = true) (ws : List Jvm.Cond) (va : Addr) (kv : ClassId) (k : Int32) (m_ : Nat) (vd us : List Value) (h0 : Heap) (n0 : Nat) (O0 : Old Z n0 h0) (K_v : Arv Z h0 va kv .byte (16 : Int32) vd (.int (0 : Int32))) (hcr : CrOK k m_ vd us) :
    MetFree l (⟨"java/util/Arrays", "copyOfRangeByte", "([BII)[B"⟩ : MethodName) (head1 (Jvm.Cond.code (⟨"java/util/Arrays", "copyOfRangeByte", "([BII)[B"⟩ : MethodName) jdk_65_method_133_code 5 (some (.array .byte)) :: ws) ({ frames := 1, cells := 1, slots := 16, locals := 40 } : Room)) (fun a_ U => a_ = #[(.ref va), (.int (0 : Int32)), (.int k)] ∧ Z.Warmed39 U.vm ∧ U.heap = h0) (fun _ _ _ _ _ => True) (fun _ U o U' => ∃ v L, o = .returned v ∧ QC Z k us h0 n0 v U'.heap L ∧ FrameEnd U o U' L ({ frames := 1, cells := 1, slots := 16, locals := 40 } : Room).cells ({ frames := 1, cells := 1, slots := 16, locals := 40 } : Room).slots) := by
  refine MetFree.of_bodySF (plainFor_of_name pn_4) hisR ?_
  intro p e s m args below meth c s₁ Bd hml0 hP hK
  obtain ⟨rfl, hZ, hh⟩ := hP
  have hx := Bd.exec
  have hby := Bd.bytes
  have hml : c.maxLocals = 5 := hml0
  have hown : s.vm.findClass "java/util/Arrays" = some m.cls := findClass_of_methodNamed Bd.named
  have hnm := (name_of_methodNamed Bd.named Bd.method).1
  have X0 : Stand p l e ({ frames := 1, cells := 1, slots := 16, locals := 40 } : Room) s m #[(.ref va), (.int (0 : Int32)), (.int k)] below meth c s₁ [] 0 0 := Stand.of_body Bd
  have e0 : s₁.heap = h0 := by rw [← hh, Bd.state]; rfl
  have N0 := Fr.nil n0
  have pre0 : ∀ tg, Steps p.tables e below (s₁.setTop (mkF m 0 #[.val (.ref va), .val (.int (0 : Int32)), .val (.int k), .unset, .unset] [])) tg → Steps p.tables e below (s₁.setTop (entryFrame m #[(.ref va), (.int (0 : Int32)), (.int k)] 5)) tg := fun tg kq => castTop (ef_RII_5 m va (0 : Int32) k) kq
  obtain ⟨q1, q2, q3, q4, q5, q6⟩ := id hcr
  obtain ⟨_, _, ⟨T101, L101, k101, n101⟩, -, X101, ⟨Lc101, hQ101, l101, y101, z101⟩, st101⟩ := Jvm.LawKit.callS X0 hx (y := (⟨"java/util/Arrays", "checkLength", "(II)V"⟩ : MethodName)) hown (mvT hZ (wi hw 151 rfl)) (mvT hZ (wi hw 152 rfl)) (mvT hZ (wi hw 146 rfl)) (mvT hZ (wi hw 153 rfl)) (by decide) (backOf (W := 0) (rmCL l Z a0 hw [] k h0 n0 O0 q1) hZ (wi hw 153 rfl) (wi hw 146 rfl) (by decide) (by decide)) (g := (mkF m 2 #[.val (.ref va), .val (.int (0 : Int32)), .val (.int k), .unset, .unset] [(.int k), (.int (0 : Int32))])) rfl (by rw [hml]; rfl) (argsL := [(.int (0 : Int32)), (.int k)]) (rest := []) (lenOf pd_7 rfl) rfl (by show 2 * 0 + _ ≤ _; exact Nat.le_of_eq rfl) (hb hby d28_2) (fun _ _ => ⟨rfl, e0, (by decide : 0 + 0 ≤ _), (by decide : 0 + 0 ≤ _)⟩)
  dsimp only [Pt.U, Pt.locs, Pt.cells, Pt.slots] at X101 l101 y101 z101 st101 hQ101
  subst l101 y101 z101
  obtain ⟨rfl, N101q, hh101⟩ := hQ101
  have e101 : T101.heap = h0 := hh101
  have N101 := Fr.app N0 N101q
  obtain ⟨T102, h102, k102, X102, e102, E102, A102, st102⟩ := newP X101 hx hZ (wi hw 23 rfl) e101 (g := (mkF m 10 #[.val (.ref va), .val (.int (0 : Int32)), .val (.int k), .val (.int k), .unset] [(.int k)])) rfl (hb hby d28_10) rfl q1 (cap := 16) (by rw [q4]; exact q5) (by decide) (by decide) (by decide)
  obtain ⟨b102, g102⟩ : ∃ z, z = h0.size := ⟨_, rfl⟩
  rw [← g102] at A102 st102
  have g_b102 : n0 ≤ b102 := Nat.le_trans (O0.1 ▸ O0.2.1) (Nat.le_of_eq g102.symm)
  have sz_b102 : h0.size ≤ b102 := Nat.le_trans (Nat.le_refl _) (Nat.le_of_eq g102.symm)
  have O102 := O0.ext E102
  have KK102 : Keep h0 h102 [] := (Keep.refl h0 []).ext E102
  have V_b102 : Arv Z h102 b102 k102 .byte k (List.replicate m_ (.int (0 : Int32))) (.int (0 : Int32)) := (Arv.new A102 q1).pad (pad_rep [] (.int (0 : Int32)) m_)
  have fV_va_1_103 := (K_v.ext E102)
  obtain ⟨cl_va_32, Ar_va_32, -, S_va_32, N_va_32, -, -⟩ := id (fV_va_1_103)
  obtain ⟨_, _, ⟨T104, L104, k104, n104⟩, -, X104, ⟨Lc104, hQ104, l104, y104, z104⟩, st104⟩ := Jvm.LawKit.callS X102 hx (y := (⟨"java/lang/Math", "min", "(II)I"⟩ : MethodName)) hown (mvT hZ (wi hw 154 rfl)) (mvT hZ (wi hw 155 rfl)) (mvT hZ (wi hw 156 rfl)) (mvT hZ (wi hw 157 rfl)) (by decide) (backOf (W := 4) (rmMn l Z a0 hw [] k h102 n0 O102 q2) hZ (wi hw 157 rfl) (wi hw 156 rfl) (by decide) (by decide)) (g := (mkF m 24 #[.val (.ref va), .val (.int (0 : Int32)), .val (.int k), .val (.int k), .val (.ref b102)] [(.int k), (.int (16 : Int32)), (.int (0 : Int32)), (.ref b102), (.int (0 : Int32)), (.ref va)])) rfl (by rw [hml]; rfl) (argsL := [(.int (16 : Int32)), (.int k)]) (rest := [(.int (0 : Int32)), (.ref b102), (.int (0 : Int32)), (.ref va)]) (lenOf pd_8 rfl) rfl (by show 2 * 0 + _ ≤ _; exact Nat.le_of_eq rfl) (hb hby d28_24) (fun _ _ => ⟨rfl, e102, (by decide : 1 + 0 ≤ _), (by decide : 16 + 0 ≤ _)⟩)
  dsimp only [Pt.U, Pt.locs, Pt.cells, Pt.slots] at X104 l104 y104 z104 st104 hQ104
  subst l104 y104 z104
  obtain ⟨rfl, N104q, hh104⟩ := hQ104
  have e104 : T104.heap = h102 := hh104
  have N104 := Fr.app N101 N104q
  obtain ⟨T105, h105, L105, X105, e105, Nc105, K105, Ac105, st105⟩ := cpA X104 hx hZ hown (wi hw 158 rfl) (wi hw 111 rfl) (wi hw 109 rfl) (wi hw 110 rfl) e104 fV_va_1_103 V_b102 (us := us) (Or.inl ⟨rfl, rfl⟩) (by decide) (by decide) q1 (by rw [own_z0, own_z16, Nat.zero_add, q4]; exact q5) (by rw [own_z0, Nat.zero_add]; exact Nat.le_refl _) (own_hus q4 q6) (by rw [own_z0, Nat.zero_add, q4, List.length_replicate]; exact Nat.le_refl _) N104 g_b102 (g := (mkF m 27 #[.val (.ref va), .val (.int (0 : Int32)), .val (.int k), .val (.int k), .val (.ref b102)] [(.int k), (.int (0 : Int32)), (.ref b102), (.int (0 : Int32)), (.ref va)])) rfl (by rw [hml]; rfl) rfl (hb hby d28_27) (by decide) (W := 0) (by show 2 * 0 + _ ≤ _; exact Nat.le_of_eq rfl) (by decide)
  rw [own_z0, q4, own_rep] at Ac105
  have Vc105 : Arv Z h105 b102 k102 .byte k us (.int (0 : Int32)) := Ac105
  have O105 := O102.keep K105 (allS g_b102 all0)
  have KK105 : Keep h0 h105 [] := KK102.trans K105 (allS (Or.inr sz_b102) all0)
  obtain ⟨fs, hr, hrun, hended, hW, hsame⟩ := X105.leave (v := some (.ref b102)) (fun h => by rw [Bd.returns] at h; cases h)
  refine ⟨_, _, pre0 _ ?_, hrun, hended, _, _, rfl, ?_, ⟨_, rfl⟩, hW, hsame.mono (by decide) (by decide)⟩
  · show Steps p.tables e below (s₁.setTop (mkF m 0 #[.val (.ref va), .val (.int (0 : Int32)), .val (.int k), .unset, .unset] [])) _
    refine XS.iloadN X0.here hx rfl (hb hby d28_0) rfl ?_
    show Steps p.tables e below (s₁.setTop (mkF m 1 #[.val (.ref va), .val (.int (0 : Int32)), .val (.int k), .unset, .unset] [(.int (0 : Int32))])) _
    refine XS.iloadN X0.here hx rfl (hb hby d28_1) rfl ?_
    show Steps p.tables e below (s₁.setTop (mkF m 2 #[.val (.ref va), .val (.int (0 : Int32)), .val (.int k), .unset, .unset] [(.int k), (.int (0 : Int32))])) _
    refine st101 _ ?_
    show Steps p.tables e below (T101.setTop (mkF m 5 #[.val (.ref va), .val (.int (0 : Int32)), .val (.int k), .unset, .unset] [])) _
    refine XS.iloadN X101.here hx rfl (hb hby d28_5) rfl ?_
    show Steps p.tables e below (T101.setTop (mkF m 6 #[.val (.ref va), .val (.int (0 : Int32)), .val (.int k), .unset, .unset] [(.int k)])) _
    refine XS.iloadN X101.here hx rfl (hb hby d28_6) rfl ?_
    show Steps p.tables e below (T101.setTop (mkF m 7 #[.val (.ref va), .val (.int (0 : Int32)), .val (.int k), .unset, .unset] [(.int (0 : Int32)), (.int k)])) _
    refine XS.isub X101.here hx rfl (hb hby d28_7) rfl ?_
    rw [show (k - (0 : Int32)) = k from own_sub0 k]
    show Steps p.tables e below (T101.setTop (mkF m 8 #[.val (.ref va), .val (.int (0 : Int32)), .val (.int k), .unset, .unset] [(.int k)])) _
    refine XS.istoreN X101.here hx rfl (hb hby d28_8) rfl (l' := #[.val (.ref va), .val (.int (0 : Int32)), .val (.int k), .val (.int k), .unset]) rfl ?_
    show Steps p.tables e below (T101.setTop (mkF m 9 #[.val (.ref va), .val (.int (0 : Int32)), .val (.int k), .val (.int k), .unset] [])) _
    refine XS.iloadN X101.here hx rfl (hb hby d28_9) rfl ?_
    show Steps p.tables e below (T101.setTop (mkF m 10 #[.val (.ref va), .val (.int (0 : Int32)), .val (.int k), .val (.int k), .unset] [(.int k)])) _
    refine st102 _ ?_
    show Steps p.tables e below (T102.setTop (mkF m 12 #[.val (.ref va), .val (.int (0 : Int32)), .val (.int k), .val (.int k), .unset] [(.ref b102)])) _
    refine XS.astore X102.here hx rfl (hb hby d28_12) rfl rfl (l' := #[.val (.ref va), .val (.int (0 : Int32)), .val (.int k), .val (.int k), .val (.ref b102)]) rfl ?_
    show Steps p.tables e below (T102.setTop (mkF m 14 #[.val (.ref va), .val (.int (0 : Int32)), .val (.int k), .val (.int k), .val (.ref b102)] [])) _
    refine XS.aloadN X102.here hx rfl (hb hby d28_14) rfl rfl ?_
    show Steps p.tables e below (T102.setTop (mkF m 15 #[.val (.ref va), .val (.int (0 : Int32)), .val (.int k), .val (.int k), .val (.ref b102)] [(.ref va)])) _
    refine XS.iloadN X102.here hx rfl (hb hby d28_15) rfl ?_
    show Steps p.tables e below (T102.setTop (mkF m 16 #[.val (.ref va), .val (.int (0 : Int32)), .val (.int k), .val (.int k), .val (.ref b102)] [(.int (0 : Int32)), (.ref va)])) _
    refine XS.aload X102.here hx rfl (hb hby d28_16) rfl rfl ?_
    show Steps p.tables e below (T102.setTop (mkF m 18 #[.val (.ref va), .val (.int (0 : Int32)), .val (.int k), .val (.int k), .val (.ref b102)] [(.ref b102), (.int (0 : Int32)), (.ref va)])) _
    refine XS.iconst X102.here hx rfl (hb hby d28_18) ?_
    show Steps p.tables e below (T102.setTop (mkF m 19 #[.val (.ref va), .val (.int (0 : Int32)), .val (.int k), .val (.int k), .val (.ref b102)] [(.int (0 : Int32)), (.ref b102), (.int (0 : Int32)), (.ref va)])) _
    refine XS.aloadN X102.here hx rfl (hb hby d28_19) rfl rfl ?_
    show Steps p.tables e below (T102.setTop (mkF m 20 #[.val (.ref va), .val (.int (0 : Int32)), .val (.int k), .val (.int k), .val (.ref b102)] [(.ref va), (.int (0 : Int32)), (.ref b102), (.int (0 : Int32)), (.ref va)])) _
    refine X102.arraylength hx (by rw [e102]; exact Ar_va_32.1) (State.isArrayOf_alike hZ.alike Ar_va_32.2.1) (g := (mkF m 20 #[.val (.ref va), .val (.int (0 : Int32)), .val (.int k), .val (.int k), .val (.ref b102)] [(.ref va), (.int (0 : Int32)), (.ref b102), (.int (0 : Int32)), (.ref va)])) rfl rfl (hb hby d28_20) _ ?_
    rw [len_of S_va_32 N_va_32]
    show Steps p.tables e below (T102.setTop (mkF m 21 #[.val (.ref va), .val (.int (0 : Int32)), .val (.int k), .val (.int k), .val (.ref b102)] [(.int (16 : Int32)), (.int (0 : Int32)), (.ref b102), (.int (0 : Int32)), (.ref va)])) _
    refine XS.iloadN X102.here hx rfl (hb hby d28_21) rfl ?_
    show Steps p.tables e below (T102.setTop (mkF m 22 #[.val (.ref va), .val (.int (0 : Int32)), .val (.int k), .val (.int k), .val (.ref b102)] [(.int (0 : Int32)), (.int (16 : Int32)), (.int (0 : Int32)), (.ref b102), (.int (0 : Int32)), (.ref va)])) _
    refine XS.isub X102.here hx rfl (hb hby d28_22) rfl ?_
    rw [show ((16 : Int32) - (0 : Int32)) = (16 : Int32) from by decide]
    show Steps p.tables e below (T102.setTop (mkF m 23 #[.val (.ref va), .val (.int (0 : Int32)), .val (.int k), .val (.int k), .val (.ref b102)] [(.int (16 : Int32)), (.int (0 : Int32)), (.ref b102), (.int (0 : Int32)), (.ref va)])) _
    refine XS.iloadN X102.here hx rfl (hb hby d28_23) rfl ?_
    show Steps p.tables e below (T102.setTop (mkF m 24 #[.val (.ref va), .val (.int (0 : Int32)), .val (.int k), .val (.int k), .val (.ref b102)] [(.int k), (.int (16 : Int32)), (.int (0 : Int32)), (.ref b102), (.int (0 : Int32)), (.ref va)])) _
    refine st104 _ ?_
    show Steps p.tables e below (T104.setTop (mkF m 27 #[.val (.ref va), .val (.int (0 : Int32)), .val (.int k), .val (.int k), .val (.ref b102)] [(.int k), (.int (0 : Int32)), (.ref b102), (.int (0 : Int32)), (.ref va)])) _
    refine st105 _ ?_
    show Steps p.tables e below (T105.setTop (mkF m 30 #[.val (.ref va), .val (.int (0 : Int32)), .val (.int k), .val (.int k), .val (.ref b102)] [])) _
    refine XS.aload X105.here hx rfl (hb hby d28_30) rfl rfl ?_
    show Steps p.tables e below (T105.setTop (mkF m 32 #[.val (.ref va), .val (.int (0 : Int32)), .val (.int k), .val (.int k), .val (.ref b102)] [(.ref b102)])) _
    jvm_step X105.here [X105.here.top, hx, (hb hby d28_32), X105.method', Bd.returns, Value.isRef, FieldType.isReference]
    first | (intro acts; rw [hr _ acts rfl rfl rfl]) | rw [hr _ _ rfl rfl rfl]
    exact Steps.refl _
  · show QC Z k us h0 n0 _ T105.heap _
    rw [e105]
    exact ⟨_, _, rfl, Nc105, KK105, sz_b102, Vc105⟩
theorem d27_0 : decode jdk_65_method_132_code 0 = .ok (.iload_n 1, 1) := by decide +kernel
theorem d27_1 : decode jdk_65_method_132_code 1 = .ok (.ifCond .ne 9, 3) := by decide +kernel
theorem d27_4 : decode jdk_65_method_132_code 4 = .ok (.iload_n 2, 1) := by decide +kernel
theorem d27_5 : decode jdk_65_method_132_code 5 = .ok (.aload_n 0, 1) := by decide +kernel
theorem d27_6 : decode jdk_65_method_132_code 6 = .ok (.arraylength, 1) := by decide +kernel
theorem d27_7 : decode jdk_65_method_132_code 7 = .ok (.if_icmp .eq 10, 3) := by decide +kernel
theorem d27_10 : decode jdk_65_method_132_code 10 = .ok (.aload_n 0, 1) := by decide +kernel
theorem d27_11 : decode jdk_65_method_132_code 11 = .ok (.iload_n 1, 1) := by decide +kernel
theorem d27_12 : decode jdk_65_method_132_code 12 = .ok (.iload_n 2, 1) := by decide +kernel
theorem d27_13 : decode jdk_65_method_132_code 13 = .ok (.invokestatic 339, 3) := by decide +kernel
theorem pd_9 : parseMethodDescriptor "([BII)[B" = some ⟨[(.array .byte), .int, .int], some (.array .byte)⟩ := by decide +kernel
theorem d27_16 : decode jdk_65_method_132_code 16 = .ok (.areturn, 1) := by decide +kernel
theorem ef_RII_3 (m : MethodId) (x0 : Addr) (x1 : Int32) (x2 : Int32) : entryFrame m #[(.ref x0), (.int x1), (.int x2)] 3 = mkF m 0 #[.val (.ref x0), .val (.int x1), .val (.int x2)] [] := by first | (simp [entryFrame, mkF, argsToLocals, Value.category]; done) | rfl
set_option maxRecDepth 65536 in
set_option maxHeartbeats 40000000 in
theorem rmCR (l : Launch) (Z : State) (a0 : Array Value) (hw : ∀ d ∈ tables_1, d.before a0 Z = true) (ws : List Jvm.Cond) (va : Addr) (kv : ClassId) (k : Int32) (m_ : Nat) (vd us : List Value) (h0 : Heap) (n0 : Nat) (O0 : Old Z n0 h0) (K_v : Arv Z h0 va kv .byte (16 : Int32) vd (.int (0 : Int32))) (hcr : CrOK k m_ vd us) :
    MetFree l (⟨"java/util/Arrays", "copyOfRange", "([BII)[B"⟩ : MethodName) (head1 (Jvm.Cond.code (⟨"java/util/Arrays", "copyOfRange", "([BII)[B"⟩ : MethodName) jdk_65_method_132_code 3 (some (.array .byte)) :: ws) ({ frames := 2, cells := 1, slots := 16, locals := 56 } : Room)) (fun a_ U => a_ = #[(.ref va), (.int (0 : Int32)), (.int k)] ∧ Z.Warmed39 U.vm ∧ U.heap = h0) (fun _ _ _ _ _ => True) (fun _ U o U' => ∃ v L, o = .returned v ∧ QC Z k us h0 n0 v U'.heap L ∧ FrameEnd U o U' L ({ frames := 2, cells := 1, slots := 16, locals := 56 } : Room).cells ({ frames := 2, cells := 1, slots := 16, locals := 56 } : Room).slots) := by
  refine MetFree.of_bodySF (plainFor_of_name pn_4) hisR ?_
  intro p e s m args below meth c s₁ Bd hml0 hP hK
  obtain ⟨rfl, hZ, hh⟩ := hP
  have hx := Bd.exec
  have hby := Bd.bytes
  have hml : c.maxLocals = 3 := hml0
  have hown : s.vm.findClass "java/util/Arrays" = some m.cls := findClass_of_methodNamed Bd.named
  have hnm := (name_of_methodNamed Bd.named Bd.method).1
  have X0 : Stand p l e ({ frames := 2, cells := 1, slots := 16, locals := 56 } : Room) s m #[(.ref va), (.int (0 : Int32)), (.int k)] below meth c s₁ [] 0 0 := Stand.of_body Bd
  have e0 : s₁.heap = h0 := by rw [← hh, Bd.state]; rfl
  have N0 := Fr.nil n0
  have pre0 : ∀ tg, Steps p.tables e below (s₁.setTop (mkF m 0 #[.val (.ref va), .val (.int (0 : Int32)), .val (.int k)] [])) tg → Steps p.tables e below (s₁.setTop (entryFrame m #[(.ref va), (.int (0 : Int32)), (.int k)] 3)) tg := fun tg kq => castTop (ef_RII_3 m va (0 : Int32) k) kq
  obtain ⟨q1, q2, q3, q4, q5, q6⟩ := id hcr
  obtain ⟨cl_va_9, Ar_va_9, -, S_va_9, N_va_9, -, -⟩ := id (K_v)
  obtain ⟨_, _, ⟨T101, L101, k101, n101⟩, -, X101, ⟨Lc101, hQ101, l101, y101, z101⟩, st101⟩ := Jvm.LawKit.callS X0 hx (y := (⟨"java/util/Arrays", "copyOfRangeByte", "([BII)[B"⟩ : MethodName)) hown (mvT hZ (wi hw 148 rfl)) (mvT hZ (wi hw 149 rfl)) (mvT hZ (wi hw 146 rfl)) (mvT hZ (wi hw 150 rfl)) (by decide) (backOf (W := 0) (rmCB l Z a0 hw [] va kv k m_ vd us h0 n0 O0 K_v hcr) hZ (wi hw 150 rfl) (wi hw 146 rfl) (by decide) (by decide)) (g := (mkF m 13 #[.val (.ref va), .val (.int (0 : Int32)), .val (.int k)] [(.int k), (.int (0 : Int32)), (.ref va)])) rfl (by rw [hml]; rfl) (argsL := [(.ref va), (.int (0 : Int32)), (.int k)]) (rest := []) (lenOf pd_9 rfl) rfl (by show 2 * 0 + _ ≤ _; exact Nat.le_of_eq rfl) (hb hby d27_13) (fun _ _ => ⟨rfl, e0, (by decide : 0 + 1 ≤ _), (by decide : 0 + 16 ≤ _)⟩)
  dsimp only [Pt.U, Pt.locs, Pt.cells, Pt.slots] at X101 l101 y101 z101 st101 hQ101
  subst l101 y101 z101
  obtain ⟨bc101, kc101, rfl, N101q, K101, sz101q, A101q⟩ := hQ101
  obtain ⟨h101, e101⟩ : ∃ z, T101.heap = z := ⟨_, rfl⟩
  rw [e101] at K101 A101q
  have g_bc101 : n0 ≤ bc101 := Nat.le_trans (O0.1 ▸ O0.2.1) sz101q
  have sz_bc101 : h0.size ≤ bc101 := Nat.le_trans (Nat.le_refl _) sz101q
  have O101 := O0.keep K101 all0
  have KK101 : Keep h0 h101 [] := (Keep.refl h0 []).trans K101 all0
  have N101 := Fr.app N0 N101q
  obtain ⟨fs, hr, hrun, hended, hW, hsame⟩ := X101.leave (v := some (.ref bc101)) (fun h => by rw [Bd.returns] at h; cases h)
  refine ⟨_, _, pre0 _ ?_, hrun, hended, _, _, rfl, ?_, ⟨_, rfl⟩, hW, hsame.mono (by decide) (by decide)⟩
  · show Steps p.tables e below (s₁.setTop (mkF m 0 #[.val (.ref va), .val (.int (0 : Int32)), .val (.int k)] [])) _
    refine XS.iloadN X0.here hx rfl (hb hby d27_0) rfl ?_
    show Steps p.tables e below (s₁.setTop (mkF m 1 #[.val (.ref va), .val (.int (0 : Int32)), .val (.int k)] [(.int (0 : Int32))])) _
    refine XS.ifNo X0.here hx rfl (hb hby d27_1) rfl ((if0 _ _).trans (teq (by decide : (0 : Int32) = (0 : Int32))).2) ?_
    show Steps p.tables e below (s₁.setTop (mkF m 4 #[.val (.ref va), .val (.int (0 : Int32)), .val (.int k)] [])) _
    refine XS.iloadN X0.here hx rfl (hb hby d27_4) rfl ?_
    show Steps p.tables e below (s₁.setTop (mkF m 5 #[.val (.ref va), .val (.int (0 : Int32)), .val (.int k)] [(.int k)])) _
    refine XS.aloadN X0.here hx rfl (hb hby d27_5) rfl rfl ?_
    show Steps p.tables e below (s₁.setTop (mkF m 6 #[.val (.ref va), .val (.int (0 : Int32)), .val (.int k)] [(.ref va), (.int k)])) _
    refine X0.arraylength hx (by rw [e0]; exact Ar_va_9.1) (State.isArrayOf_alike hZ.alike Ar_va_9.2.1) (g := (mkF m 6 #[.val (.ref va), .val (.int (0 : Int32)), .val (.int k)] [(.ref va), (.int k)])) rfl rfl (hb hby d27_6) _ ?_
    rw [len_of S_va_9 N_va_9]
    show Steps p.tables e below (s₁.setTop (mkF m 7 #[.val (.ref va), .val (.int (0 : Int32)), .val (.int k)] [(.int (16 : Int32)), (.int k)])) _
    refine XS.icmpNo X0.here hx rfl (hb hby d27_7) rfl (feq q3).1 ?_
    show Steps p.tables e below (s₁.setTop (mkF m 10 #[.val (.ref va), .val (.int (0 : Int32)), .val (.int k)] [])) _
    refine XS.aloadN X0.here hx rfl (hb hby d27_10) rfl rfl ?_
    show Steps p.tables e below (s₁.setTop (mkF m 11 #[.val (.ref va), .val (.int (0 : Int32)), .val (.int k)] [(.ref va)])) _
    refine XS.iloadN X0.here hx rfl (hb hby d27_11) rfl ?_
    show Steps p.tables e below (s₁.setTop (mkF m 12 #[.val (.ref va), .val (.int (0 : Int32)), .val (.int k)] [(.int (0 : Int32)), (.ref va)])) _
    refine XS.iloadN X0.here hx rfl (hb hby d27_12) rfl ?_
    show Steps p.tables e below (s₁.setTop (mkF m 13 #[.val (.ref va), .val (.int (0 : Int32)), .val (.int k)] [(.int k), (.int (0 : Int32)), (.ref va)])) _
    refine st101 _ ?_
    show Steps p.tables e below (T101.setTop (mkF m 16 #[.val (.ref va), .val (.int (0 : Int32)), .val (.int k)] [(.ref bc101)])) _
    jvm_step X101.here [X101.here.top, hx, (hb hby d27_16), X101.method', Bd.returns, Value.isRef, FieldType.isReference]
    first | (intro acts; rw [hr _ acts rfl rfl rfl]) | rw [hr _ _ rfl rfl rfl]
    exact Steps.refl _
  · show QC Z k us h0 n0 _ T101.heap _
    rw [e101]
    exact ⟨_, _, rfl, N101, KK101, sz_bc101, A101q⟩
def QS (Z : State) (x : Addr) (k : Int32) (us : List Value) (h0 : Heap) (n0 : Nat) (v : Option Value) (h : Heap) (L : List Loc) : Prop := ∃ (b : Addr) (kc : ClassId), v = none ∧ Fr n0 L ∧ Keep h0 h [x] ∧ h0.size ≤ b ∧ Fld Z h x "java/lang/String" "value" "[B" (.ref b) ∧ Fld Z h x "java/lang/String" "coder" "B" (.int (0 : Int32)) ∧ Arv Z h b kc .byte k us (.int (0 : Int32))
theorem d22_0 : decode jdk_42_method_150_code 0 = .ok (.aload_n 0, 1) := by decide +kernel
theorem d22_1 : decode jdk_42_method_150_code 1 = .ok (.invokespecial 1, 3) := by decide +kernel
theorem d22_4 : decode jdk_42_method_150_code 4 = .ok (.aload_n 1, 1) := by decide +kernel
theorem d22_5 : decode jdk_42_method_150_code 5 = .ok (.invokevirtual 552, 3) := by decide +kernel
theorem pd_10 : parseMethodDescriptor "()[B" = some ⟨[], some (.array .byte)⟩ := by decide +kernel
theorem d22_8 : decode jdk_42_method_150_code 8 = .ok (.astore_n 3, 1) := by decide +kernel
theorem d22_9 : decode jdk_42_method_150_code 9 = .ok (.aload_n 1, 1) := by decide +kernel
theorem d22_10 : decode jdk_42_method_150_code 10 = .ok (.invokevirtual 549, 3) := by decide +kernel
theorem d22_13 : decode jdk_42_method_150_code 13 = .ok (.istore 4, 2) := by decide +kernel
theorem d22_15 : decode jdk_42_method_150_code 15 = .ok (.aload_n 1, 1) := by decide +kernel
theorem d22_16 : decode jdk_42_method_150_code 16 = .ok (.invokevirtual 1047, 3) := by decide +kernel
theorem pd_11 : parseMethodDescriptor "()Z" = some ⟨[], some .boolean⟩ := by decide +kernel
theorem d22_19 : decode jdk_42_method_150_code 19 = .ok (.ifCond .eq 22, 3) := by decide +kernel
theorem d22_22 : decode jdk_42_method_150_code 22 = .ok (.aload_n 0, 1) := by decide +kernel
theorem d22_23 : decode jdk_42_method_150_code 23 = .ok (.iconst 0, 1) := by decide +kernel
theorem d22_24 : decode jdk_42_method_150_code 24 = .ok (.putfield 15, 3) := by decide +kernel
theorem d22_27 : decode jdk_42_method_150_code 27 = .ok (.aload_n 0, 1) := by decide +kernel
theorem d22_28 : decode jdk_42_method_150_code 28 = .ok (.aload_n 3, 1) := by decide +kernel
theorem d22_29 : decode jdk_42_method_150_code 29 = .ok (.iconst 0, 1) := by decide +kernel
theorem d22_30 : decode jdk_42_method_150_code 30 = .ok (.iload 4, 2) := by decide +kernel
theorem d22_32 : decode jdk_42_method_150_code 32 = .ok (.invokestatic 54, 3) := by decide +kernel
theorem d22_35 : decode jdk_42_method_150_code 35 = .ok (.putfield 9, 3) := by decide +kernel
theorem d22_38 : decode jdk_42_method_150_code 38 = .ok (.goto 59, 3) := by decide +kernel
theorem d22_97 : decode jdk_42_method_150_code 97 = .ok (.return_, 1) := by decide +kernel
theorem ef_RRN_5 (m : MethodId) (x0 : Addr) (x1 : Addr) : entryFrame m #[(.ref x0), (.ref x1), .null] 5 = mkF m 0 #[.val (.ref x0), .val (.ref x1), .val .null, .unset, .unset] [] := by first | (simp [entryFrame, mkF, argsToLocals, Value.category]; done) | rfl
set_option maxRecDepth 65536 in
set_option maxHeartbeats 40000000 in
theorem rmS2 (l : Launch) (Z : State) (a0 : Array Value) (hw : ∀ d ∈ tables_1, d.before a0 Z = true) (ws : List Jvm.Cond) (sb va x : Addr) (kv : ClassId) (k G1 : Int32) (m_ : Nat) (vd us : List Value) (h0 : Heap) (n0 : Nat) (O0 : Old Z n0 h0) (S_CS : Sta Z Z.heap "java/lang/String" "COMPACT_STRINGS" "Z" (.int G1)) (hG1 : ¬ (G1 = (0 : Int32))) (E_sb : Exa Z h0 sb "java/lang/StringBuilder") (F_v : Fld Z h0 sb "java/lang/AbstractStringBuilder" "value" "[B" (.ref va)) (F_c : Fld Z h0 sb "java/lang/AbstractStringBuilder" "coder" "B" (.int (0 : Int32))) (F_n : Fld Z h0 sb "java/lang/AbstractStringBuilder" "count" "I" (.int k)) (K_v : Arv Z h0 va kv .byte (16 : Int32) vd (.int (0 : Int32))) (E_x : Exa Z h0 x "java/lang/String") (F1 : Fld Z h0 x "java/lang/String" "value" "[B" .null) (F2 : Fld Z h0 x "java/lang/String" "coder" "B" (.int (0 : Int32))) (gx : n0 ≤ x) (nx1 : sb ≠ x) (nx2 : va ≠ x) (hcr : CrOK k m_ vd us) :
    MetFree l (⟨"java/lang/String", "<init>", "(Ljava/lang/AbstractStringBuilder;Ljava/lang/Void;)V"⟩ : MethodName) (head1 (Jvm.Cond.code (⟨"java/lang/String", "<init>", "(Ljava/lang/AbstractStringBuilder;Ljava/lang/Void;)V"⟩ : MethodName) jdk_42_method_150_code 5 none :: ws) ({ frames := 3, cells := 1, slots := 16, locals := 71 } : Room)) (fun a_ U => a_ = #[(.ref x), (.ref sb), .null] ∧ Z.Warmed39 U.vm ∧ U.heap = h0) (fun _ _ _ _ _ => True) (fun _ U o U' => ∃ v L, o = .returned v ∧ QS Z x k us h0 n0 v U'.heap L ∧ FrameEnd U o U' L ({ frames := 3, cells := 1, slots := 16, locals := 71 } : Room).cells ({ frames := 3, cells := 1, slots := 16, locals := 71 } : Room).slots) := by
  refine MetFree.of_bodySF (plainFor_of_name pn_0) hisR ?_
  intro p e s m args below meth c s₁ Bd hml0 hP hK
  obtain ⟨rfl, hZ, hh⟩ := hP
  have hx := Bd.exec
  have hby := Bd.bytes
  have hml : c.maxLocals = 5 := hml0
  have hown : s.vm.findClass "java/lang/String" = some m.cls := findClass_of_methodNamed Bd.named
  have hnm := (name_of_methodNamed Bd.named Bd.method).1
  have X0 : Stand p l e ({ frames := 3, cells := 1, slots := 16, locals := 71 } : Room) s m #[(.ref x), (.ref sb), .null] below meth c s₁ [] 0 0 := Stand.of_body Bd
  have e0 : s₁.heap = h0 := by rw [← hh, Bd.state]; rfl
  have N0 := Fr.nil n0
  have pre0 : ∀ tg, Steps p.tables e below (s₁.setTop (mkF m 0 #[.val (.ref x), .val (.ref sb), .val .null, .unset, .unset] [])) tg → Steps p.tables e below (s₁.setTop (entryFrame m #[(.ref x), (.ref sb), .null] 5)) tg := fun tg kq => castTop (ef_RRN_5 m x sb) kq
  obtain ⟨T101, X101, e101, st101⟩ := initO X0 hx hZ hown (wi hw 15 rfl) (wi hw 16 rfl) (wi hw 17 rfl) e0 (g := (mkF m 1 #[.val (.ref x), .val (.ref sb), .val .null, .unset, .unset] [(.ref x)])) rfl (by rw [hml]; rfl) rfl (hb hby d22_1) (by decide) (W := 0) (by show 2 * 0 + _ ≤ _; exact Nat.le_of_eq rfl) (by decide)
  obtain ⟨cq102, kq102, q102a, q102b, q102c⟩ := isOf hZ e101 E_sb
  obtain ⟨_, _, ⟨T102, L102, k102, n102⟩, -, X102, ⟨Lc102, hQ102, l102, y102, z102⟩, st102⟩ := X101.virtualBack hx (y := (⟨"java/lang/AbstractStringBuilder", "getValue", "()[B"⟩ : MethodName)) (z := (⟨"java/lang/AbstractStringBuilder", "getValue", "()[B"⟩ : MethodName)) hown (mvT hZ (wi hw 126 rfl)) (mvT hZ (wi hw 127 rfl)) (notFace_of_selects (args := #[]) (mvT hZ (wi hw 129 rfl))) (mvT hZ (wi hw 129 rfl)) (mvT hZ (wi hw 128 rfl)) (by decide) (backOf (W := 0) (rmGV l Z a0 hw [] sb va h0 n0 O0 E_sb F_v) hZ (wi hw 130 rfl) (wi hw 51 rfl) (by decide) (by decide)) q102a q102c (g := (mkF m 5 #[.val (.ref x), .val (.ref sb), .val .null, .unset, .unset] [(.ref sb)])) rfl (by rw [hml]; rfl) (Steps.refl _) (argsL := []) (rest := []) (lenOf pd_10 rfl) rfl (by show 2 * 0 + _ ≤ _; exact Nat.le_of_eq rfl) (hb hby d22_5) (fun _ _ => ⟨rfl, e101, (by decide : 0 + 0 ≤ _), (by decide : 0 + 0 ≤ _)⟩)
  dsimp only [Pt.U, Pt.locs, Pt.cells, Pt.slots] at X102 l102 y102 z102 st102 hQ102
  subst l102 y102 z102
  obtain ⟨rfl, N102q, hh102⟩ := hQ102
  have e102 : T102.heap = h0 := hh102
  have N102 := Fr.app N0 N102q
  obtain ⟨cq103, kq103, q103a, q103b, q103c⟩ := isOf hZ e102 E_sb
  obtain ⟨_, _, ⟨T103, L103, k103, n103⟩, -, X103, ⟨Lc103, hQ103, l103, y103, z103⟩, st103⟩ := X102.virtualBack hx (y := (⟨"java/lang/AbstractStringBuilder", "length", "()I"⟩ : MethodName)) (z := (⟨"java/lang/StringBuilder", "length", "()I"⟩ : MethodName)) hown (mvT hZ (wi hw 131 rfl)) (mvT hZ (wi hw 132 rfl)) (own_nf (args := #[]) (z := ({ cls := "java/lang/AbstractStringBuilder", name := "ensureCapacityInternal", desc := "(I)V" } : Jvm.MethodName)) rfl (mvT hZ (wi hw 88 rfl)) (notFace_of_selects (args := #[]) (mvT hZ (wi hw 90 rfl)))) (mvT hZ (wi hw 134 rfl)) (mvT hZ (wi hw 135 rfl)) (by decide) (backOf (W := 0) (rmL0 l Z a0 hw [] sb k h0 n0 O0 E_sb F_n) hZ (wi hw 136 rfl) (wi hw 43 rfl) (by decide) (by decide)) q103a q103c (g := (mkF m 10 #[.val (.ref x), .val (.ref sb), .val .null, .val (.ref va), .unset] [(.ref sb)])) rfl (by rw [hml]; rfl) (Steps.refl _) (argsL := []) (rest := []) (lenOf pd_3 rfl) rfl (by show 2 * 0 + _ ≤ _; exact Nat.le_of_eq rfl) (hb hby d22_10) (fun _ _ => ⟨rfl, e102, (by decide : 0 + 0 ≤ _), (by decide : 0 + 0 ≤ _)⟩)
  dsimp only [Pt.U, Pt.locs, Pt.cells, Pt.slots] at X103 l103 y103 z103 st103 hQ103
  subst l103 y103 z103
  obtain ⟨rfl, N103q, hh103⟩ := hQ103
  have e103 : T103.heap = h0 := hh103
  have N103 := Fr.app N102 N103q
  obtain ⟨cq104, kq104, q104a, q104b, q104c⟩ := isOf hZ e103 E_sb
  obtain ⟨_, _, ⟨T104, L104, k104, n104⟩, -, X104, ⟨Lc104, hQ104, l104, y104, z104⟩, st104⟩ := X103.virtualBack hx (y := (⟨"java/lang/AbstractStringBuilder", "isLatin1", "()Z"⟩ : MethodName)) (z := (⟨"java/lang/AbstractStringBuilder", "isLatin1", "()Z"⟩ : MethodName)) hown (mvT hZ (wi hw 139 rfl)) (mvT hZ (wi hw 140 rfl)) (notFace_of_selects (args := #[]) (mvT hZ (wi hw 142 rfl))) (mvT hZ (wi hw 142 rfl)) (mvT hZ (wi hw 141 rfl)) (by decide) (backOf (W := 0) (rmLt l Z a0 hw [] sb G1 h0 n0 O0 S_CS hG1 E_sb F_c) hZ (wi hw 143 rfl) (wi hw 51 rfl) (by decide) (by decide)) q104a q104c (g := (mkF m 16 #[.val (.ref x), .val (.ref sb), .val .null, .val (.ref va), .val (.int k)] [(.ref sb)])) rfl (by rw [hml]; rfl) (Steps.refl _) (argsL := []) (rest := []) (lenOf pd_11 rfl) rfl (by show 2 * 0 + _ ≤ _; exact Nat.le_of_eq rfl) (hb hby d22_16) (fun _ _ => ⟨rfl, e103, (by decide : 0 + 0 ≤ _), (by decide : 0 + 0 ≤ _)⟩)
  dsimp only [Pt.U, Pt.locs, Pt.cells, Pt.slots] at X104 l104 y104 z104 st104 hQ104
  subst l104 y104 z104
  obtain ⟨rfl, N104q, hh104⟩ := hQ104
  have e104 : T104.heap = h0 := hh104
  have N104 := Fr.app N103 N104q
  obtain ⟨T105, h105, X105, e105, W105, st105⟩ := putF X104 hx hZ hown (host := "") (Or.inl (wi hw 30 rfl)) Via.refl e104 F2 E_x (Or.inr ⟨(wi hw 31 rfl), rfl, hnm⟩) (wi hw 5 rfl) (ty := .byte) (by decide) rfl rfl (g := (mkF m 24 #[.val (.ref x), .val (.ref sb), .val .null, .val (.ref va), .val (.int k)] [(.int (0 : Int32)), (.ref x)])) rfl rfl (hb hby d22_24)
  have Fw105 := F2.same W105
  have O105 := O0.wr W105 gx
  have KK105 : Keep h0 h105 [x] := (Keep.refl h0 [x]).wr W105 (Or.inl (List.mem_of_getElem? (i := 0) rfl))
  have N105 := Fr.snoc X105 N104 gx
  have fV_va_1_106 := (K_v.other W105 nx2)
  obtain ⟨_, _, ⟨T107, L107, k107, n107⟩, -, X107, ⟨Lc107, hQ107, l107, y107, z107⟩, st107⟩ := Jvm.LawKit.callS X105 hx (y := (⟨"java/util/Arrays", "copyOfRange", "([BII)[B"⟩ : MethodName)) hown (mvT hZ (wi hw 144 rfl)) (mvT hZ (wi hw 145 rfl)) (mvT hZ (wi hw 146 rfl)) (mvT hZ (wi hw 147 rfl)) (by decide) (backOf (W := 1) (rmCR l Z a0 hw [] va kv k m_ vd us h105 n0 O105 fV_va_1_106 hcr) hZ (wi hw 147 rfl) (wi hw 146 rfl) (by decide) (by decide)) (g := (mkF m 32 #[.val (.ref x), .val (.ref sb), .val .null, .val (.ref va), .val (.int k)] [(.int k), (.int (0 : Int32)), (.ref va), (.ref x)])) rfl (by rw [hml]; rfl) (argsL := [(.ref va), (.int (0 : Int32)), (.int k)]) (rest := [(.ref x)]) (lenOf pd_9 rfl) rfl (by show 2 * 0 + _ ≤ _; exact Nat.le_of_eq rfl) (hb hby d22_32) (fun _ _ => ⟨rfl, e105, (by decide : 0 + 1 ≤ _), (by decide : 0 + 16 ≤ _)⟩)
  dsimp only [Pt.U, Pt.locs, Pt.cells, Pt.slots] at X107 l107 y107 z107 st107 hQ107
  subst l107 y107 z107
  obtain ⟨bc107, kc107, rfl, N107q, K107, sz107q, A107q⟩ := hQ107
  obtain ⟨h107, e107⟩ : ∃ z, T107.heap = z := ⟨_, rfl⟩
  rw [e107] at K107 A107q
  have g_bc107 : n0 ≤ bc107 := Nat.le_trans (O105.1 ▸ O105.2.1) sz107q
  have sz_bc107 : h0.size ≤ bc107 := Nat.le_trans KK105.1 sz107q
  have O107 := O105.keep K107 all0
  have KK107 : Keep h0 h107 [x] := KK105.trans K107 all0
  have N107 := Fr.app N105 N107q
  have fE_x_2_108 := ((E_x.wr W105).keep K107)
  have fString_value_2_109 := ((F1.other W105 (Or.inr (slot_ne (Or.inr (wi hw 33 rfl)) (Or.inr (wi hw 31 rfl)) (by decide) (t := (.array .byte)) (t' := .byte) (by decide) (by decide)))).keep K107 nin0)
  obtain ⟨T110, h110, X110, e110, W110, st110⟩ := putF X107 hx hZ hown (host := "") (Or.inl (wi hw 32 rfl)) Via.refl e107 fString_value_2_109 fE_x_2_108 (Or.inr ⟨(wi hw 33 rfl), rfl, hnm⟩) (wi hw 5 rfl) (ty := (.array .byte)) (by decide) rfl rfl (g := (mkF m 35 #[.val (.ref x), .val (.ref sb), .val .null, .val (.ref va), .val (.int k)] [(.ref bc107), (.ref x)])) rfl rfl (hb hby d22_35)
  have Fw110 := fString_value_2_109.same W110
  have O110 := O107.wr W110 gx
  have KK110 : Keep h0 h110 [x] := KK107.wr W110 (Or.inl (List.mem_of_getElem? (i := 0) rfl))
  have N110 := Fr.snoc X110 N107 gx
  have fString_coder_3_111 := ((Fw105.keep K107 nin0).other W110 (Or.inr (slot_ne (Or.inr (wi hw 31 rfl)) (Or.inr (wi hw 33 rfl)) (by decide) (t := .byte) (t' := (.array .byte)) (by decide) (by decide))))
  have fV_bc107_3_112 := (A107q.other W110 (Ne.symm (Nat.ne_of_lt (Nat.lt_of_lt_of_le (E_x.wr W105).lt sz107q))))
  obtain ⟨fs, hr, hrun, hended, hW, hsame⟩ := X110.leave (v := none) (fun _ => rfl)
  refine ⟨_, _, pre0 _ ?_, hrun, hended, _, _, rfl, ?_, ⟨_, rfl⟩, hW, hsame.mono (by decide) (by decide)⟩
  · show Steps p.tables e below (s₁.setTop (mkF m 0 #[.val (.ref x), .val (.ref sb), .val .null, .unset, .unset] [])) _
    refine XS.aloadN X0.here hx rfl (hb hby d22_0) rfl rfl ?_
    show Steps p.tables e below (s₁.setTop (mkF m 1 #[.val (.ref x), .val (.ref sb), .val .null, .unset, .unset] [(.ref x)])) _
    refine st101 _ ?_
    show Steps p.tables e below (T101.setTop (mkF m 4 #[.val (.ref x), .val (.ref sb), .val .null, .unset, .unset] [])) _
    refine XS.aloadN X101.here hx rfl (hb hby d22_4) rfl rfl ?_
    show Steps p.tables e below (T101.setTop (mkF m 5 #[.val (.ref x), .val (.ref sb), .val .null, .unset, .unset] [(.ref sb)])) _
    refine st102.trans ?_
    show Steps p.tables e below (T102.setTop (mkF m 8 #[.val (.ref x), .val (.ref sb), .val .null, .unset, .unset] [(.ref va)])) _
    refine XS.astoreN X102.here hx rfl (hb hby d22_8) rfl rfl (l' := #[.val (.ref x), .val (.ref sb), .val .null, .val (.ref va), .unset]) rfl ?_
    show Steps p.tables e below (T102.setTop (mkF m 9 #[.val (.ref x), .val (.ref sb), .val .null, .val (.ref va), .unset] [])) _
    refine XS.aloadN X102.here hx rfl (hb hby d22_9) rfl rfl ?_
    show Steps p.tables e below (T102.setTop (mkF m 10 #[.val (.ref x), .val (.ref sb), .val .null, .val (.ref va), .unset] [(.ref sb)])) _
    refine st103.trans ?_
    show Steps p.tables e below (T103.setTop (mkF m 13 #[.val (.ref x), .val (.ref sb), .val .null, .val (.ref va), .unset] [(.int k)])) _
    refine XS.istore X103.here hx rfl (hb hby d22_13) rfl (l' := #[.val (.ref x), .val (.ref sb), .val .null, .val (.ref va), .val (.int k)]) rfl ?_
    show Steps p.tables e below (T103.setTop (mkF m 15 #[.val (.ref x), .val (.ref sb), .val .null, .val (.ref va), .val (.int k)] [])) _
    refine XS.aloadN X103.here hx rfl (hb hby d22_15) rfl rfl ?_
    show Steps p.tables e below (T103.setTop (mkF m 16 #[.val (.ref x), .val (.ref sb), .val .null, .val (.ref va), .val (.int k)] [(.ref sb)])) _
    refine st104.trans ?_
    show Steps p.tables e below (T104.setTop (mkF m 19 #[.val (.ref x), .val (.ref sb), .val .null, .val (.ref va), .val (.int k)] [(.int (1 : Int32))])) _
    refine XS.ifNo X104.here hx rfl (hb hby d22_19) rfl ((if0 _ _).trans (feq (by decide : ¬ ((1 : Int32) = (0 : Int32)))).1) ?_
    show Steps p.tables e below (T104.setTop (mkF m 22 #[.val (.ref x), .val (.ref sb), .val .null, .val (.ref va), .val (.int k)] [])) _
    refine XS.aloadN X104.here hx rfl (hb hby d22_22) rfl rfl ?_
    show Steps p.tables e below (T104.setTop (mkF m 23 #[.val (.ref x), .val (.ref sb), .val .null, .val (.ref va), .val (.int k)] [(.ref x)])) _
    refine XS.iconst X104.here hx rfl (hb hby d22_23) ?_
    show Steps p.tables e below (T104.setTop (mkF m 24 #[.val (.ref x), .val (.ref sb), .val .null, .val (.ref va), .val (.int k)] [(.int (0 : Int32)), (.ref x)])) _
    refine st105 _ ?_
    show Steps p.tables e below (T105.setTop (mkF m 27 #[.val (.ref x), .val (.ref sb), .val .null, .val (.ref va), .val (.int k)] [])) _
    refine XS.aloadN X105.here hx rfl (hb hby d22_27) rfl rfl ?_
    show Steps p.tables e below (T105.setTop (mkF m 28 #[.val (.ref x), .val (.ref sb), .val .null, .val (.ref va), .val (.int k)] [(.ref x)])) _
    refine XS.aloadN X105.here hx rfl (hb hby d22_28) rfl rfl ?_
    show Steps p.tables e below (T105.setTop (mkF m 29 #[.val (.ref x), .val (.ref sb), .val .null, .val (.ref va), .val (.int k)] [(.ref va), (.ref x)])) _
    refine XS.iconst X105.here hx rfl (hb hby d22_29) ?_
    show Steps p.tables e below (T105.setTop (mkF m 30 #[.val (.ref x), .val (.ref sb), .val .null, .val (.ref va), .val (.int k)] [(.int (0 : Int32)), (.ref va), (.ref x)])) _
    refine XS.iload X105.here hx rfl (hb hby d22_30) rfl ?_
    show Steps p.tables e below (T105.setTop (mkF m 32 #[.val (.ref x), .val (.ref sb), .val .null, .val (.ref va), .val (.int k)] [(.int k), (.int (0 : Int32)), (.ref va), (.ref x)])) _
    refine st107 _ ?_
    show Steps p.tables e below (T107.setTop (mkF m 35 #[.val (.ref x), .val (.ref sb), .val .null, .val (.ref va), .val (.int k)] [(.ref bc107), (.ref x)])) _
    refine st110 _ ?_
    show Steps p.tables e below (T110.setTop (mkF m 38 #[.val (.ref x), .val (.ref sb), .val .null, .val (.ref va), .val (.int k)] [])) _
    refine XS.goto X110.here hx rfl (pc0 := 38) (pc' := 97) rfl (hb hby d22_38) (by decide) (by decide) ?_
    show Steps p.tables e below (T110.setTop (mkF m 97 #[.val (.ref x), .val (.ref sb), .val .null, .val (.ref va), .val (.int k)] [])) _
    exact X110.returnOut hx Bd.returns (hb hby d22_97) hr
  · show QS Z x k us h0 n0 _ T110.heap _
    rw [e110]
    exact ⟨_, _, rfl, N110, KK110, sz_bc107, Fw110, fString_coder_3_111, fV_bc107_3_112⟩
theorem d21_0 : decode jdk_42_method_53_code 0 = .ok (.aload_n 0, 1) := by decide +kernel
theorem d21_1 : decode jdk_42_method_53_code 1 = .ok (.aload_n 1, 1) := by decide +kernel
theorem d21_2 : decode jdk_42_method_53_code 2 = .ok (.aconst_null, 1) := by decide +kernel
theorem d21_3 : decode jdk_42_method_53_code 3 = .ok (.invokespecial 489, 3) := by decide +kernel
theorem pd_12 : parseMethodDescriptor "(Ljava/lang/AbstractStringBuilder;Ljava/lang/Void;)V" = some ⟨[(.object "java/lang/AbstractStringBuilder"), (.object "java/lang/Void")], none⟩ := by decide +kernel
theorem d21_6 : decode jdk_42_method_53_code 6 = .ok (.return_, 1) := by decide +kernel
set_option maxRecDepth 65536 in
set_option maxHeartbeats 40000000 in
theorem rmS1 (l : Launch) (Z : State) (a0 : Array Value) (hw : ∀ d ∈ tables_1, d.before a0 Z = true) (ws : List Jvm.Cond) (sb va x : Addr) (kv : ClassId) (k G1 : Int32) (m_ : Nat) (vd us : List Value) (h0 : Heap) (n0 : Nat) (O0 : Old Z n0 h0) (S_CS : Sta Z Z.heap "java/lang/String" "COMPACT_STRINGS" "Z" (.int G1)) (hG1 : ¬ (G1 = (0 : Int32))) (E_sb : Exa Z h0 sb "java/lang/StringBuilder") (F_v : Fld Z h0 sb "java/lang/AbstractStringBuilder" "value" "[B" (.ref va)) (F_c : Fld Z h0 sb "java/lang/AbstractStringBuilder" "coder" "B" (.int (0 : Int32))) (F_n : Fld Z h0 sb "java/lang/AbstractStringBuilder" "count" "I" (.int k)) (K_v : Arv Z h0 va kv .byte (16 : Int32) vd (.int (0 : Int32))) (E_x : Exa Z h0 x "java/lang/String") (F1 : Fld Z h0 x "java/lang/String" "value" "[B" .null) (F2 : Fld Z h0 x "java/lang/String" "coder" "B" (.int (0 : Int32))) (gx : n0 ≤ x) (nx1 : sb ≠ x) (nx2 : va ≠ x) (hcr : CrOK k m_ vd us) :
    MetFree l (⟨"java/lang/String", "<init>", "(Ljava/lang/StringBuilder;)V"⟩ : MethodName) (head1 (Jvm.Cond.code (⟨"java/lang/String", "<init>", "(Ljava/lang/StringBuilder;)V"⟩ : MethodName) jdk_42_method_53_code 2 none :: ws) ({ frames := 4, cells := 1, slots := 16, locals := 87 } : Room)) (fun a_ U => a_ = #[(.ref x), (.ref sb)] ∧ Z.Warmed39 U.vm ∧ U.heap = h0) (fun _ _ _ _ _ => True) (fun _ U o U' => ∃ v L, o = .returned v ∧ QS Z x k us h0 n0 v U'.heap L ∧ FrameEnd U o U' L ({ frames := 4, cells := 1, slots := 16, locals := 87 } : Room).cells ({ frames := 4, cells := 1, slots := 16, locals := 87 } : Room).slots) := by
  refine MetFree.of_bodySF (plainFor_of_name pn_0) hisR ?_
  intro p e s m args below meth c s₁ Bd hml0 hP hK
  obtain ⟨rfl, hZ, hh⟩ := hP
  have hx := Bd.exec
  have hby := Bd.bytes
  have hml : c.maxLocals = 2 := hml0
  have hown : s.vm.findClass "java/lang/String" = some m.cls := findClass_of_methodNamed Bd.named
  have hnm := (name_of_methodNamed Bd.named Bd.method).1
  have X0 : Stand p l e ({ frames := 4, cells := 1, slots := 16, locals := 87 } : Room) s m #[(.ref x), (.ref sb)] below meth c s₁ [] 0 0 := Stand.of_body Bd
  have e0 : s₁.heap = h0 := by rw [← hh, Bd.state]; rfl
  have N0 := Fr.nil n0
  have pre0 : ∀ tg, Steps p.tables e below (s₁.setTop (mkF m 0 #[.val (.ref x), .val (.ref sb)] [])) tg → Steps p.tables e below (s₁.setTop (entryFrame m #[(.ref x), (.ref sb)] 2)) tg := fun tg kq => castTop (ef_RR_2 m x sb) kq
  obtain ⟨_, _, ⟨T101, L101, k101, n101⟩, -, X101, ⟨Lc101, hQ101, l101, y101, z101⟩, st101⟩ := X0.specialBack hx (y := (⟨"java/lang/String", "<init>", "(Ljava/lang/AbstractStringBuilder;Ljava/lang/Void;)V"⟩ : MethodName)) rfl hown (mvT hZ (wi hw 123 rfl)) (mvT hZ (wi hw 124 rfl)) (mvT hZ (wi hw 125 rfl)) (by decide) (backOf (W := 0) (rmS2 l Z a0 hw [] sb va x kv k G1 m_ vd us h0 n0 O0 S_CS hG1 E_sb F_v F_c F_n K_v E_x F1 F2 gx nx1 nx2 hcr) hZ (wi hw 125 rfl) (wi hw 6 rfl) (by decide) (by decide)) (g := (mkF m 3 #[.val (.ref x), .val (.ref sb)] [.null, (.ref sb), (.ref x)])) rfl (by rw [hml]; rfl) (Steps.refl _) (a := x) (argsL := [(.ref sb), .null]) (rest := []) (lenOf pd_12 rfl) rfl (by show 2 * 0 + _ ≤ _; exact Nat.le_of_eq rfl) (hb hby d21_3) (fun _ _ => ⟨rfl, e0, (by decide : 0 + 1 ≤ _), (by decide : 0 + 16 ≤ _)⟩)
  dsimp only [Pt.U, Pt.locs, Pt.cells, Pt.slots] at X101 l101 y101 z101 st101 hQ101
  subst l101 y101 z101
  obtain ⟨bs101, ks101, rfl, N101q, K101, sz101q, A101v, A101c, A101q⟩ := hQ101
  obtain ⟨h101, e101⟩ : ∃ z, T101.heap = z := ⟨_, rfl⟩
  rw [e101] at K101 A101v A101c A101q
  have g_bs101 : n0 ≤ bs101 := Nat.le_trans (O0.1 ▸ O0.2.1) sz101q
  have sz_bs101 : h0.size ≤ bs101 := Nat.le_trans (Nat.le_refl _) sz101q
  have O101 := O0.keep K101 (allS gx all0)
  have KK101 : Keep h0 h101 [x] := (Keep.refl h0 [x]).trans K101 (allS (Or.inl (List.mem_of_getElem? (i := 0) rfl)) all0)
  have N101 := Fr.app N0 N101q
  obtain ⟨fs, hr, hrun, hended, hW, hsame⟩ := X101.leave (v := none) (fun _ => rfl)
  refine ⟨_, _, pre0 _ ?_, hrun, hended, _, _, rfl, ?_, ⟨_, rfl⟩, hW, hsame.mono (by decide) (by decide)⟩
  · show Steps p.tables e below (s₁.setTop (mkF m 0 #[.val (.ref x), .val (.ref sb)] [])) _
    refine XS.aloadN X0.here hx rfl (hb hby d21_0) rfl rfl ?_
    show Steps p.tables e below (s₁.setTop (mkF m 1 #[.val (.ref x), .val (.ref sb)] [(.ref x)])) _
    refine XS.aloadN X0.here hx rfl (hb hby d21_1) rfl rfl ?_
    show Steps p.tables e below (s₁.setTop (mkF m 2 #[.val (.ref x), .val (.ref sb)] [(.ref sb), (.ref x)])) _
    refine XS.aconstNull X0.here hx rfl (hb hby d21_2) ?_
    show Steps p.tables e below (s₁.setTop (mkF m 3 #[.val (.ref x), .val (.ref sb)] [.null, (.ref sb), (.ref x)])) _
    refine st101.trans ?_
    show Steps p.tables e below (T101.setTop (mkF m 6 #[.val (.ref x), .val (.ref sb)] [])) _
    exact X101.returnOut hx Bd.returns (hb hby d21_6) hr
  · show QS Z x k us h0 n0 _ T101.heap _
    rw [e101]
    exact ⟨_, _, rfl, N101, KK101, sz_bs101, A101v, A101c, A101q⟩
def QY (Z : State) (cs : List Int32) (h0 : Heap) (n0 : Nat) (v : Option Value) (h : Heap) (L : List Loc) : Prop := ∃ y : Addr, v = some (.ref y) ∧ Fr n0 L ∧ Keep h0 h [] ∧ h0.size ≤ y ∧ Str Z h y cs
theorem d20_0 : decode jdk_67_method_42_code 0 = .ok (.new 18, 3) := by decide +kernel
theorem d20_3 : decode jdk_67_method_42_code 3 = .ok (.dup, 1) := by decide +kernel
theorem d20_4 : decode jdk_67_method_42_code 4 = .ok (.aload_n 0, 1) := by decide +kernel
theorem d20_5 : decode jdk_67_method_42_code 5 = .ok (.invokespecial 137, 3) := by decide +kernel
theorem pd_13 : parseMethodDescriptor "(Ljava/lang/StringBuilder;)V" = some ⟨[(.object "java/lang/StringBuilder")], none⟩ := by decide +kernel
theorem d20_8 : decode jdk_67_method_42_code 8 = .ok (.areturn, 1) := by decide +kernel
set_option maxRecDepth 65536 in
set_option maxHeartbeats 40000000 in
theorem rmTS (l : Launch) (Z : State) (a0 : Array Value) (hw : ∀ d ∈ tables_1, d.before a0 Z = true) (ws : List Jvm.Cond) (sb va : Addr) (kv : ClassId) (k G1 : Int32) (m_ : Nat) (vd : List Value) (cs : List Int32) (h0 : Heap) (n0 : Nat) (O0 : Old Z n0 h0) (S_CS : Sta Z Z.heap "java/lang/String" "COMPACT_STRINGS" "Z" (.int G1)) (hG1 : ¬ (G1 = (0 : Int32))) (E_sb : Exa Z h0 sb "java/lang/StringBuilder") (F_v : Fld Z h0 sb "java/lang/AbstractStringBuilder" "value" "[B" (.ref va)) (F_c : Fld Z h0 sb "java/lang/AbstractStringBuilder" "coder" "B" (.int (0 : Int32))) (F_n : Fld Z h0 sb "java/lang/AbstractStringBuilder" "count" "I" (.int k)) (K_v : Arv Z h0 va kv .byte (16 : Int32) vd (.int (0 : Int32))) (hcr : CrOK k m_ vd (cs.map (fun c => Value.int (StrChars.lo8 c)))) (hk : k = Int32.ofNat cs.length) (hpc : ∀ c ∈ cs, ¬ c < 0 ∧ ¬ (255 : Int32) < c) (hlc : cs.length ≤ 4000) :
    MetFree l (⟨"java/lang/StringBuilder", "toString", "()Ljava/lang/String;"⟩ : MethodName) (head1 (Jvm.Cond.code (⟨"java/lang/StringBuilder", "toString", "()Ljava/lang/String;"⟩ : MethodName) jdk_67_method_42_code 1 (some (.object "java/lang/String")) :: ws) ({ frames := 5, cells := 2, slots := 20, locals := 101 } : Room)) (fun a_ U => a_ = #[(.ref sb)] ∧ Z.Warmed39 U.vm ∧ U.heap = h0) (fun _ _ _ _ _ => True) (fun _ U o U' => ∃ v L, o = .returned v ∧ QY Z cs h0 n0 v U'.heap L ∧ FrameEnd U o U' L ({ frames := 5, cells := 2, slots := 20, locals := 101 } : Room).cells ({ frames := 5, cells := 2, slots := 20, locals := 101 } : Room).slots) := by
  refine MetFree.of_bodySF (plainFor_of_name pn_2) hisR ?_
  intro p e s m args below meth c s₁ Bd hml0 hP hK
  obtain ⟨rfl, hZ, hh⟩ := hP
  have hx := Bd.exec
  have hby := Bd.bytes
  have hml : c.maxLocals = 1 := hml0
  have hown : s.vm.findClass "java/lang/StringBuilder" = some m.cls := findClass_of_methodNamed Bd.named
  have hnm := (name_of_methodNamed Bd.named Bd.method).1
  have X0 : Stand p l e ({ frames := 5, cells := 2, slots := 20, locals := 101 } : Room) s m #[(.ref sb)] below meth c s₁ [] 0 0 := Stand.of_body Bd
  have e0 : s₁.heap = h0 := by rw [← hh, Bd.state]; rfl
  have N0 := Fr.nil n0
  have pre0 : ∀ tg, Steps p.tables e below (s₁.setTop (mkF m 0 #[.val (.ref sb)] [])) tg → Steps p.tables e below (s₁.setTop (entryFrame m #[(.ref sb)] 1)) tg := fun tg kq => castTop (ef_R_1 m sb) kq
  obtain ⟨T101, h101, X101, e101, E101, A101, D101, -, st101⟩ := newO X0 hx hZ hown (wi hw 119 rfl) (wi hw 5 rfl) (wi hw 6 rfl) e0 (g := (mkF m 0 #[.val (.ref sb)] [])) rfl (hb hby d20_0) (by decide) (by decide)
  obtain ⟨b101, g101⟩ : ∃ z, z = h0.size := ⟨_, rfl⟩
  rw [← g101] at A101 D101 st101
  have g_b101 : n0 ≤ b101 := Nat.le_trans (O0.1 ▸ O0.2.1) (Nat.le_of_eq g101.symm)
  have sz_b101 : h0.size ≤ b101 := Nat.le_trans (Nat.le_refl _) (Nat.le_of_eq g101.symm)
  have O101 := O0.ext E101
  have KK101 : Keep h0 h101 [] := (Keep.refl h0 []).ext E101
  have F_coder_b101 : Fld Z h101 b101 "java/lang/String" "coder" "B" (.int (0 : Int32)) := D101 (Or.inr (wi hw 31 rfl)) (ty := .byte) (by decide)
  have F_value_b101 : Fld Z h101 b101 "java/lang/String" "value" "[B" .null := D101 (Or.inr (wi hw 33 rfl)) (ty := (.array .byte)) (by decide)
  have fE_sb_1_102 := (E_sb.ext E101)
  have fAbstractStringBuilder_value_1_103 := (F_v.ext E101)
  have fAbstractStringBuilder_coder_1_104 := (F_c.ext E101)
  have fAbstractStringBuilder_count_1_105 := (F_n.ext E101)
  have fV_va_1_106 := (K_v.ext E101)
  obtain ⟨_, _, ⟨T107, L107, k107, n107⟩, -, X107, ⟨Lc107, hQ107, l107, y107, z107⟩, st107⟩ := X101.specialBack hx (y := (⟨"java/lang/String", "<init>", "(Ljava/lang/StringBuilder;)V"⟩ : MethodName)) rfl hown (mvT hZ (wi hw 120 rfl)) (mvT hZ (wi hw 121 rfl)) (mvT hZ (wi hw 122 rfl)) (by decide) (backOf (W := 1) (rmS1 l Z a0 hw [] sb va b101 kv k G1 m_ vd (cs.map (fun c => Value.int (StrChars.lo8 c))) h101 n0 O101 S_CS hG1 fE_sb_1_102 fAbstractStringBuilder_value_1_103 fAbstractStringBuilder_coder_1_104 fAbstractStringBuilder_count_1_105 fV_va_1_106 A101 F_value_b101 F_coder_b101 g_b101 (Nat.ne_of_lt (Nat.lt_of_lt_of_le E_sb.lt (Nat.le_of_eq g101.symm))) (Nat.ne_of_lt (Nat.lt_of_lt_of_le K_v.lt (Nat.le_of_eq g101.symm))) hcr) hZ (wi hw 122 rfl) (wi hw 6 rfl) (by decide) (by decide)) (g := (mkF m 5 #[.val (.ref sb)] [(.ref sb), (.ref b101), (.ref b101)])) rfl (by rw [hml]; rfl) (Steps.refl _) (a := b101) (argsL := [(.ref sb)]) (rest := [(.ref b101)]) (lenOf pd_13 rfl) rfl (by show 2 * 0 + _ ≤ _; exact Nat.le_of_eq rfl) (hb hby d20_5) (fun _ _ => ⟨rfl, e101, (by decide : 1 + 1 ≤ _), (by decide : 4 + 16 ≤ _)⟩)
  dsimp only [Pt.U, Pt.locs, Pt.cells, Pt.slots] at X107 l107 y107 z107 st107 hQ107
  subst l107 y107 z107
  obtain ⟨bs107, ks107, rfl, N107q, K107, sz107q, A107v, A107c, A107q⟩ := hQ107
  obtain ⟨h107, e107⟩ : ∃ z, T107.heap = z := ⟨_, rfl⟩
  rw [e107] at K107 A107v A107c A107q
  have g_bs107 : n0 ≤ bs107 := Nat.le_trans (O101.1 ▸ O101.2.1) sz107q
  have sz_bs107 : h0.size ≤ bs107 := Nat.le_trans KK101.1 sz107q
  have O107 := O101.keep K107 (allS g_b101 all0)
  have KK107 : Keep h0 h107 [] := KK101.trans K107 (allS (Or.inr sz_b101) all0)
  have N107 := Fr.app N0 N107q
  have fE_b101_2_108 := (A101.keep K107)
  obtain ⟨fs, hr, hrun, hended, hW, hsame⟩ := X107.leave (v := some (.ref b101)) (fun h => by rw [Bd.returns] at h; cases h)
  refine ⟨_, _, pre0 _ ?_, hrun, hended, _, _, rfl, ?_, ⟨_, rfl⟩, hW, hsame.mono (by decide) (by decide)⟩
  · show Steps p.tables e below (s₁.setTop (mkF m 0 #[.val (.ref sb)] [])) _
    refine st101 _ ?_
    show Steps p.tables e below (T101.setTop (mkF m 3 #[.val (.ref sb)] [(.ref b101)])) _
    refine XS.dup X101.here hx rfl (hb hby d20_3) rfl rfl ?_
    show Steps p.tables e below (T101.setTop (mkF m 4 #[.val (.ref sb)] [(.ref b101), (.ref b101)])) _
    refine XS.aloadN X101.here hx rfl (hb hby d20_4) rfl rfl ?_
    show Steps p.tables e below (T101.setTop (mkF m 5 #[.val (.ref sb)] [(.ref sb), (.ref b101), (.ref b101)])) _
    refine st107.trans ?_
    show Steps p.tables e below (T107.setTop (mkF m 8 #[.val (.ref sb)] [(.ref b101)])) _
    jvm_step X107.here [X107.here.top, hx, (hb hby d20_8), X107.method', Bd.returns, Value.isRef, FieldType.isReference]
    first | (intro acts; rw [hr _ acts rfl rfl rfl]) | rw [hr _ _ rfl rfl rfl]
    exact Steps.refl _
  · show QY Z cs h0 n0 _ T107.heap _
    rw [e107]
    exact ⟨_, rfl, N107, KK107, sz_b101, ⟨_, _, _, _, fE_b101_2_108, A107v, A107c, A107q, Or.inl ⟨rfl, hk, rfl, fun c hc => (hpc c hc).2⟩, hpc, hlc⟩⟩
theorem d8_0 : decode prog_11_method_2_code 0 = .ok (.new 19, 3) := by decide +kernel
theorem d8_3 : decode prog_11_method_2_code 3 = .ok (.dup, 1) := by decide +kernel
theorem d8_4 : decode prog_11_method_2_code 4 = .ok (.invokespecial 21, 3) := by decide +kernel
theorem pd_14 : parseMethodDescriptor "()V" = some ⟨[], none⟩ := by decide +kernel
theorem d8_7 : decode prog_11_method_2_code 7 = .ok (.aload_n 0, 1) := by decide +kernel
theorem d8_8 : decode prog_11_method_2_code 8 = .ok (.ldc 22, 2) := by decide +kernel
theorem own_strw : ∀ d ∈ Bundle.stringAtoms, d ∈ tables_1 := by decide +kernel
theorem d8_10 : decode prog_11_method_2_code 10 = .ok (.invokestatic 24, 3) := by decide +kernel
theorem pd_15 : parseMethodDescriptor "(Ljava/lang/Object;Ljava/lang/String;)Ljava/lang/Object;" = some ⟨[(.object "java/lang/Object"), (.object "java/lang/String")], some (.object "java/lang/Object")⟩ := by decide +kernel
theorem d8_13 : decode prog_11_method_2_code 13 = .ok (.checkcast 30, 3) := by decide +kernel
theorem d8_16 : decode prog_11_method_2_code 16 = .ok (.invokevirtual 32, 3) := by decide +kernel
theorem pd_16 : parseMethodDescriptor "(Ljava/lang/String;)Ljava/lang/StringBuilder;" = some ⟨[(.object "java/lang/String")], some (.object "java/lang/StringBuilder")⟩ := by decide +kernel
theorem d8_19 : decode prog_11_method_2_code 19 = .ok (.ldc 36, 2) := by decide +kernel
theorem d8_21 : decode prog_11_method_2_code 21 = .ok (.invokevirtual 32, 3) := by decide +kernel
theorem d8_24 : decode prog_11_method_2_code 24 = .ok (.aload_n 1, 1) := by decide +kernel
theorem d8_25 : decode prog_11_method_2_code 25 = .ok (.ldc 38, 2) := by decide +kernel
theorem d8_27 : decode prog_11_method_2_code 27 = .ok (.invokestatic 24, 3) := by decide +kernel
theorem d8_30 : decode prog_11_method_2_code 30 = .ok (.checkcast 30, 3) := by decide +kernel
theorem d8_33 : decode prog_11_method_2_code 33 = .ok (.invokevirtual 32, 3) := by decide +kernel
theorem d8_36 : decode prog_11_method_2_code 36 = .ok (.invokevirtual 40, 3) := by decide +kernel
theorem pd_17 : parseMethodDescriptor "()Ljava/lang/String;" = some ⟨[], some (.object "java/lang/String")⟩ := by decide +kernel
theorem d8_39 : decode prog_11_method_2_code 39 = .ok (.areturn, 1) := by decide +kernel
theorem pn_5 : plainName "com/example/postback/postback/aurpay/AurpaySignature" = true := by first | (simp [plainName, overriddenIn]; done) | decide +kernel
set_option maxRecDepth 65536 in
set_option maxHeartbeats 40000000 in
theorem rmSG (l : Launch) (Z : State) (a0 : Array Value) (hw : ∀ d ∈ tables_1, d.before a0 Z = true) (ws : List Jvm.Cond) (xa xb : Addr) (G1 n1 n2 n3 : Int32) (m_ : Nat) (ca cb cs : List Int32) (v1 v2 v3 : List Value) (h0 : Heap) (n0 : Nat) (O0 : Old Z n0 h0) (S_CS : Sta Z Z.heap "java/lang/String" "COMPACT_STRINGS" "Z" (.int G1)) (hG1 : ¬ (G1 = (0 : Int32))) (Ta : Str Z h0 xa ca) (Tb : Str Z h0 xb cb) (hca : CpOK (0 : Int32) ca.length (ca.map (fun c => Value.int (StrChars.lo8 c))) [.int (0 : Int32), .int (0 : Int32), .int (0 : Int32), .int (0 : Int32), .int (0 : Int32), .int (0 : Int32), .int (0 : Int32), .int (0 : Int32), .int (0 : Int32), .int (0 : Int32), .int (0 : Int32), .int (0 : Int32), .int (0 : Int32), .int (0 : Int32), .int (0 : Int32), .int (0 : Int32)] v1) (hea : ¬ ((0 : Int32) < (((0 : Int32) + (Int32.ofNat ca.length)) - ((16 : Int32) >>> ((0 : Int32) &&& 31))))) (hna : (0 : Int32) + (Int32.ofNat ca.length) = n1) (hcb : CpOK n1 ([(32 : Int32), (124 : Int32), (32 : Int32)] : List Int32).length (([(32 : Int32), (124 : Int32), (32 : Int32)] : List Int32).map (fun c => Value.int (StrChars.lo8 c))) v1 v2) (heb : ¬ ((0 : Int32) < ((n1 + (Int32.ofNat ([(32 : Int32), (124 : Int32), (32 : Int32)] : List Int32).length)) - ((16 : Int32) >>> ((0 : Int32) &&& 31))))) (hnb : n1 + (Int32.ofNat ([(32 : Int32), (124 : Int32), (32 : Int32)] : List Int32).length) = n2) (hcc : CpOK n2 cb.length (cb.map (fun c => Value.int (StrChars.lo8 c))) v2 v3) (hec : ¬ ((0 : Int32) < ((n2 + (Int32.ofNat cb.length)) - ((16 : Int32) >>> ((0 : Int32) &&& 31))))) (hnc : n2 + (Int32.ofNat cb.length) = n3) (hcr : CrOK n3 m_ v3 (cs.map (fun c => Value.int (StrChars.lo8 c)))) (hk : n3 = Int32.ofNat cs.length) (hpc : ∀ c ∈ cs, ¬ c < 0 ∧ ¬ (255 : Int32) < c) (hlc : cs.length ≤ 4000) :
    MetFree l (⟨"com/example/postback/postback/aurpay/AurpaySignature", "signedString", "(Ljava/lang/String;Ljava/lang/String;)Ljava/lang/String;"⟩ : MethodName) (head1 (Jvm.Cond.code (⟨"com/example/postback/postback/aurpay/AurpaySignature", "signedString", "(Ljava/lang/String;Ljava/lang/String;)Ljava/lang/String;"⟩ : MethodName) prog_11_method_2_code 2 (some (.object "java/lang/String")) :: ws) ({ frames := 6, cells := 10, slots := 92, locals := 113 } : Room)) (fun a_ U => a_ = #[(.ref xa), (.ref xb)] ∧ Z.Warmed39 U.vm ∧ U.heap = h0 ∧ CHv Z consts_1 U.vm h0) (fun _ _ _ _ _ => True) (fun _ U o U' => ∃ v L, o = .returned v ∧ QY Z cs h0 n0 v U'.heap L ∧ CHr Z consts_1 U.vm U.heap U'.vm U'.heap ∧ ReturnedEndW U o U' L ({ frames := 6, cells := 10, slots := 92, locals := 113 } : Room).cells ({ frames := 6, cells := 10, slots := 92, locals := 113 } : Room).slots) := by
  refine MetFree.of_bodySF (plainFor_of_name pn_5) hisR ?_
  intro p e s m args below meth c s₁ Bd hml0 hP hK
  obtain ⟨rfl, hZ, hh, hC⟩ := hP
  have hx := Bd.exec
  have hby := Bd.bytes
  have hml : c.maxLocals = 2 := hml0
  have hown : s.vm.findClass "com/example/postback/postback/aurpay/AurpaySignature" = some m.cls := findClass_of_methodNamed Bd.named
  have hnm := (name_of_methodNamed Bd.named Bd.method).1
  have X0 : Stand p l e ({ frames := 6, cells := 10, slots := 92, locals := 113 } : Room) (s.setVm s.vm) m #[(.ref xa), (.ref xb)] below meth c s₁ [] 0 0 := Stand.of_body Bd
  have e0 : s₁.heap = h0 := by rw [← hh, Bd.state]; rfl
  have N0 := Fr.nil n0
  have pre0 : ∀ tg, Steps p.tables e below (s₁.setTop (mkF m 0 #[.val (.ref xa), .val (.ref xb)] [])) tg → Steps p.tables e below (s₁.setTop (entryFrame m #[(.ref xa), (.ref xb)] 2)) tg := fun tg kq => castTop (ef_RR_2 m xa xb) kq
  have hS0 : s.Since s.vm h0.size := (State.WarmedH.refl s).since _
  have hk0 : h0.size ≤ h0.size := Nat.le_refl _
  have CR0 : CHr Z consts_1 s.vm h0 s.vm h0 := CHr.refl hC
  obtain ⟨ta, kba, Na, vsa, sEa, sVa, sCa, sKa, scda, shpa, shla⟩ := id Ta
  obtain ⟨tb, kbb, Nb, vsb, sEb, sVb, sCb, sKb, scdb, shpb, shlb⟩ := id Tb
  obtain ⟨T101, h101, X101, e101, E101, A101, D101, -, st101⟩ := newO X0 hx hZ hown (wi hw 41 rfl) (wi hw 42 rfl) (wi hw 43 rfl) e0 (g := (mkF m 0 #[.val (.ref xa), .val (.ref xb)] [])) rfl (hb hby d8_0) (by decide) (by decide)
  obtain ⟨b101, g101⟩ : ∃ z, z = h0.size := ⟨_, rfl⟩
  rw [← g101] at A101 D101 st101
  have g_b101 : n0 ≤ b101 := Nat.le_trans (O0.1 ▸ O0.2.1) (Nat.le_of_eq g101.symm)
  have sz_b101 : h0.size ≤ b101 := Nat.le_trans (Nat.le_refl _) (Nat.le_of_eq g101.symm)
  have O101 := O0.ext E101
  have CS101 := CHr.ext E101 CR0.1
  have CR101 := CR0.trans CS101
  have KK101 : Keep h0 h101 [] := (Keep.refl h0 []).ext E101
  have F_value_b101 : Fld Z h101 b101 "java/lang/AbstractStringBuilder" "value" "[B" .null := D101 (Or.inl (wi hw 56 rfl)) (ty := (.array .byte)) (by decide)
  have F_coder_b101 : Fld Z h101 b101 "java/lang/AbstractStringBuilder" "coder" "B" (.int (0 : Int32)) := D101 (Or.inl (wi hw 58 rfl)) (ty := .byte) (by decide)
  have F_count_b101 : Fld Z h101 b101 "java/lang/AbstractStringBuilder" "count" "I" (.int (0 : Int32)) := D101 (Or.inl (wi hw 86 rfl)) (ty := .int) (by decide)
  obtain ⟨_, _, ⟨T102, L102, k102, n102⟩, -, X102, ⟨Lc102, hQ102, l102, y102, z102⟩, st102⟩ := X101.specialBack hx (y := (⟨"java/lang/StringBuilder", "<init>", "()V"⟩ : MethodName)) rfl hown (mvT hZ (wi hw 44 rfl)) (mvT hZ (wi hw 45 rfl)) (mvT hZ (wi hw 46 rfl)) (by decide) (backOf (W := 1) (rmI0 l Z a0 hw [] b101 G1 h101 n0 O101 S_CS hG1 A101 F_value_b101 F_coder_b101 F_count_b101 g_b101) hZ (wi hw 46 rfl) (wi hw 43 rfl) (by decide) (by decide)) (g := (mkF m 4 #[.val (.ref xa), .val (.ref xb)] [(.ref b101), (.ref b101)])) rfl (by rw [hml]; rfl) (Steps.refl _) (a := b101) (argsL := []) (rest := [(.ref b101)]) (lenOf pd_14 rfl) rfl (by show 2 * 0 + _ ≤ _; exact Nat.le_of_eq rfl) (hb hby d8_4) (fun _ _ => ⟨rfl, e101, (by decide : 1 + 1 ≤ _), (by decide : 4 + 16 ≤ _)⟩)
  dsimp only [Pt.U, Pt.locs, Pt.cells, Pt.slots] at X102 l102 y102 z102 st102 hQ102
  subst l102 y102 z102
  obtain ⟨va102, kv102, rfl, N102q, K102, sz102q, A102v, A102c, A102n, A102q⟩ := hQ102
  obtain ⟨h102, e102⟩ : ∃ z, T102.heap = z := ⟨_, rfl⟩
  rw [e102] at K102 A102v A102c A102n A102q
  have g_va102 : n0 ≤ va102 := Nat.le_trans (O101.1 ▸ O101.2.1) sz102q
  have sz_va102 : h0.size ≤ va102 := Nat.le_trans KK101.1 sz102q
  have O102 := O101.keep K102 (allS g_b101 all0)
  have CS102 := CHr.keep K102 (sfS (Safe.exa hZ.alike A101 (by decide) (by decide)) sf0) CR101.1
  have CR102 := CR101.trans CS102
  have KK102 : Keep h0 h102 [] := KK101.trans K102 (allS (Or.inr sz_b101) all0)
  have N102 := Fr.app N0 N102q
  have sfv102 : Safe Z consts_1 s.vm h102 va102 := Safe.keep K102 (sfS (Safe.exa hZ.alike A101 (by decide) (by decide)) sf0) CR101.1 (Safe.new sz102q)
  obtain ⟨a103, T103, h103, k103, b103, kb103, X103, e103, E103, hS103, hk103, hZ103, hown103, lE103, lC103, lV103, lK103, la103, lb103, CS103, lL103, lne103, st103⟩ := ldcCH (s := s) (EL := consts_1) X102 hx hZ hown (wi hw 59 rfl) (fun d hd => hw d (own_strw d hd)) e102 hS0 (Nat.le_trans (Nat.le_trans hk0 E101.1) K102.1) (own_EW hw) (by decide) CR102.1 (vs := [(.int (100 : Int32)), (.int (97 : Int32)), (.int (116 : Int32)), (.int (101 : Int32))]) (z := (4 : Int32)) ⟨by decide, by decide⟩ (by decide) (by decide) (g := (mkF m 8 #[.val (.ref xa), .val (.ref xb)] [(.ref xa), (.ref b101)])) rfl (hb hby d8_8) (n := 16) (by decide) (by decide) (by decide) (by decide)
  have O103 := O102.ext E103
  have CR103 := CR102.trans CS103
  have KK103 : Keep h0 h103 [] := KK102.ext E103
  have lcd103 : StrChars.Road.CodA ([(100 : Int32), (97 : Int32), (116 : Int32), (101 : Int32)] : List Int32) 0 (4 : Int32) [(.int (100 : Int32)), (.int (97 : Int32)), (.int (116 : Int32)), (.int (101 : Int32))] := Or.inl ⟨rfl, rfl, rfl, by decide⟩
  have lhp103 : ∀ c ∈ ([(100 : Int32), (97 : Int32), (116 : Int32), (101 : Int32)] : List Int32), ¬ c < 0 ∧ ¬ (255 : Int32) < c := by decide
  obtain ⟨_, _, ⟨T104, L104, k104, n104⟩, -, X104, ⟨Lc104, hQ104, l104, y104, z104⟩, st104⟩ := Jvm.LawKit.callS X103 hx (y := (⟨"java/util/Objects", "requireNonNull", "(Ljava/lang/Object;Ljava/lang/String;)Ljava/lang/Object;"⟩ : MethodName)) hown103 (mvT hZ103 (wi hw 60 rfl)) (mvT hZ103 (wi hw 61 rfl)) (mvT hZ103 (wi hw 62 rfl)) (mvT hZ103 (wi hw 63 rfl)) (by decide) (backOf (W := 1) (rmNN l Z a0 hw [] xa a103 h103 n0 O103) hZ103 (wi hw 63 rfl) (wi hw 62 rfl) (by decide) (by decide)) (g := (mkF m 10 #[.val (.ref xa), .val (.ref xb)] [(.ref a103), (.ref xa), (.ref b101)])) rfl (by rw [hml]; rfl) (argsL := [(.ref xa), (.ref a103)]) (rest := [(.ref b101)]) (lenOf pd_15 rfl) rfl (by show 2 * 0 + _ ≤ _; exact Nat.le_of_eq rfl) (hb hby d8_10) (fun _ _ => ⟨rfl, e103, (by decide : 4 + 0 ≤ _), (by decide : 40 + 0 ≤ _)⟩)
  dsimp only [Pt.U, Pt.locs, Pt.cells, Pt.slots] at X104 l104 y104 z104 st104 hQ104
  subst l104 y104 z104
  obtain ⟨rfl, N104q, hh104⟩ := hQ104
  have e104 : T104.heap = h103 := hh104
  have N104 := Fr.app N102 N104q
  have fE_xa_3_105 := (((sEa.ext E101).keep K102).ext E103)
  obtain ⟨T106, X106, e106, st106⟩ := castY X104 hx hZ103 hown103 (wi hw 64 rfl) e104 (Ins.self fE_xa_3_105) (g := (mkF m 13 #[.val (.ref xa), .val (.ref xb)] [(.ref xa), (.ref b101)])) rfl rfl (hb hby d8_13)
  have fAbstractStringBuilder_value_3_107 := (A102v.ext E103)
  have fV_va102_3_108 := (A102q.ext E103)
  have fString_value_3_109 := (((sVa.ext E101).keep K102 (ninS (Nat.ne_of_lt (Nat.lt_of_lt_of_le sEa.lt (Nat.le_of_eq g101.symm))) nin0)).ext E103)
  have fString_coder_3_110 := (((sCa.ext E101).keep K102 (ninS (Nat.ne_of_lt (Nat.lt_of_lt_of_le sEa.lt (Nat.le_of_eq g101.symm))) nin0)).ext E103)
  have fV_ta_3_111 := (((sKa.ext E101).keep K102 (ninS (Nat.ne_of_lt (Nat.lt_of_lt_of_le sKa.lt (Nat.le_of_eq g101.symm))) nin0)).ext E103)
  have fE_b101_3_112 := ((A101.keep K102).ext E103)
  have fAbstractStringBuilder_coder_3_113 := (A102c.ext E103)
  have fAbstractStringBuilder_count_3_114 := (A102n.ext E103)
  obtain ⟨cq115, kq115, q115a, q115b, q115c⟩ := isOf hZ103 e106 fE_b101_3_112
  obtain ⟨_, _, ⟨T115, L115, k115, n115⟩, -, X115, ⟨Lc115, hQ115, l115, y115, z115⟩, st115⟩ := X106.virtualBack hx (y := (⟨"java/lang/StringBuilder", "append", "(Ljava/lang/String;)Ljava/lang/StringBuilder;"⟩ : MethodName)) (z := (⟨"java/lang/StringBuilder", "append", "(Ljava/lang/String;)Ljava/lang/StringBuilder;"⟩ : MethodName)) hown103 (mvT hZ103 (wi hw 65 rfl)) (mvT hZ103 (wi hw 66 rfl)) (notFace_of_selects (args := #[]) (mvT hZ103 (wi hw 68 rfl))) (mvT hZ103 (wi hw 68 rfl)) (mvT hZ103 (wi hw 67 rfl)) (by decide) (backOf (W := 0) (rmSA l Z a0 hw [] b101 xa va102 kv102 (0 : Int32) n1 G1 ca [.int (0 : Int32), .int (0 : Int32), .int (0 : Int32), .int (0 : Int32), .int (0 : Int32), .int (0 : Int32), .int (0 : Int32), .int (0 : Int32), .int (0 : Int32), .int (0 : Int32), .int (0 : Int32), .int (0 : Int32), .int (0 : Int32), .int (0 : Int32), .int (0 : Int32), .int (0 : Int32)] v1 h103 n0 O103 S_CS hG1 ⟨_, _, _, _, fE_xa_3_105, fString_value_3_109, fString_coder_3_110, fV_ta_3_111, scda, shpa, shla⟩ fE_b101_3_112 fAbstractStringBuilder_value_3_107 fAbstractStringBuilder_coder_3_113 fAbstractStringBuilder_count_3_114 fV_va102_3_108 g_b101 g_va102 (Nat.ne_of_lt (Nat.lt_of_lt_of_le A101.lt sz102q)) hca hea hna) hZ103 (wi hw 69 rfl) (wi hw 43 rfl) (by decide) (by decide)) q115a q115c (g := (mkF m 16 #[.val (.ref xa), .val (.ref xb)] [(.ref xa), (.ref b101)])) rfl (by rw [hml]; rfl) (Steps.refl _) (argsL := [(.ref xa)]) (rest := []) (lenOf pd_16 rfl) rfl (by show 2 * 0 + _ ≤ _; exact Nat.le_of_eq rfl) (hb hby d8_16) (fun _ _ => ⟨rfl, e106, (by decide : 4 + 0 ≤ _), (by decide : 40 + 0 ≤ _)⟩)
  dsimp only [Pt.U, Pt.locs, Pt.cells, Pt.slots] at X115 l115 y115 z115 st115 hQ115
  subst l115 y115 z115
  obtain ⟨rfl, N115q, K115, A115v, A115c, A115n, A115q⟩ := hQ115
  obtain ⟨h115, e115⟩ : ∃ z, T115.heap = z := ⟨_, rfl⟩
  rw [e115] at K115 A115v A115c A115n A115q
  have O115 := O103.keep K115 (allS g_va102 (allS g_b101 all0))
  have CS115 := CHr.keep K115 (sfS (CS103.safe A102q.lt sfv102) (sfS (Safe.exa hZ103.alike fE_b101_3_112 (by decide) (by decide)) sf0)) CR103.1
  have CR115 := CR103.trans CS115
  have KK115 : Keep h0 h115 [] := KK103.trans K115 (allS (Or.inr sz_va102) (allS (Or.inr sz_b101) all0))
  have N115 := Fr.app N104 N115q
  obtain ⟨a116, T116, h116, k116, b116, kb116, X116, e116, E116, hS116, hk116, hZ116, hown116, lE116, lC116, lV116, lK116, la116, lb116, CS116, lL116, lne116, st116⟩ := ldcCH (s := s) (EL := consts_1) X115 hx hZ103 hown103 (wi hw 112 rfl) (fun d hd => hw d (own_strw d hd)) e115 hS103 (Nat.le_trans hk103 K115.1) (own_EW hw) (by decide) CR115.1 (vs := [(.int (32 : Int32)), (.int (124 : Int32)), (.int (32 : Int32))]) (z := (3 : Int32)) ⟨by decide, by decide⟩ (by decide) (by decide) (g := (mkF m 19 #[.val (.ref xa), .val (.ref xb)] [(.ref b101)])) rfl (hb hby d8_19) (n := 12) (by decide) (by decide) (by decide) (by decide)
  have O116 := O115.ext E116
  have CR116 := CR115.trans CS116
  have KK116 : Keep h0 h116 [] := KK115.ext E116
  have lcd116 : StrChars.Road.CodA ([(32 : Int32), (124 : Int32), (32 : Int32)] : List Int32) 0 (3 : Int32) [(.int (32 : Int32)), (.int (124 : Int32)), (.int (32 : Int32))] := Or.inl ⟨rfl, rfl, rfl, by decide⟩
  have lhp116 : ∀ c ∈ ([(32 : Int32), (124 : Int32), (32 : Int32)] : List Int32), ¬ c < 0 ∧ ¬ (255 : Int32) < c := by decide
  have fAbstractStringBuilder_value_5_117 := (A115v.ext E116)
  have fV_va102_5_118 := (A115q.ext E116)
  have fE_b101_5_119 := ((fE_b101_3_112.keep K115).ext E116)
  have fAbstractStringBuilder_coder_5_120 := (A115c.ext E116)
  have fAbstractStringBuilder_count_5_121 := (A115n.ext E116)
  obtain ⟨cq122, kq122, q122a, q122b, q122c⟩ := isOf hZ116 e116 fE_b101_5_119
  obtain ⟨_, _, ⟨T122, L122, k122, n122⟩, -, X122, ⟨Lc122, hQ122, l122, y122, z122⟩, st122⟩ := X116.virtualBack hx (y := (⟨"java/lang/StringBuilder", "append", "(Ljava/lang/String;)Ljava/lang/StringBuilder;"⟩ : MethodName)) (z := (⟨"java/lang/StringBuilder", "append", "(Ljava/lang/String;)Ljava/lang/StringBuilder;"⟩ : MethodName)) hown116 (mvT hZ116 (wi hw 65 rfl)) (mvT hZ116 (wi hw 66 rfl)) (notFace_of_selects (args := #[]) (mvT hZ116 (wi hw 68 rfl))) (mvT hZ116 (wi hw 68 rfl)) (mvT hZ116 (wi hw 67 rfl)) (by decide) (backOf (W := 0) (rmSA l Z a0 hw [] b101 a116 va102 kv102 n1 n2 G1 ([(32 : Int32), (124 : Int32), (32 : Int32)] : List Int32) v1 v2 h116 n0 O116 S_CS hG1 ⟨_, _, _, _, lE116, lV116, lC116, lK116, lcd116, lhp116, (by decide)⟩ fE_b101_5_119 fAbstractStringBuilder_value_5_117 fAbstractStringBuilder_coder_5_120 fAbstractStringBuilder_count_5_121 fV_va102_5_118 g_b101 g_va102 (Nat.ne_of_lt (Nat.lt_of_lt_of_le A101.lt sz102q)) hcb heb hnb) hZ116 (wi hw 69 rfl) (wi hw 43 rfl) (by decide) (by decide)) q122a q122c (g := (mkF m 21 #[.val (.ref xa), .val (.ref xb)] [(.ref a116), (.ref b101)])) rfl (by rw [hml]; rfl) (Steps.refl _) (argsL := [(.ref a116)]) (rest := []) (lenOf pd_16 rfl) rfl (by show 2 * 0 + _ ≤ _; exact Nat.le_of_eq rfl) (hb hby d8_21) (fun _ _ => ⟨rfl, e116, (by decide : 6 + 0 ≤ _), (by decide : 56 + 0 ≤ _)⟩)
  dsimp only [Pt.U, Pt.locs, Pt.cells, Pt.slots] at X122 l122 y122 z122 st122 hQ122
  subst l122 y122 z122
  obtain ⟨rfl, N122q, K122, A122v, A122c, A122n, A122q⟩ := hQ122
  obtain ⟨h122, e122⟩ : ∃ z, T122.heap = z := ⟨_, rfl⟩
  rw [e122] at K122 A122v A122c A122n A122q
  have O122 := O116.keep K122 (allS g_va102 (allS g_b101 all0))
  have CS122 := CHr.keep K122 (sfS (CS116.safe A115q.lt (CS115.safe (A102q.ext E103).lt (CS103.safe A102q.lt sfv102))) (sfS (Safe.exa hZ116.alike fE_b101_5_119 (by decide) (by decide)) sf0)) CR116.1
  have CR122 := CR116.trans CS122
  have KK122 : Keep h0 h122 [] := KK116.trans K122 (allS (Or.inr sz_va102) (allS (Or.inr sz_b101) all0))
  have N122 := Fr.app N115 N122q
  obtain ⟨a123, T123, h123, k123, b123, kb123, X123, e123, E123, hS123, hk123, hZ123, hown123, lE123, lC123, lV123, lK123, la123, lb123, CS123, lL123, lne123, st123⟩ := ldcCH (s := s) (EL := consts_1) X122 hx hZ116 hown116 (wi hw 113 rfl) (fun d hd => hw d (own_strw d hd)) e122 hS116 (Nat.le_trans hk116 K122.1) (own_EW hw) (by decide) CR122.1 (vs := [(.int (117 : Int32)), (.int (114 : Int32)), (.int (108 : Int32))]) (z := (3 : Int32)) ⟨by decide, by decide⟩ (by decide) (by decide) (g := (mkF m 25 #[.val (.ref xa), .val (.ref xb)] [(.ref xb), (.ref b101)])) rfl (hb hby d8_25) (n := 12) (by decide) (by decide) (by decide) (by decide)
  have O123 := O122.ext E123
  have CR123 := CR122.trans CS123
  have KK123 : Keep h0 h123 [] := KK122.ext E123
  have lcd123 : StrChars.Road.CodA ([(117 : Int32), (114 : Int32), (108 : Int32)] : List Int32) 0 (3 : Int32) [(.int (117 : Int32)), (.int (114 : Int32)), (.int (108 : Int32))] := Or.inl ⟨rfl, rfl, rfl, by decide⟩
  have lhp123 : ∀ c ∈ ([(117 : Int32), (114 : Int32), (108 : Int32)] : List Int32), ¬ c < 0 ∧ ¬ (255 : Int32) < c := by decide
  obtain ⟨_, _, ⟨T124, L124, k124, n124⟩, -, X124, ⟨Lc124, hQ124, l124, y124, z124⟩, st124⟩ := Jvm.LawKit.callS X123 hx (y := (⟨"java/util/Objects", "requireNonNull", "(Ljava/lang/Object;Ljava/lang/String;)Ljava/lang/Object;"⟩ : MethodName)) hown123 (mvT hZ123 (wi hw 60 rfl)) (mvT hZ123 (wi hw 61 rfl)) (mvT hZ123 (wi hw 62 rfl)) (mvT hZ123 (wi hw 63 rfl)) (by decide) (backOf (W := 1) (rmNN l Z a0 hw [] xb a123 h123 n0 O123) hZ123 (wi hw 63 rfl) (wi hw 62 rfl) (by decide) (by decide)) (g := (mkF m 27 #[.val (.ref xa), .val (.ref xb)] [(.ref a123), (.ref xb), (.ref b101)])) rfl (by rw [hml]; rfl) (argsL := [(.ref xb), (.ref a123)]) (rest := [(.ref b101)]) (lenOf pd_15 rfl) rfl (by show 2 * 0 + _ ≤ _; exact Nat.le_of_eq rfl) (hb hby d8_27) (fun _ _ => ⟨rfl, e123, (by decide : 8 + 0 ≤ _), (by decide : 72 + 0 ≤ _)⟩)
  dsimp only [Pt.U, Pt.locs, Pt.cells, Pt.slots] at X124 l124 y124 z124 st124 hQ124
  subst l124 y124 z124
  obtain ⟨rfl, N124q, hh124⟩ := hQ124
  have e124 : T124.heap = h123 := hh124
  have N124 := Fr.app N122 N124q
  have fE_xb_7_125 := (((((((sEb.ext E101).keep K102).ext E103).keep K115).ext E116).keep K122).ext E123)
  obtain ⟨T126, X126, e126, st126⟩ := castY X124 hx hZ123 hown123 (wi hw 64 rfl) e124 (Ins.self fE_xb_7_125) (g := (mkF m 30 #[.val (.ref xa), .val (.ref xb)] [(.ref xb), (.ref b101)])) rfl rfl (hb hby d8_30)
  have fAbstractStringBuilder_value_7_127 := (A122v.ext E123)
  have fV_va102_7_128 := (A122q.ext E123)
  have fString_value_7_129 := (((((((sVb.ext E101).keep K102 (ninS (Nat.ne_of_lt (Nat.lt_of_lt_of_le sEb.lt (Nat.le_of_eq g101.symm))) nin0)).ext E103).keep K115 (ninS (Nat.ne_of_lt (Nat.lt_of_lt_of_le (sEb.ext E101).lt sz102q)) (ninS (Nat.ne_of_lt (Nat.lt_of_lt_of_le sEb.lt (Nat.le_of_eq g101.symm))) nin0))).ext E116).keep K122 (ninS (Nat.ne_of_lt (Nat.lt_of_lt_of_le (sEb.ext E101).lt sz102q)) (ninS (Nat.ne_of_lt (Nat.lt_of_lt_of_le sEb.lt (Nat.le_of_eq g101.symm))) nin0))).ext E123)
  have fString_coder_7_130 := (((((((sCb.ext E101).keep K102 (ninS (Nat.ne_of_lt (Nat.lt_of_lt_of_le sEb.lt (Nat.le_of_eq g101.symm))) nin0)).ext E103).keep K115 (ninS (Nat.ne_of_lt (Nat.lt_of_lt_of_le (sEb.ext E101).lt sz102q)) (ninS (Nat.ne_of_lt (Nat.lt_of_lt_of_le sEb.lt (Nat.le_of_eq g101.symm))) nin0))).ext E116).keep K122 (ninS (Nat.ne_of_lt (Nat.lt_of_lt_of_le (sEb.ext E101).lt sz102q)) (ninS (Nat.ne_of_lt (Nat.lt_of_lt_of_le sEb.lt (Nat.le_of_eq g101.symm))) nin0))).ext E123)
  have fV_tb_7_131 := (((((((sKb.ext E101).keep K102 (ninS (Nat.ne_of_lt (Nat.lt_of_lt_of_le sKb.lt (Nat.le_of_eq g101.symm))) nin0)).ext E103).keep K115 (ninS (Nat.ne_of_lt (Nat.lt_of_lt_of_le (sKb.ext E101).lt sz102q)) (ninS (Nat.ne_of_lt (Nat.lt_of_lt_of_le sKb.lt (Nat.le_of_eq g101.symm))) nin0))).ext E116).keep K122 (ninS (Nat.ne_of_lt (Nat.lt_of_lt_of_le (sKb.ext E101).lt sz102q)) (ninS (Nat.ne_of_lt (Nat.lt_of_lt_of_le sKb.lt (Nat.le_of_eq g101.symm))) nin0))).ext E123)
  have fE_b101_7_132 := ((fE_b101_5_119.keep K122).ext E123)
  have fAbstractStringBuilder_coder_7_133 := (A122c.ext E123)
  have fAbstractStringBuilder_count_7_134 := (A122n.ext E123)
  obtain ⟨cq135, kq135, q135a, q135b, q135c⟩ := isOf hZ123 e126 fE_b101_7_132
  obtain ⟨_, _, ⟨T135, L135, k135, n135⟩, -, X135, ⟨Lc135, hQ135, l135, y135, z135⟩, st135⟩ := X126.virtualBack hx (y := (⟨"java/lang/StringBuilder", "append", "(Ljava/lang/String;)Ljava/lang/StringBuilder;"⟩ : MethodName)) (z := (⟨"java/lang/StringBuilder", "append", "(Ljava/lang/String;)Ljava/lang/StringBuilder;"⟩ : MethodName)) hown123 (mvT hZ123 (wi hw 65 rfl)) (mvT hZ123 (wi hw 66 rfl)) (notFace_of_selects (args := #[]) (mvT hZ123 (wi hw 68 rfl))) (mvT hZ123 (wi hw 68 rfl)) (mvT hZ123 (wi hw 67 rfl)) (by decide) (backOf (W := 0) (rmSA l Z a0 hw [] b101 xb va102 kv102 n2 n3 G1 cb v2 v3 h123 n0 O123 S_CS hG1 ⟨_, _, _, _, fE_xb_7_125, fString_value_7_129, fString_coder_7_130, fV_tb_7_131, scdb, shpb, shlb⟩ fE_b101_7_132 fAbstractStringBuilder_value_7_127 fAbstractStringBuilder_coder_7_133 fAbstractStringBuilder_count_7_134 fV_va102_7_128 g_b101 g_va102 (Nat.ne_of_lt (Nat.lt_of_lt_of_le A101.lt sz102q)) hcc hec hnc) hZ123 (wi hw 69 rfl) (wi hw 43 rfl) (by decide) (by decide)) q135a q135c (g := (mkF m 33 #[.val (.ref xa), .val (.ref xb)] [(.ref xb), (.ref b101)])) rfl (by rw [hml]; rfl) (Steps.refl _) (argsL := [(.ref xb)]) (rest := []) (lenOf pd_16 rfl) rfl (by show 2 * 0 + _ ≤ _; exact Nat.le_of_eq rfl) (hb hby d8_33) (fun _ _ => ⟨rfl, e126, (by decide : 8 + 0 ≤ _), (by decide : 72 + 0 ≤ _)⟩)
  dsimp only [Pt.U, Pt.locs, Pt.cells, Pt.slots] at X135 l135 y135 z135 st135 hQ135
  subst l135 y135 z135
  obtain ⟨rfl, N135q, K135, A135v, A135c, A135n, A135q⟩ := hQ135
  obtain ⟨h135, e135⟩ : ∃ z, T135.heap = z := ⟨_, rfl⟩
  rw [e135] at K135 A135v A135c A135n A135q
  have O135 := O123.keep K135 (allS g_va102 (allS g_b101 all0))
  have CS135 := CHr.keep K135 (sfS (CS123.safe A122q.lt (CS122.safe (A115q.ext E116).lt (CS116.safe A115q.lt (CS115.safe (A102q.ext E103).lt (CS103.safe A102q.lt sfv102))))) (sfS (Safe.exa hZ123.alike fE_b101_7_132 (by decide) (by decide)) sf0)) CR123.1
  have CR135 := CR123.trans CS135
  have KK135 : Keep h0 h135 [] := KK123.trans K135 (allS (Or.inr sz_va102) (allS (Or.inr sz_b101) all0))
  have N135 := Fr.app N124 N135q
  have fE_b101_8_136 := (fE_b101_7_132.keep K135)
  obtain ⟨cq137, kq137, q137a, q137b, q137c⟩ := isOf hZ123 e135 fE_b101_8_136
  obtain ⟨_, _, ⟨T137, L137, k137, n137⟩, -, X137, ⟨Lc137, hQ137, l137, y137, z137⟩, st137⟩ := X135.virtualBack hx (y := (⟨"java/lang/StringBuilder", "toString", "()Ljava/lang/String;"⟩ : MethodName)) (z := (⟨"java/lang/StringBuilder", "toString", "()Ljava/lang/String;"⟩ : MethodName)) hown123 (mvT hZ123 (wi hw 114 rfl)) (mvT hZ123 (wi hw 115 rfl)) (notFace_of_selects (args := #[]) (mvT hZ123 (wi hw 117 rfl))) (mvT hZ123 (wi hw 117 rfl)) (mvT hZ123 (wi hw 116 rfl)) (by decide) (backOf (W := 0) (rmTS l Z a0 hw [] b101 va102 kv102 n3 G1 m_ v3 cs h135 n0 O135 S_CS hG1 fE_b101_8_136 A135v A135c A135n A135q hcr hk hpc hlc) hZ123 (wi hw 118 rfl) (wi hw 43 rfl) (by decide) (by decide)) q137a q137c (g := (mkF m 36 #[.val (.ref xa), .val (.ref xb)] [(.ref b101)])) rfl (by rw [hml]; rfl) (Steps.refl _) (argsL := []) (rest := []) (lenOf pd_17 rfl) rfl (by show 2 * 0 + _ ≤ _; exact Nat.le_of_eq rfl) (hb hby d8_36) (fun _ _ => ⟨rfl, e135, (by decide : 8 + 2 ≤ _), (by decide : 72 + 20 ≤ _)⟩)
  dsimp only [Pt.U, Pt.locs, Pt.cells, Pt.slots] at X137 l137 y137 z137 st137 hQ137
  subst l137 y137 z137
  obtain ⟨y137, rfl, N137q, K137, sz137q, T137q⟩ := hQ137
  obtain ⟨h137, e137⟩ : ∃ z, T137.heap = z := ⟨_, rfl⟩
  rw [e137] at K137 T137q
  have g_y137 : n0 ≤ y137 := Nat.le_trans (O135.1 ▸ O135.2.1) sz137q
  have sz_y137 : h0.size ≤ y137 := Nat.le_trans KK135.1 sz137q
  have O137 := O135.keep K137 all0
  have CS137 := CHr.keep K137 sf0 CR135.1
  have CR137 := CR135.trans CS137
  have KK137 : Keep h0 h137 [] := KK135.trans K137 all0
  have N137 := Fr.app N135 N137q
  obtain ⟨fs, hr, hrun, hended, hREW⟩ := X137.leaveW hS123 (by rw [e137]; exact (Nat.le_trans (Nat.le_trans hk123 K135.1) K137.1)) (v := some (.ref y137)) (fun h => by rw [Bd.returns] at h; cases h)
  refine ⟨_, _, pre0 _ ?_, hrun, hended, _, _, rfl, ?_, (by rw [hh]; show CHr Z consts_1 s.vm h0 T137.vm T137.heap; rw [e137]; exact CR137.trans (CHv.at X137 hZ123 (own_EW hw) CR137.1)), hREW.1, hREW.2.1, hREW.2.2.1, hREW.2.2.2.mono (by decide) (by decide)⟩
  · show Steps p.tables e below (s₁.setTop (mkF m 0 #[.val (.ref xa), .val (.ref xb)] [])) _
    refine st101 _ ?_
    show Steps p.tables e below (T101.setTop (mkF m 3 #[.val (.ref xa), .val (.ref xb)] [(.ref b101)])) _
    refine XS.dup X101.here hx rfl (hb hby d8_3) rfl rfl ?_
    show Steps p.tables e below (T101.setTop (mkF m 4 #[.val (.ref xa), .val (.ref xb)] [(.ref b101), (.ref b101)])) _
    refine st102.trans ?_
    show Steps p.tables e below (T102.setTop (mkF m 7 #[.val (.ref xa), .val (.ref xb)] [(.ref b101)])) _
    refine XS.aloadN X102.here hx rfl (hb hby d8_7) rfl rfl ?_
    show Steps p.tables e below (T102.setTop (mkF m 8 #[.val (.ref xa), .val (.ref xb)] [(.ref xa), (.ref b101)])) _
    refine st103 _ ?_
    show Steps p.tables e below (T103.setTop (mkF m 10 #[.val (.ref xa), .val (.ref xb)] [(.ref a103), (.ref xa), (.ref b101)])) _
    refine st104 _ ?_
    show Steps p.tables e below (T104.setTop (mkF m 13 #[.val (.ref xa), .val (.ref xb)] [(.ref xa), (.ref b101)])) _
    refine st106 _ ?_
    show Steps p.tables e below (T106.setTop (mkF m 16 #[.val (.ref xa), .val (.ref xb)] [(.ref xa), (.ref b101)])) _
    refine st115.trans ?_
    show Steps p.tables e below (T115.setTop (mkF m 19 #[.val (.ref xa), .val (.ref xb)] [(.ref b101)])) _
    refine st116 _ ?_
    show Steps p.tables e below (T116.setTop (mkF m 21 #[.val (.ref xa), .val (.ref xb)] [(.ref a116), (.ref b101)])) _
    refine st122.trans ?_
    show Steps p.tables e below (T122.setTop (mkF m 24 #[.val (.ref xa), .val (.ref xb)] [(.ref b101)])) _
    refine XS.aloadN X122.here hx rfl (hb hby d8_24) rfl rfl ?_
    show Steps p.tables e below (T122.setTop (mkF m 25 #[.val (.ref xa), .val (.ref xb)] [(.ref xb), (.ref b101)])) _
    refine st123 _ ?_
    show Steps p.tables e below (T123.setTop (mkF m 27 #[.val (.ref xa), .val (.ref xb)] [(.ref a123), (.ref xb), (.ref b101)])) _
    refine st124 _ ?_
    show Steps p.tables e below (T124.setTop (mkF m 30 #[.val (.ref xa), .val (.ref xb)] [(.ref xb), (.ref b101)])) _
    refine st126 _ ?_
    show Steps p.tables e below (T126.setTop (mkF m 33 #[.val (.ref xa), .val (.ref xb)] [(.ref xb), (.ref b101)])) _
    refine st135.trans ?_
    show Steps p.tables e below (T135.setTop (mkF m 36 #[.val (.ref xa), .val (.ref xb)] [(.ref b101)])) _
    refine st137.trans ?_
    show Steps p.tables e below (T137.setTop (mkF m 39 #[.val (.ref xa), .val (.ref xb)] [(.ref y137)])) _
    jvm_step X137.here [X137.here.top, hx, (hb hby d8_39), X137.method', Bd.returns, Value.isRef, FieldType.isReference]
    first | (intro acts; rw [hr _ acts rfl rfl rfl]) | rw [hr _ _ rfl rfl rfl]
    exact Steps.refl _
  · show QY Z cs h0 n0 _ T137.heap _
    rw [e137]
    exact ⟨_, rfl, N137, KK137, sz_y137, T137q⟩
def QE (Z : State) (x : Addr) (h0 : Heap) (n0 : Nat) (v : Option Value) (h : Heap) (L : List Loc) : Prop := v = none ∧ Fr n0 L ∧ Keep h0 h [x] ∧ Str Z h x []
theorem d3_0 : decode jdk_42_method_149_code 0 = .ok (.aload_n 0, 1) := by decide +kernel
theorem d3_1 : decode jdk_42_method_149_code 1 = .ok (.invokespecial 1, 3) := by decide +kernel
theorem d3_4 : decode jdk_42_method_149_code 4 = .ok (.iload_n 3, 1) := by decide +kernel
theorem d3_5 : decode jdk_42_method_149_code 5 = .ok (.ifCond .ne 22, 3) := by decide +kernel
theorem d3_8 : decode jdk_42_method_149_code 8 = .ok (.aload_n 0, 1) := by decide +kernel
theorem d3_9 : decode jdk_42_method_149_code 9 = .ok (.ldc 7, 2) := by decide +kernel
theorem d3_11 : decode jdk_42_method_149_code 11 = .ok (.getfield 9, 3) := by decide +kernel
theorem d3_14 : decode jdk_42_method_149_code 14 = .ok (.putfield 9, 3) := by decide +kernel
theorem d3_17 : decode jdk_42_method_149_code 17 = .ok (.aload_n 0, 1) := by decide +kernel
theorem d3_18 : decode jdk_42_method_149_code 18 = .ok (.ldc 7, 2) := by decide +kernel
theorem d3_20 : decode jdk_42_method_149_code 20 = .ok (.getfield 15, 3) := by decide +kernel
theorem d3_23 : decode jdk_42_method_149_code 23 = .ok (.putfield 15, 3) := by decide +kernel
theorem d3_26 : decode jdk_42_method_149_code 26 = .ok (.return_, 1) := by decide +kernel
theorem ef_RRIIN_6 (m : MethodId) (x0 : Addr) (x1 : Addr) (x2 : Int32) (x3 : Int32) : entryFrame m #[(.ref x0), (.ref x1), (.int x2), (.int x3), .null] 6 = mkF m 0 #[.val (.ref x0), .val (.ref x1), .val (.int x2), .val (.int x3), .val .null, .unset] [] := by first | (simp [entryFrame, mkF, argsToLocals, Value.category]; done) | rfl
set_option maxRecDepth 65536 in
set_option maxHeartbeats 40000000 in
theorem rm3 (l : Launch) (Z : State) (a0 : Array Value) (hw : ∀ d ∈ tables_1, d.before a0 Z = true) (ws : List Jvm.Cond) (x b : Addr) (p2 : Int32) (h0 : Heap) (n0 : Nat) (O0 : Old Z n0 h0) (E : Exa Z h0 x "java/lang/String") (F1 : Fld Z h0 x "java/lang/String" "value" "[B" .null) (F2 : Fld Z h0 x "java/lang/String" "coder" "B" (.int (0 : Int32))) (gx : n0 ≤ x) :
    MetFree l (⟨"java/lang/String", "<init>", "([CIILjava/lang/Void;)V"⟩ : MethodName) (head1 (Jvm.Cond.code (⟨"java/lang/String", "<init>", "([CIILjava/lang/Void;)V"⟩ : MethodName) jdk_42_method_149_code 6 none :: ws) ({ frames := 1, cells := 4, slots := 8, locals := 12 } : Room)) (fun a_ U => a_ = #[(.ref x), (.ref b), (.int p2), (.int (0 : Int32)), .null] ∧ Z.Warmed39 U.vm ∧ U.heap = h0 ∧ CHv Z consts_1 U.vm h0) (fun _ _ _ _ _ => True) (fun _ U o U' => ∃ v L, o = .returned v ∧ QE Z x h0 n0 v U'.heap L ∧ CHr Z consts_1 U.vm U.heap U'.vm U'.heap ∧ ReturnedEndW U o U' L ({ frames := 1, cells := 4, slots := 8, locals := 12 } : Room).cells ({ frames := 1, cells := 4, slots := 8, locals := 12 } : Room).slots) := by
  refine MetFree.of_bodySF (plainFor_of_name pn_0) hisR ?_
  intro p e s m args below meth c s₁ Bd hml0 hP hK
  obtain ⟨rfl, hZ, hh, hC⟩ := hP
  have hx := Bd.exec
  have hby := Bd.bytes
  have hml : c.maxLocals = 6 := hml0
  have hown : s.vm.findClass "java/lang/String" = some m.cls := findClass_of_methodNamed Bd.named
  have hnm := (name_of_methodNamed Bd.named Bd.method).1
  have X0 : Stand p l e ({ frames := 1, cells := 4, slots := 8, locals := 12 } : Room) (s.setVm s.vm) m #[(.ref x), (.ref b), (.int p2), (.int (0 : Int32)), .null] below meth c s₁ [] 0 0 := Stand.of_body Bd
  have e0 : s₁.heap = h0 := by rw [← hh, Bd.state]; rfl
  have N0 := Fr.nil n0
  have pre0 : ∀ tg, Steps p.tables e below (s₁.setTop (mkF m 0 #[.val (.ref x), .val (.ref b), .val (.int p2), .val (.int (0 : Int32)), .val .null, .unset] [])) tg → Steps p.tables e below (s₁.setTop (entryFrame m #[(.ref x), (.ref b), (.int p2), (.int (0 : Int32)), .null] 6)) tg := fun tg kq => castTop (ef_RRIIN_6 m x b p2 (0 : Int32)) kq
  have hS0 : s.Since s.vm h0.size := (State.WarmedH.refl s).since _
  have hk0 : h0.size ≤ h0.size := Nat.le_refl _
  have CR0 : CHr Z consts_1 s.vm h0 s.vm h0 := CHr.refl hC
  have sf : Safe Z consts_1 s.vm h0 x := own_safe0 hZ.alike E F1
  obtain ⟨T101, X101, e101, st101⟩ := initO X0 hx hZ hown (wi hw 15 rfl) (wi hw 16 rfl) (wi hw 17 rfl) e0 (g := (mkF m 1 #[.val (.ref x), .val (.ref b), .val (.int p2), .val (.int (0 : Int32)), .val .null, .unset] [(.ref x)])) rfl (by rw [hml]; rfl) rfl (hb hby d3_1) (by decide) (W := 0) (by show 2 * 0 + _ ≤ _; exact Nat.le_of_eq rfl) (by decide)
  obtain ⟨a102, T102, h102, k102, b102, kb102, X102, e102, E102, hS102, hk102, hZ102, hown102, lE102, lC102, lV102, lK102, la102, lb102, CS102, lL102, lne102, st102⟩ := ldcCH (s := s) (EL := consts_1) X101 hx hZ hown (wi hw 34 rfl) (fun d hd => hw d (own_strw d hd)) e101 hS0 hk0 (own_EW hw) (by decide) CR0.1 (vs := []) (z := (0 : Int32)) ⟨by decide, by decide⟩ (by decide) (by decide) (g := (mkF m 9 #[.val (.ref x), .val (.ref b), .val (.int p2), .val (.int (0 : Int32)), .val .null, .unset] [(.ref x)])) rfl (hb hby d3_9) (n := 0) (by decide) (by decide) (by decide) (by decide)
  have O102 := O0.ext E102
  have CR102 := CR0.trans CS102
  have KK102 : Keep h0 h102 [x] := (Keep.refl h0 [x]).ext E102
  have lcd102 : StrChars.Road.CodA ([] : List Int32) 0 (0 : Int32) [] := Or.inl ⟨rfl, rfl, rfl, by decide⟩
  have lhp102 : ∀ c ∈ ([] : List Int32), ¬ c < 0 ∧ ¬ (255 : Int32) < c := by decide
  obtain ⟨T103, X103, e103, st103⟩ := getF X102 hx hZ102 hown102 (host := "") (Or.inl (wi hw 32 rfl)) Via.refl e102 lV102 (g := (mkF m 11 #[.val (.ref x), .val (.ref b), .val (.int p2), .val (.int (0 : Int32)), .val .null, .unset] [(.ref a102), (.ref x)])) rfl rfl (hb hby d3_11)
  have fE_x_1_104 := (E.ext E102)
  have fString_value_1_105 := (F1.ext E102)
  obtain ⟨T106, h106, X106, e106, W106, st106⟩ := putF X103 hx hZ102 hown102 (host := "") (Or.inl (wi hw 32 rfl)) Via.refl e103 fString_value_1_105 fE_x_1_104 (Or.inr ⟨(wi hw 33 rfl), rfl, hnm⟩) (wi hw 5 rfl) (ty := (.array .byte)) (by decide) rfl rfl (g := (mkF m 14 #[.val (.ref x), .val (.ref b), .val (.int p2), .val (.int (0 : Int32)), .val .null, .unset] [(.ref b102), (.ref x)])) rfl rfl (hb hby d3_14)
  have Fw106 := fString_value_1_105.same W106
  have O106 := O102.wr W106 gx
  have CS106 := CHr.wr W106 (CS102.safe E.lt sf) CR102.1
  have CR106 := CR102.trans CS106
  have KK106 : Keep h0 h106 [x] := KK102.wr W106 (Or.inl (List.mem_of_getElem? (i := 0) rfl))
  have N106 := Fr.snoc X106 N0 gx
  obtain ⟨a107, T107, h107, k107, b107, kb107, X107, e107, E107, hS107, hk107, hZ107, hown107, lE107, lC107, lV107, lK107, la107, lb107, CS107, lL107, lne107, st107⟩ := ldcCH (s := s) (EL := consts_1) X106 hx hZ102 hown102 (wi hw 34 rfl) (fun d hd => hw d (own_strw d hd)) e106 hS102 (Nat.le_trans hk102 (Keep.of_wr W106).1) (own_EW hw) (by decide) CR106.1 (vs := []) (z := (0 : Int32)) ⟨by decide, by decide⟩ (by decide) (by decide) (g := (mkF m 18 #[.val (.ref x), .val (.ref b), .val (.int p2), .val (.int (0 : Int32)), .val .null, .unset] [(.ref x)])) rfl (hb hby d3_18) (n := 0) (by decide) (by decide) (by decide) (by decide)
  have O107 := O106.ext E107
  have CR107 := CR106.trans CS107
  have KK107 : Keep h0 h107 [x] := KK106.ext E107
  have lcd107 : StrChars.Road.CodA ([] : List Int32) 0 (0 : Int32) [] := Or.inl ⟨rfl, rfl, rfl, by decide⟩
  have lhp107 : ∀ c ∈ ([] : List Int32), ¬ c < 0 ∧ ¬ (255 : Int32) < c := by decide
  obtain ⟨T108, X108, e108, st108⟩ := getF X107 hx hZ107 hown107 (host := "") (Or.inl (wi hw 30 rfl)) Via.refl e107 lC107 (g := (mkF m 20 #[.val (.ref x), .val (.ref b), .val (.int p2), .val (.int (0 : Int32)), .val .null, .unset] [(.ref a107), (.ref x)])) rfl rfl (hb hby d3_20)
  have fE_x_3_109 := ((fE_x_1_104.wr W106).ext E107)
  have fString_coder_3_110 := (((F2.ext E102).other W106 (Or.inr (slot_ne (Or.inr (wi hw 31 rfl)) (Or.inr (wi hw 33 rfl)) (by decide) (t := .byte) (t' := (.array .byte)) (by decide) (by decide)))).ext E107)
  obtain ⟨T111, h111, X111, e111, W111, st111⟩ := putF X108 hx hZ107 hown107 (host := "") (Or.inl (wi hw 30 rfl)) Via.refl e108 fString_coder_3_110 fE_x_3_109 (Or.inr ⟨(wi hw 31 rfl), rfl, hnm⟩) (wi hw 5 rfl) (ty := .byte) (by decide) rfl rfl (g := (mkF m 23 #[.val (.ref x), .val (.ref b), .val (.int p2), .val (.int (0 : Int32)), .val .null, .unset] [(.int (0 : Int32)), (.ref x)])) rfl rfl (hb hby d3_23)
  have Fw111 := fString_coder_3_110.same W111
  have O111 := O107.wr W111 gx
  have CS111 := CHr.wr W111 (CS107.safe (fE_x_1_104.wr W106).lt (CS106.safe fE_x_1_104.lt (CS102.safe E.lt sf))) CR107.1
  have CR111 := CR107.trans CS111
  have KK111 : Keep h0 h111 [x] := KK107.wr W111 (Or.inl (List.mem_of_getElem? (i := 0) rfl))
  have N111 := Fr.snoc X111 N106 gx
  have fString_value_4_112 := ((Fw106.ext E107).other W111 (Or.inr (slot_ne (Or.inr (wi hw 33 rfl)) (Or.inr (wi hw 31 rfl)) (by decide) (t := (.array .byte)) (t' := .byte) (by decide) (by decide))))
  have fE_x_4_113 := (fE_x_3_109.wr W111)
  have fV_b102_4_114 := (((lK102.other W106 (Ne.symm (lne102 x (CS102.safe E.lt sf)).2)).ext E107).other W111 (Ne.symm (lne102 x (CS102.safe E.lt sf)).2))
  obtain ⟨fs, hr, hrun, hended, hREW⟩ := X111.leaveW hS107 (by rw [e111]; exact (Nat.le_trans hk107 (Keep.of_wr W111).1)) (v := none) (fun _ => rfl)
  refine ⟨_, _, pre0 _ ?_, hrun, hended, _, _, rfl, ?_, (by rw [hh]; show CHr Z consts_1 s.vm h0 T111.vm T111.heap; rw [e111]; exact CR111.trans (CHv.at X111 hZ107 (own_EW hw) CR111.1)), hREW.1, hREW.2.1, hREW.2.2.1, hREW.2.2.2.mono (by decide) (by decide)⟩
  · show Steps p.tables e below (s₁.setTop (mkF m 0 #[.val (.ref x), .val (.ref b), .val (.int p2), .val (.int (0 : Int32)), .val .null, .unset] [])) _
    refine XS.aloadN X0.here hx rfl (hb hby d3_0) rfl rfl ?_
    show Steps p.tables e below (s₁.setTop (mkF m 1 #[.val (.ref x), .val (.ref b), .val (.int p2), .val (.int (0 : Int32)), .val .null, .unset] [(.ref x)])) _
    refine st101 _ ?_
    show Steps p.tables e below (T101.setTop (mkF m 4 #[.val (.ref x), .val (.ref b), .val (.int p2), .val (.int (0 : Int32)), .val .null, .unset] [])) _
    refine XS.iloadN X101.here hx rfl (hb hby d3_4) rfl ?_
    show Steps p.tables e below (T101.setTop (mkF m 5 #[.val (.ref x), .val (.ref b), .val (.int p2), .val (.int (0 : Int32)), .val .null, .unset] [(.int (0 : Int32))])) _
    refine XS.ifNo X101.here hx rfl (hb hby d3_5) rfl ((if0 _ _).trans (teq (by decide : (0 : Int32) = (0 : Int32))).2) ?_
    show Steps p.tables e below (T101.setTop (mkF m 8 #[.val (.ref x), .val (.ref b), .val (.int p2), .val (.int (0 : Int32)), .val .null, .unset] [])) _
    refine XS.aloadN X101.here hx rfl (hb hby d3_8) rfl rfl ?_
    show Steps p.tables e below (T101.setTop (mkF m 9 #[.val (.ref x), .val (.ref b), .val (.int p2), .val (.int (0 : Int32)), .val .null, .unset] [(.ref x)])) _
    refine st102 _ ?_
    show Steps p.tables e below (T102.setTop (mkF m 11 #[.val (.ref x), .val (.ref b), .val (.int p2), .val (.int (0 : Int32)), .val .null, .unset] [(.ref a102), (.ref x)])) _
    refine st103 _ ?_
    show Steps p.tables e below (T103.setTop (mkF m 14 #[.val (.ref x), .val (.ref b), .val (.int p2), .val (.int (0 : Int32)), .val .null, .unset] [(.ref b102), (.ref x)])) _
    refine st106 _ ?_
    show Steps p.tables e below (T106.setTop (mkF m 17 #[.val (.ref x), .val (.ref b), .val (.int p2), .val (.int (0 : Int32)), .val .null, .unset] [])) _
    refine XS.aloadN X106.here hx rfl (hb hby d3_17) rfl rfl ?_
    show Steps p.tables e below (T106.setTop (mkF m 18 #[.val (.ref x), .val (.ref b), .val (.int p2), .val (.int (0 : Int32)), .val .null, .unset] [(.ref x)])) _
    refine st107 _ ?_
    show Steps p.tables e below (T107.setTop (mkF m 20 #[.val (.ref x), .val (.ref b), .val (.int p2), .val (.int (0 : Int32)), .val .null, .unset] [(.ref a107), (.ref x)])) _
    refine st108 _ ?_
    show Steps p.tables e below (T108.setTop (mkF m 23 #[.val (.ref x), .val (.ref b), .val (.int p2), .val (.int (0 : Int32)), .val .null, .unset] [(.int (0 : Int32)), (.ref x)])) _
    refine st111 _ ?_
    show Steps p.tables e below (T111.setTop (mkF m 26 #[.val (.ref x), .val (.ref b), .val (.int p2), .val (.int (0 : Int32)), .val .null, .unset] [])) _
    exact X111.returnOut hx Bd.returns (hb hby d3_26) hr
  · show QE Z x h0 n0 _ T111.heap _
    rw [e111]
    exact ⟨rfl, N111, KK111, ⟨_, _, _, _, fE_x_4_113, fString_value_4_112, Fw111, fV_b102_4_114, Or.inl ⟨rfl, rfl, rfl, by decide⟩, by decide, by decide⟩⟩
theorem d2_0 : decode jdk_42_method_3_code 0 = .ok (.aload_n 0, 1) := by decide +kernel
theorem d2_1 : decode jdk_42_method_3_code 1 = .ok (.aload_n 1, 1) := by decide +kernel
theorem d2_2 : decode jdk_42_method_3_code 2 = .ok (.iconst 0, 1) := by decide +kernel
theorem d2_3 : decode jdk_42_method_3_code 3 = .ok (.aload_n 1, 1) := by decide +kernel
theorem d2_4 : decode jdk_42_method_3_code 4 = .ok (.arraylength, 1) := by decide +kernel
theorem d2_5 : decode jdk_42_method_3_code 5 = .ok (.aconst_null, 1) := by decide +kernel
theorem d2_6 : decode jdk_42_method_3_code 6 = .ok (.invokespecial 27, 3) := by decide +kernel
theorem pd_18 : parseMethodDescriptor "([CIILjava/lang/Void;)V" = some ⟨[(.array .char), .int, .int, (.object "java/lang/Void")], none⟩ := by decide +kernel
theorem d2_9 : decode jdk_42_method_3_code 9 = .ok (.return_, 1) := by decide +kernel
set_option maxRecDepth 65536 in
set_option maxHeartbeats 40000000 in
theorem rm2 (l : Launch) (Z : State) (a0 : Array Value) (hw : ∀ d ∈ tables_1, d.before a0 Z = true) (ws : List Jvm.Cond) (x b : Addr) (kb : ClassId) (h0 : Heap) (n0 : Nat) (O0 : Old Z n0 h0) (E : Exa Z h0 x "java/lang/String") (F1 : Fld Z h0 x "java/lang/String" "value" "[B" .null) (F2 : Fld Z h0 x "java/lang/String" "coder" "B" (.int (0 : Int32))) (gx : n0 ≤ x) (K : Arv Z h0 b kb .char (0 : Int32) [] (.int (0 : Int32))) :
    MetFree l (⟨"java/lang/String", "<init>", "([C)V"⟩ : MethodName) (head1 (Jvm.Cond.code (⟨"java/lang/String", "<init>", "([C)V"⟩ : MethodName) jdk_42_method_3_code 2 none :: ws) ({ frames := 2, cells := 4, slots := 8, locals := 29 } : Room)) (fun a_ U => a_ = #[(.ref x), (.ref b)] ∧ Z.Warmed39 U.vm ∧ U.heap = h0 ∧ CHv Z consts_1 U.vm h0) (fun _ _ _ _ _ => True) (fun _ U o U' => ∃ v L, o = .returned v ∧ QE Z x h0 n0 v U'.heap L ∧ CHr Z consts_1 U.vm U.heap U'.vm U'.heap ∧ ReturnedEndW U o U' L ({ frames := 2, cells := 4, slots := 8, locals := 29 } : Room).cells ({ frames := 2, cells := 4, slots := 8, locals := 29 } : Room).slots) := by
  refine MetFree.of_bodySF (plainFor_of_name pn_0) hisR ?_
  intro p e s m args below meth c s₁ Bd hml0 hP hK
  obtain ⟨rfl, hZ, hh, hC⟩ := hP
  have hx := Bd.exec
  have hby := Bd.bytes
  have hml : c.maxLocals = 2 := hml0
  have hown : s.vm.findClass "java/lang/String" = some m.cls := findClass_of_methodNamed Bd.named
  have hnm := (name_of_methodNamed Bd.named Bd.method).1
  have X0 : Stand p l e ({ frames := 2, cells := 4, slots := 8, locals := 29 } : Room) (s.setVm s.vm) m #[(.ref x), (.ref b)] below meth c s₁ [] 0 0 := Stand.of_body Bd
  have e0 : s₁.heap = h0 := by rw [← hh, Bd.state]; rfl
  have N0 := Fr.nil n0
  have pre0 : ∀ tg, Steps p.tables e below (s₁.setTop (mkF m 0 #[.val (.ref x), .val (.ref b)] [])) tg → Steps p.tables e below (s₁.setTop (entryFrame m #[(.ref x), (.ref b)] 2)) tg := fun tg kq => castTop (ef_RR_2 m x b) kq
  have hS0 : s.Since s.vm h0.size := (State.WarmedH.refl s).since _
  have hk0 : h0.size ≤ h0.size := Nat.le_refl _
  have CR0 : CHr Z consts_1 s.vm h0 s.vm h0 := CHr.refl hC
  have sf : Safe Z consts_1 s.vm h0 x := own_safe0 hZ.alike E F1
  obtain ⟨cl_b_9, Ar_b_9, -, S_b_9, N_b_9, -, -⟩ := id (K)
  obtain ⟨_, _, ⟨T101, L101, k101, n101⟩, -, Xr101, hSr101, gr101, ⟨Lc101, hQ101, l101, y101, z101, CSr101⟩, st101⟩ := X0.specialBackS hx (y := (⟨"java/lang/String", "<init>", "([CIILjava/lang/Void;)V"⟩ : MethodName)) rfl hown (mvT hZ (wi hw 11 rfl)) (mvT hZ (wi hw 12 rfl)) (mvT hZ (wi hw 14 rfl)) (by decide) (backOfSH (W := 0) (rm3 l Z a0 hw [] x b (0 : Int32) h0 n0 O0 E F1 F2 gx) hZ (wi hw 14 rfl) (wi hw 6 rfl) (by decide) (by decide) (own_EW hw) CR0.1) (g := (mkF m 6 #[.val (.ref x), .val (.ref b)] [.null, (.int (0 : Int32)), (.int (0 : Int32)), (.ref b), (.ref x)])) rfl (by rw [hml]; rfl) (Steps.refl _) (a := x) (argsL := [(.ref b), (.int (0 : Int32)), (.int (0 : Int32)), .null]) (rest := []) (lenOf pd_18 rfl) rfl (by show 2 * 0 + _ ≤ _; exact Nat.le_of_eq rfl) (hb hby d2_6) (fun _ _ => ⟨rfl, e0, (by decide : 0 + 4 ≤ _), (by decide : 0 + 8 ≤ _)⟩)
  dsimp only [Pt.U, Pt.locs, Pt.cells, Pt.slots] at Xr101 l101 y101 z101 st101 hQ101 hSr101 gr101 CSr101
  subst l101 y101 z101
  obtain ⟨X101, hS101, hZ101, hown101⟩ := rebS hS0 (by rw [e0]; exact hk0) Xr101 hSr101 gr101 hZ hown
  obtain ⟨rfl, N101q, K101, T101q⟩ := hQ101
  obtain ⟨h101, e101⟩ : ∃ z, T101.heap = z := ⟨_, rfl⟩
  rw [e101] at K101 T101q
  rw [e101] at CSr101
  have O101 := O0.keep K101 (allS gx all0)
  have CS101 := CSr101
  have CR101 := CR0.trans CS101
  have KK101 : Keep h0 h101 [x] := (Keep.refl h0 [x]).trans K101 (allS (Or.inl (List.mem_of_getElem? (i := 0) rfl)) all0)
  rw [e101] at hS101
  have N101 := Fr.app N0 N101q
  obtain ⟨fs, hr, hrun, hended, hREW⟩ := X101.leaveW hS101 (by rw [e101]; exact (Nat.le_refl _)) (v := none) (fun _ => rfl)
  refine ⟨_, _, pre0 _ ?_, hrun, hended, _, _, rfl, ?_, (by rw [hh]; show CHr Z consts_1 s.vm h0 T101.vm T101.heap; rw [e101]; exact CR101.trans (CHv.at X101 hZ101 (own_EW hw) CR101.1)), hREW.1, hREW.2.1, hREW.2.2.1, hREW.2.2.2.mono (by decide) (by decide)⟩
  · show Steps p.tables e below (s₁.setTop (mkF m 0 #[.val (.ref x), .val (.ref b)] [])) _
    refine XS.aloadN X0.here hx rfl (hb hby d2_0) rfl rfl ?_
    show Steps p.tables e below (s₁.setTop (mkF m 1 #[.val (.ref x), .val (.ref b)] [(.ref x)])) _
    refine XS.aloadN X0.here hx rfl (hb hby d2_1) rfl rfl ?_
    show Steps p.tables e below (s₁.setTop (mkF m 2 #[.val (.ref x), .val (.ref b)] [(.ref b), (.ref x)])) _
    refine XS.iconst X0.here hx rfl (hb hby d2_2) ?_
    show Steps p.tables e below (s₁.setTop (mkF m 3 #[.val (.ref x), .val (.ref b)] [(.int (0 : Int32)), (.ref b), (.ref x)])) _
    refine XS.aloadN X0.here hx rfl (hb hby d2_3) rfl rfl ?_
    show Steps p.tables e below (s₁.setTop (mkF m 4 #[.val (.ref x), .val (.ref b)] [(.ref b), (.int (0 : Int32)), (.ref b), (.ref x)])) _
    refine X0.arraylength hx (by rw [e0]; exact Ar_b_9.1) (State.isArrayOf_alike hZ.alike Ar_b_9.2.1) (g := (mkF m 4 #[.val (.ref x), .val (.ref b)] [(.ref b), (.int (0 : Int32)), (.ref b), (.ref x)])) rfl rfl (hb hby d2_4) _ ?_
    rw [len_of S_b_9 N_b_9]
    show Steps p.tables e below (s₁.setTop (mkF m 5 #[.val (.ref x), .val (.ref b)] [(.int (0 : Int32)), (.int (0 : Int32)), (.ref b), (.ref x)])) _
    refine XS.aconstNull X0.here hx rfl (hb hby d2_5) ?_
    show Steps p.tables e below (s₁.setTop (mkF m 6 #[.val (.ref x), .val (.ref b)] [.null, (.int (0 : Int32)), (.int (0 : Int32)), (.ref b), (.ref x)])) _
    refine st101.trans ?_
    show Steps p.tables e below (T101.setTop (mkF m 9 #[.val (.ref x), .val (.ref b)] [])) _
    exact X101.returnOut hx Bd.returns (hb hby d2_9) hr
  · show QE Z x h0 n0 _ T101.heap _
    rw [e101]
    exact ⟨rfl, N101, KK101, T101q⟩
theorem d1_0 : decode method_3_code 0 = .ok (.iload_n 0, 1) := by decide +kernel
theorem d1_1 : decode method_3_code 1 = .ok (.ifCond .ne 14, 3) := by decide +kernel
theorem d1_4 : decode method_3_code 4 = .ok (.new 20, 3) := by decide +kernel
theorem d1_7 : decode method_3_code 7 = .ok (.dup, 1) := by decide +kernel
theorem d1_8 : decode method_3_code 8 = .ok (.iconst 0, 1) := by decide +kernel
theorem d1_9 : decode method_3_code 9 = .ok (.newarray .char, 2) := by decide +kernel
theorem d1_11 : decode method_3_code 11 = .ok (.invokespecial 33, 3) := by decide +kernel
theorem pd_19 : parseMethodDescriptor "([C)V" = some ⟨[(.array .char)], none⟩ := by decide +kernel
theorem d1_14 : decode method_3_code 14 = .ok (.areturn, 1) := by decide +kernel
theorem d1_15 : decode method_3_code 15 = .ok (.iload_n 0, 1) := by decide +kernel
theorem d1_16 : decode method_3_code 16 = .ok (.iconst 1, 1) := by decide +kernel
theorem d1_17 : decode method_3_code 17 = .ok (.if_icmp .ne 18, 3) := by decide +kernel
theorem d1_20 : decode method_3_code 20 = .ok (.new 20, 3) := by decide +kernel
theorem d1_23 : decode method_3_code 23 = .ok (.dup, 1) := by decide +kernel
theorem d1_24 : decode method_3_code 24 = .ok (.iconst 1, 1) := by decide +kernel
theorem d1_25 : decode method_3_code 25 = .ok (.newarray .char, 2) := by decide +kernel
theorem d1_27 : decode method_3_code 27 = .ok (.dup, 1) := by decide +kernel
theorem d1_28 : decode method_3_code 28 = .ok (.iconst 0, 1) := by decide +kernel
theorem d1_29 : decode method_3_code 29 = .ok (.iload_n 1, 1) := by decide +kernel
theorem d1_30 : decode method_3_code 30 = .ok (.castore, 1) := by decide +kernel
theorem d1_31 : decode method_3_code 31 = .ok (.invokespecial 33, 3) := by decide +kernel
theorem own_w_backV : ∀ d ∈ StrChars.Road.words, d ∈ tables_1 := by decide +kernel
theorem d1_34 : decode method_3_code 34 = .ok (.areturn, 1) := by decide +kernel
theorem d1_35 : decode method_3_code 35 = .ok (.iload_n 0, 1) := by decide +kernel
theorem d1_36 : decode method_3_code 36 = .ok (.iconst 2, 1) := by decide +kernel
theorem d1_37 : decode method_3_code 37 = .ok (.if_icmp .ne 22, 3) := by decide +kernel
theorem d1_40 : decode method_3_code 40 = .ok (.new 20, 3) := by decide +kernel
theorem d1_43 : decode method_3_code 43 = .ok (.dup, 1) := by decide +kernel
theorem d1_44 : decode method_3_code 44 = .ok (.iconst 2, 1) := by decide +kernel
theorem d1_45 : decode method_3_code 45 = .ok (.newarray .char, 2) := by decide +kernel
theorem d1_47 : decode method_3_code 47 = .ok (.dup, 1) := by decide +kernel
theorem d1_48 : decode method_3_code 48 = .ok (.iconst 0, 1) := by decide +kernel
theorem d1_49 : decode method_3_code 49 = .ok (.iload_n 1, 1) := by decide +kernel
theorem d1_50 : decode method_3_code 50 = .ok (.castore, 1) := by decide +kernel
theorem d1_51 : decode method_3_code 51 = .ok (.dup, 1) := by decide +kernel
theorem d1_52 : decode method_3_code 52 = .ok (.iconst 1, 1) := by decide +kernel
theorem d1_53 : decode method_3_code 53 = .ok (.iload_n 2, 1) := by decide +kernel
theorem d1_54 : decode method_3_code 54 = .ok (.castore, 1) := by decide +kernel
theorem d1_55 : decode method_3_code 55 = .ok (.invokespecial 33, 3) := by decide +kernel
theorem d1_58 : decode method_3_code 58 = .ok (.areturn, 1) := by decide +kernel
theorem d1_59 : decode method_3_code 59 = .ok (.new 20, 3) := by decide +kernel
theorem d1_62 : decode method_3_code 62 = .ok (.dup, 1) := by decide +kernel
theorem d1_63 : decode method_3_code 63 = .ok (.iconst 3, 1) := by decide +kernel
theorem d1_64 : decode method_3_code 64 = .ok (.newarray .char, 2) := by decide +kernel
theorem d1_66 : decode method_3_code 66 = .ok (.dup, 1) := by decide +kernel
theorem d1_67 : decode method_3_code 67 = .ok (.iconst 0, 1) := by decide +kernel
theorem d1_68 : decode method_3_code 68 = .ok (.iload_n 1, 1) := by decide +kernel
theorem d1_69 : decode method_3_code 69 = .ok (.castore, 1) := by decide +kernel
theorem d1_70 : decode method_3_code 70 = .ok (.dup, 1) := by decide +kernel
theorem d1_71 : decode method_3_code 71 = .ok (.iconst 1, 1) := by decide +kernel
theorem d1_72 : decode method_3_code 72 = .ok (.iload_n 2, 1) := by decide +kernel
theorem d1_73 : decode method_3_code 73 = .ok (.castore, 1) := by decide +kernel
theorem d1_74 : decode method_3_code 74 = .ok (.dup, 1) := by decide +kernel
theorem d1_75 : decode method_3_code 75 = .ok (.iconst 2, 1) := by decide +kernel
theorem d1_76 : decode method_3_code 76 = .ok (.iload_n 3, 1) := by decide +kernel
theorem d1_77 : decode method_3_code 77 = .ok (.castore, 1) := by decide +kernel
theorem d1_78 : decode method_3_code 78 = .ok (.invokespecial 33, 3) := by decide +kernel
theorem d1_81 : decode method_3_code 81 = .ok (.areturn, 1) := by decide +kernel
theorem ef_IIII_4 (m : MethodId) (x0 : Int32) (x1 : Int32) (x2 : Int32) (x3 : Int32) : entryFrame m #[(.int x0), (.int x1), (.int x2), (.int x3)] 4 = mkF m 0 #[.val (.int x0), .val (.int x1), .val (.int x2), .val (.int x3)] [] := by first | (simp [entryFrame, mkF, argsToLocals, Value.category]; done) | rfl
theorem pn_6 : plainName "com/example/postback/postback/aurpay/AurpaySignatureSignedStringPinLaw" = true := by first | (simp [plainName, overriddenIn]; done) | decide +kernel
set_option maxRecDepth 65536 in
set_option maxHeartbeats 40000000 in
theorem rmM_0 (l : Launch) (Z : State) (a0 : Array Value) (hw : ∀ d ∈ tables_1, d.before a0 Z = true) (ws : List Jvm.Cond) (c0 c1 c2 G1 : Int32) (h0 : Heap) (n0 : Nat) (O0 : Old Z n0 h0) (S_CS : Sta Z Z.heap "java/lang/String" "COMPACT_STRINGS" "Z" (.int G1)) (hG1 : ¬ (G1 = (0 : Int32))) (hr0 : ¬ c0 < 0 ∧ ¬ (255 : Int32) < c0) (hr1 : ¬ c1 < 0 ∧ ¬ (255 : Int32) < c1) (hr2 : ¬ c2 < 0 ∧ ¬ (255 : Int32) < c2) :
    MetFree l (⟨"com/example/postback/postback/aurpay/AurpaySignatureSignedStringPinLaw", "make", "(ICCC)Ljava/lang/String;"⟩ : MethodName) (head1 (Jvm.Cond.code (⟨"com/example/postback/postback/aurpay/AurpaySignatureSignedStringPinLaw", "make", "(ICCC)Ljava/lang/String;"⟩ : MethodName) method_3_code 4 (some (.object "java/lang/String")) :: ws) ({ frames := 4, cells := 6, slots := 12, locals := 66 } : Room)) (fun a_ U => a_ = #[(.int (0 : Int32)), (.int c0), (.int c1), (.int c2)] ∧ Z.Warmed39 U.vm ∧ U.heap = h0 ∧ CHv Z consts_1 U.vm h0) (fun _ _ _ _ _ => True) (fun _ U o U' => ∃ v L, o = .returned v ∧ QY Z ([] : List Int32) h0 n0 v U'.heap L ∧ CHr Z consts_1 U.vm U.heap U'.vm U'.heap ∧ ReturnedEndW U o U' L ({ frames := 4, cells := 6, slots := 12, locals := 66 } : Room).cells ({ frames := 4, cells := 6, slots := 12, locals := 66 } : Room).slots) := by
  refine MetFree.of_bodySF (plainFor_of_name pn_6) hisR ?_
  intro p e s m args below meth c s₁ Bd hml0 hP hK
  obtain ⟨rfl, hZ, hh, hC⟩ := hP
  have hx := Bd.exec
  have hby := Bd.bytes
  have hml : c.maxLocals = 4 := hml0
  have hown : s.vm.findClass "com/example/postback/postback/aurpay/AurpaySignatureSignedStringPinLaw" = some m.cls := findClass_of_methodNamed Bd.named
  have hnm := (name_of_methodNamed Bd.named Bd.method).1
  have X0 : Stand p l e ({ frames := 4, cells := 6, slots := 12, locals := 66 } : Room) (s.setVm s.vm) m #[(.int (0 : Int32)), (.int c0), (.int c1), (.int c2)] below meth c s₁ [] 0 0 := Stand.of_body Bd
  have e0 : s₁.heap = h0 := by rw [← hh, Bd.state]; rfl
  have N0 := Fr.nil n0
  have pre0 : ∀ tg, Steps p.tables e below (s₁.setTop (mkF m 0 #[.val (.int (0 : Int32)), .val (.int c0), .val (.int c1), .val (.int c2)] [])) tg → Steps p.tables e below (s₁.setTop (entryFrame m #[(.int (0 : Int32)), (.int c0), (.int c1), (.int c2)] 4)) tg := fun tg kq => castTop (ef_IIII_4 m (0 : Int32) c0 c1 c2) kq
  have hS0 : s.Since s.vm h0.size := (State.WarmedH.refl s).since _
  have hk0 : h0.size ≤ h0.size := Nat.le_refl _
  have CR0 : CHr Z consts_1 s.vm h0 s.vm h0 := CHr.refl hC
  obtain ⟨T101, h101, X101, e101, E101, A101, D101, -, st101⟩ := newO X0 hx hZ hown (wi hw 4 rfl) (wi hw 5 rfl) (wi hw 6 rfl) e0 (g := (mkF m 4 #[.val (.int (0 : Int32)), .val (.int c0), .val (.int c1), .val (.int c2)] [])) rfl (hb hby d1_4) (by decide) (by decide)
  obtain ⟨b101, g101⟩ : ∃ z, z = h0.size := ⟨_, rfl⟩
  rw [← g101] at A101 D101 st101
  have g_b101 : n0 ≤ b101 := Nat.le_trans (O0.1 ▸ O0.2.1) (Nat.le_of_eq g101.symm)
  have sz_b101 : h0.size ≤ b101 := Nat.le_trans (Nat.le_refl _) (Nat.le_of_eq g101.symm)
  have O101 := O0.ext E101
  have CS101 := CHr.ext E101 CR0.1
  have CR101 := CR0.trans CS101
  have KK101 : Keep h0 h101 [] := (Keep.refl h0 []).ext E101
  have sf_b101 : Safe Z consts_1 s.vm h101 b101 := Safe.ext E101 CR0.1 (Safe.new (Nat.le_of_eq g101.symm))
  have F_coder_b101 : Fld Z h101 b101 "java/lang/String" "coder" "B" (.int (0 : Int32)) := D101 (Or.inr (wi hw 31 rfl)) (ty := .byte) (by decide)
  have F_value_b101 : Fld Z h101 b101 "java/lang/String" "value" "[B" .null := D101 (Or.inr (wi hw 33 rfl)) (ty := (.array .byte)) (by decide)
  obtain ⟨T102, h102, k102, X102, e102, E102, A102, st102⟩ := newP X101 hx hZ (wi hw 7 rfl) e101 (g := (mkF m 9 #[.val (.int (0 : Int32)), .val (.int c0), .val (.int c1), .val (.int c2)] [(.int (0 : Int32)), (.ref b101), (.ref b101)])) rfl (hb hby d1_9) rfl (by decide) (cap := 0) (by decide) (by decide) (by decide) (by decide)
  obtain ⟨b102, g102⟩ : ∃ z, z = h101.size := ⟨_, rfl⟩
  rw [← g102] at A102 st102
  have g_b102 : n0 ≤ b102 := Nat.le_trans (O101.1 ▸ O101.2.1) (Nat.le_of_eq g102.symm)
  have sz_b102 : h0.size ≤ b102 := Nat.le_trans KK101.1 (Nat.le_of_eq g102.symm)
  have O102 := O101.ext E102
  have CS102 := CHr.ext E102 CR101.1
  have CR102 := CR101.trans CS102
  have KK102 : Keep h0 h102 [] := KK101.ext E102
  have V_b102 : Arv Z h102 b102 k102 .char (0 : Int32) [] (.int (0 : Int32)) := (Arv.new A102 (by decide)).pad (pad_rep [] (.int (0 : Int32)) 0)
  have fE_b101_2_104 := (A101.ext E102)
  have fString_value_2_105 := (F_value_b101.ext E102)
  have fString_coder_2_106 := (F_coder_b101.ext E102)
  obtain ⟨_, _, ⟨T107, L107, k107, n107⟩, -, Xr107, hSr107, gr107, ⟨Lc107, hQ107, l107, y107, z107, CSr107⟩, st107⟩ := X102.specialBackS hx (y := (⟨"java/lang/String", "<init>", "([C)V"⟩ : MethodName)) rfl hown (mvT hZ (wi hw 8 rfl)) (mvT hZ (wi hw 9 rfl)) (mvT hZ (wi hw 10 rfl)) (by decide) (backOfSH (W := 1) (rm2 l Z a0 hw [] b101 b102 _ h102 n0 O102 fE_b101_2_104 fString_value_2_105 fString_coder_2_106 g_b101 V_b102) hZ (wi hw 10 rfl) (wi hw 6 rfl) (by decide) (by decide) (own_EW hw) CR102.1) (g := (mkF m 11 #[.val (.int (0 : Int32)), .val (.int c0), .val (.int c1), .val (.int c2)] [(.ref b102), (.ref b101), (.ref b101)])) rfl (by rw [hml]; rfl) (Steps.refl _) (a := b101) (argsL := [(.ref b102)]) (rest := [(.ref b101)]) (lenOf pd_19 rfl) rfl (by show 2 * 0 + _ ≤ _; exact Nat.le_of_eq rfl) (hb hby d1_11) (fun _ _ => ⟨rfl, e102, (by decide : 2 + 4 ≤ _), (by decide : 4 + 8 ≤ _)⟩)
  dsimp only [Pt.U, Pt.locs, Pt.cells, Pt.slots] at Xr107 l107 y107 z107 st107 hQ107 hSr107 gr107 CSr107
  subst l107 y107 z107
  obtain ⟨X107, hS107, hZ107, hown107⟩ := rebS hS0 (by rw [e102]; exact (Nat.le_trans (Nat.le_trans hk0 E101.1) E102.1)) Xr107 hSr107 gr107 hZ hown
  obtain ⟨rfl, N107q, K107, T107q⟩ := hQ107
  obtain ⟨h107, e107⟩ : ∃ z, T107.heap = z := ⟨_, rfl⟩
  rw [e107] at K107 T107q
  obtain ⟨te103, kbe103, Ne103, vse103, sEe103, sVe103, sCe103, sKe103, scde103, shpe103, shle103⟩ := id T107q
  rw [e107] at CSr107
  have O107 := O102.keep K107 (allS g_b101 all0)
  have CS107 := CSr107
  have CR107 := CR102.trans CS107
  have KK107 : Keep h0 h107 [] := KK102.trans K107 (allS (Or.inr sz_b101) all0)
  rw [e107] at hS107
  have N107 := Fr.app N0 N107q
  obtain ⟨fs, hr, hrun, hended, hREW⟩ := X107.leaveW hS107 (by rw [e107]; exact (Nat.le_refl _)) (v := some (.ref b101)) (fun h => by rw [Bd.returns] at h; cases h)
  refine ⟨_, _, pre0 _ ?_, hrun, hended, _, _, rfl, ?_, (by rw [hh]; show CHr Z consts_1 s.vm h0 T107.vm T107.heap; rw [e107]; exact CR107.trans (CHv.at X107 hZ107 (own_EW hw) CR107.1)), hREW.1, hREW.2.1, hREW.2.2.1, hREW.2.2.2.mono (by decide) (by decide)⟩
  · show Steps p.tables e below (s₁.setTop (mkF m 0 #[.val (.int (0 : Int32)), .val (.int c0), .val (.int c1), .val (.int c2)] [])) _
    refine XS.iloadN X0.here hx rfl (hb hby d1_0) rfl ?_
    show Steps p.tables e below (s₁.setTop (mkF m 1 #[.val (.int (0 : Int32)), .val (.int c0), .val (.int c1), .val (.int c2)] [(.int (0 : Int32))])) _
    refine XS.ifNo X0.here hx rfl (hb hby d1_1) rfl ((if0 _ _).trans (teq (by decide : (0 : Int32) = (0 : Int32))).2) ?_
    show Steps p.tables e below (s₁.setTop (mkF m 4 #[.val (.int (0 : Int32)), .val (.int c0), .val (.int c1), .val (.int c2)] [])) _
    refine st101 _ ?_
    show Steps p.tables e below (T101.setTop (mkF m 7 #[.val (.int (0 : Int32)), .val (.int c0), .val (.int c1), .val (.int c2)] [(.ref b101)])) _
    refine XS.dup X101.here hx rfl (hb hby d1_7) rfl rfl ?_
    show Steps p.tables e below (T101.setTop (mkF m 8 #[.val (.int (0 : Int32)), .val (.int c0), .val (.int c1), .val (.int c2)] [(.ref b101), (.ref b101)])) _
    refine XS.iconst X101.here hx rfl (hb hby d1_8) ?_
    show Steps p.tables e below (T101.setTop (mkF m 9 #[.val (.int (0 : Int32)), .val (.int c0), .val (.int c1), .val (.int c2)] [(.int (0 : Int32)), (.ref b101), (.ref b101)])) _
    refine st102 _ ?_
    show Steps p.tables e below (T102.setTop (mkF m 11 #[.val (.int (0 : Int32)), .val (.int c0), .val (.int c1), .val (.int c2)] [(.ref b102), (.ref b101), (.ref b101)])) _
    refine st107.trans ?_
    show Steps p.tables e below (T107.setTop (mkF m 14 #[.val (.int (0 : Int32)), .val (.int c0), .val (.int c1), .val (.int c2)] [(.ref b101)])) _
    jvm_step X107.here [X107.here.top, hx, (hb hby d1_14), X107.method', Bd.returns, Value.isRef, FieldType.isReference]
    first | (intro acts; rw [hr _ acts rfl rfl rfl]) | rw [hr _ _ rfl rfl rfl]
    exact Steps.refl _
  · show QY Z ([] : List Int32) h0 n0 _ T107.heap _
    rw [e107]
    exact ⟨_, rfl, N107, KK107, sz_b101, ⟨_, _, _, _, sEe103, sVe103, sCe103, sKe103, scde103, shpe103, shle103⟩⟩
set_option maxRecDepth 65536 in
set_option maxHeartbeats 40000000 in
theorem rmM_1 (l : Launch) (Z : State) (a0 : Array Value) (hw : ∀ d ∈ tables_1, d.before a0 Z = true) (ws : List Jvm.Cond) (c0 c1 c2 G1 : Int32) (h0 : Heap) (n0 : Nat) (O0 : Old Z n0 h0) (S_CS : Sta Z Z.heap "java/lang/String" "COMPACT_STRINGS" "Z" (.int G1)) (hG1 : ¬ (G1 = (0 : Int32))) (hr0 : ¬ c0 < 0 ∧ ¬ (255 : Int32) < c0) (hr1 : ¬ c1 < 0 ∧ ¬ (255 : Int32) < c1) (hr2 : ¬ c2 < 0 ∧ ¬ (255 : Int32) < c2) :
    MetFree l (⟨"com/example/postback/postback/aurpay/AurpaySignatureSignedStringPinLaw", "make", "(ICCC)Ljava/lang/String;"⟩ : MethodName) (head1 (Jvm.Cond.code (⟨"com/example/postback/postback/aurpay/AurpaySignatureSignedStringPinLaw", "make", "(ICCC)Ljava/lang/String;"⟩ : MethodName) method_3_code 4 (some (.object "java/lang/String")) :: ws) ({ frames := 4, cells := 6, slots := 12, locals := 66 } : Room)) (fun a_ U => a_ = #[(.int (1 : Int32)), (.int c0), (.int c1), (.int c2)] ∧ Z.Warmed39 U.vm ∧ U.heap = h0 ∧ CHv Z consts_1 U.vm h0) (fun _ _ _ _ _ => True) (fun _ U o U' => ∃ v L, o = .returned v ∧ QY Z ([c0] : List Int32) h0 n0 v U'.heap L ∧ CHr Z consts_1 U.vm U.heap U'.vm U'.heap ∧ ReturnedEndW U o U' L ({ frames := 4, cells := 6, slots := 12, locals := 66 } : Room).cells ({ frames := 4, cells := 6, slots := 12, locals := 66 } : Room).slots) := by
  refine MetFree.of_bodySF (plainFor_of_name pn_6) hisR ?_
  intro p e s m args below meth c s₁ Bd hml0 hP hK
  obtain ⟨rfl, hZ, hh, hC⟩ := hP
  have hx := Bd.exec
  have hby := Bd.bytes
  have hml : c.maxLocals = 4 := hml0
  have hown : s.vm.findClass "com/example/postback/postback/aurpay/AurpaySignatureSignedStringPinLaw" = some m.cls := findClass_of_methodNamed Bd.named
  have hnm := (name_of_methodNamed Bd.named Bd.method).1
  have X0 : Stand p l e ({ frames := 4, cells := 6, slots := 12, locals := 66 } : Room) (s.setVm s.vm) m #[(.int (1 : Int32)), (.int c0), (.int c1), (.int c2)] below meth c s₁ [] 0 0 := Stand.of_body Bd
  have e0 : s₁.heap = h0 := by rw [← hh, Bd.state]; rfl
  have N0 := Fr.nil n0
  have pre0 : ∀ tg, Steps p.tables e below (s₁.setTop (mkF m 0 #[.val (.int (1 : Int32)), .val (.int c0), .val (.int c1), .val (.int c2)] [])) tg → Steps p.tables e below (s₁.setTop (entryFrame m #[(.int (1 : Int32)), (.int c0), (.int c1), (.int c2)] 4)) tg := fun tg kq => castTop (ef_IIII_4 m (1 : Int32) c0 c1 c2) kq
  have hS0 : s.Since s.vm h0.size := (State.WarmedH.refl s).since _
  have hk0 : h0.size ≤ h0.size := Nat.le_refl _
  have CR0 : CHr Z consts_1 s.vm h0 s.vm h0 := CHr.refl hC
  obtain ⟨T101, h101, X101, e101, E101, A101, D101, -, st101⟩ := newO X0 hx hZ hown (wi hw 4 rfl) (wi hw 5 rfl) (wi hw 6 rfl) e0 (g := (mkF m 20 #[.val (.int (1 : Int32)), .val (.int c0), .val (.int c1), .val (.int c2)] [])) rfl (hb hby d1_20) (by decide) (by decide)
  obtain ⟨b101, g101⟩ : ∃ z, z = h0.size := ⟨_, rfl⟩
  rw [← g101] at A101 D101 st101
  have g_b101 : n0 ≤ b101 := Nat.le_trans (O0.1 ▸ O0.2.1) (Nat.le_of_eq g101.symm)
  have sz_b101 : h0.size ≤ b101 := Nat.le_trans (Nat.le_refl _) (Nat.le_of_eq g101.symm)
  have O101 := O0.ext E101
  have CS101 := CHr.ext E101 CR0.1
  have CR101 := CR0.trans CS101
  have KK101 : Keep h0 h101 [] := (Keep.refl h0 []).ext E101
  have sf_b101 : Safe Z consts_1 s.vm h101 b101 := Safe.ext E101 CR0.1 (Safe.new (Nat.le_of_eq g101.symm))
  have F_coder_b101 : Fld Z h101 b101 "java/lang/String" "coder" "B" (.int (0 : Int32)) := D101 (Or.inr (wi hw 31 rfl)) (ty := .byte) (by decide)
  have F_value_b101 : Fld Z h101 b101 "java/lang/String" "value" "[B" .null := D101 (Or.inr (wi hw 33 rfl)) (ty := (.array .byte)) (by decide)
  obtain ⟨T102, h102, k102, X102, e102, E102, A102, st102⟩ := newP X101 hx hZ (wi hw 7 rfl) e101 (g := (mkF m 25 #[.val (.int (1 : Int32)), .val (.int c0), .val (.int c1), .val (.int c2)] [(.int (1 : Int32)), (.ref b101), (.ref b101)])) rfl (hb hby d1_25) rfl (by decide) (cap := 1) (by decide) (by decide) (by decide) (by decide)
  obtain ⟨b102, g102⟩ : ∃ z, z = h101.size := ⟨_, rfl⟩
  rw [← g102] at A102 st102
  have g_b102 : n0 ≤ b102 := Nat.le_trans (O101.1 ▸ O101.2.1) (Nat.le_of_eq g102.symm)
  have sz_b102 : h0.size ≤ b102 := Nat.le_trans KK101.1 (Nat.le_of_eq g102.symm)
  have O102 := O101.ext E102
  have CS102 := CHr.ext E102 CR101.1
  have CR102 := CR101.trans CS102
  have KK102 : Keep h0 h102 [] := KK101.ext E102
  have V_b102 : Arv Z h102 b102 k102 .char (1 : Int32) [(.int (0 : Int32))] (.int (0 : Int32)) := (Arv.new A102 (by decide)).pad (pad_rep [] (.int (0 : Int32)) 1)
  obtain ⟨cl_b102_25, Ar_b102_25, q_b102_25, S_b102_25, N_b102_25, H_b102_25, G_b102_25⟩ := id (V_b102)
  have hinb102_25 : ¬ ((0 : Int32) < 0 ∨ cl_b102_25.slots.size ≤ ((0 : Int32)).toNatClampNeg) := inb_of S_b102_25 ⟨by decide, by decide⟩
  obtain ⟨T103, h103, X103, e103, W103, st103⟩ := stC X102 hx hZ e102 Ar_b102_25 (j := (0 : Int32)) hinb102_25 (g := (mkF m 30 #[.val (.int (1 : Int32)), .val (.int c0), .val (.int c1), .val (.int c2)] [(.int c0), (.int (0 : Int32)), (.ref b102), (.ref b102), (.ref b101), (.ref b101)])) rfl rfl (hb hby d1_30)
  have V_b102_103 : Arv Z h103 b102 k102 .char (1 : Int32) [(.int (nar .char c0))] (.int (0 : Int32)) := Arv.set Ar_b102_25 q_b102_25 S_b102_25 N_b102_25 H_b102_25 G_b102_25 (fits_nar_char _) W103 0 rfl (Nat.le_of_ble_eq_true rfl)
  have V_b102_103' : Arv Z h103 b102 k102 .char (1 : Int32) [(.int c0)] (.int (0 : Int32)) := by have q := V_b102_103; rw [own_nar hr0] at q; exact q
  have O103 := O102.wr W103 g_b102
  have CS103 := CHr.wr W103 (Safe.arv hZ.alike V_b102 (by decide)) CR102.1
  have CR103 := CR102.trans CS103
  have KK103 : Keep h0 h103 [] := KK102.wr W103 (Or.inr sz_b102)
  have N103 := Fr.snoc X103 N0 g_b102
  have shp104 : ∀ c ∈ ([c0] : List Int32), ¬ c < 0 ∧ ¬ (255 : Int32) < c := (own_memS hr0 own_mem0)
  have sA104 : Arv Z h103 b102 k102 .char (1 : Int32) (([c0] : List Int32).map Value.int) (.int (0 : Int32)) := V_b102_103'
  have fE_b101_3_105 := ((A101.ext E102).wr W103)
  have fString_value_3_106 := ((F_value_b101.ext E102).other W103 (Or.inl (Nat.ne_of_lt (Nat.lt_of_lt_of_le A101.lt (Nat.le_of_eq g102.symm)))))
  have fString_coder_3_107 := ((F_coder_b101.ext E102).other W103 (Or.inl (Nat.ne_of_lt (Nat.lt_of_lt_of_le A101.lt (Nat.le_of_eq g102.symm)))))
  obtain ⟨_, _, ⟨T108, L108, k108, n108⟩, -, X108, ⟨Lc108, hQ108, l108, y108, z108⟩, st108⟩ := X103.specialBack hx (y := (⟨"java/lang/String", "<init>", "([C)V"⟩ : MethodName)) rfl hown (mvT hZ (wi hw 8 rfl)) (mvT hZ (wi hw 9 rfl)) (mvT hZ (wi hw 10 rfl)) (by decide) (StrChars.Road.backV (W := 1) hZ (fun d hd => hw d (own_w_backV d hd)) (kI := 4) (wi hw 5 rfl) (cs := ([c0] : List Int32)) (bs := ([c0] : List Int32).map (fun c => c.toInt8.toInt32)) (n := 1) g_b101 (O103.1 ▸ O103.2.1) fE_b101_3_105 fString_value_3_106 fString_coder_3_107 sA104 (S_CS.ext O103.2) hG1 rfl rfl (by decide) (by decide) shp104 rfl (by decide) (by decide)) (g := (mkF m 31 #[.val (.int (1 : Int32)), .val (.int c0), .val (.int c1), .val (.int c2)] [(.ref b102), (.ref b101), (.ref b101)])) rfl (by rw [hml]; rfl) (Steps.refl _) (a := b101) (argsL := [(.ref b102)]) (rest := [(.ref b101)]) (lenOf pd_19 rfl) rfl (by show 2 * 0 + _ ≤ _; exact Nat.le_of_eq rfl) (hb hby d1_31) (fun _ _ => ⟨rfl, e103, (by decide : 2 + 1 ≤ _), (by decide : 5 + 1 ≤ _)⟩)
  dsimp only [Pt.U, Pt.locs, Pt.cells, Pt.slots] at X108 l108 y108 z108 st108 hQ108
  subst l108 y108 z108
  obtain ⟨rfl, N108q, K108, sE104, sC104, t104, kb104, sg104, ssz104, sne104, sV104, sK104⟩ := hQ108
  obtain ⟨h108, e108⟩ : ∃ z, T108.heap = z := ⟨_, rfl⟩
  rw [e108] at K108 sE104 sC104 sV104 sK104
  have g_t104 : n0 ≤ t104 := Nat.le_trans (O103.1 ▸ O103.2.1) ssz104
  have sz_t104 : h0.size ≤ t104 := Nat.le_trans KK103.1 ssz104
  have O108 := O103.keep K108 (allS g_b101 all0)
  have CS108 := CHr.keep K108 (sfS (CS103.safe (A101.ext E102).lt (CS102.safe A101.lt sf_b101)) sf0) CR103.1
  have CR108 := CR103.trans CS108
  have KK108 : Keep h0 h108 [] := KK103.trans K108 (allS (Or.inr sz_b101) all0)
  have N108 := Fr.app N103 N108q
  have scd104 : StrChars.Road.CodA ([c0] : List Int32) 0 (1 : Int32) ((([c0] : List Int32).map (fun c => c.toInt8.toInt32)).map Value.int) := StrChars.Road.codOf (n := 1) rfl (fun c hc => (shp104 c hc).2)
  obtain ⟨fs, hr, hrun, hended, hREW⟩ := X108.leaveW hS0 (by rw [e108]; exact (Nat.le_trans (Nat.le_trans (Nat.le_trans (Nat.le_trans hk0 E101.1) E102.1) (Keep.of_wr W103).1) K108.1)) (v := some (.ref b101)) (fun h => by rw [Bd.returns] at h; cases h)
  refine ⟨_, _, pre0 _ ?_, hrun, hended, _, _, rfl, ?_, (by rw [hh]; show CHr Z consts_1 s.vm h0 T108.vm T108.heap; rw [e108]; exact CR108.trans (CHv.at X108 hZ (own_EW hw) CR108.1)), hREW.1, hREW.2.1, hREW.2.2.1, hREW.2.2.2.mono (by decide) (by decide)⟩
  · show Steps p.tables e below (s₁.setTop (mkF m 0 #[.val (.int (1 : Int32)), .val (.int c0), .val (.int c1), .val (.int c2)] [])) _
    refine XS.iloadN X0.here hx rfl (hb hby d1_0) rfl ?_
    show Steps p.tables e below (s₁.setTop (mkF m 1 #[.val (.int (1 : Int32)), .val (.int c0), .val (.int c1), .val (.int c2)] [(.int (1 : Int32))])) _
    refine XS.ifYes X0.here hx rfl (pc0 := 1) (pc' := 15) rfl (hb hby d1_1) rfl ((if0 _ _).trans (feq (by decide : ¬ ((1 : Int32) = (0 : Int32)))).2) (by decide) (by decide) ?_
    show Steps p.tables e below (s₁.setTop (mkF m 15 #[.val (.int (1 : Int32)), .val (.int c0), .val (.int c1), .val (.int c2)] [])) _
    refine XS.iloadN X0.here hx rfl (hb hby d1_15) rfl ?_
    show Steps p.tables e below (s₁.setTop (mkF m 16 #[.val (.int (1 : Int32)), .val (.int c0), .val (.int c1), .val (.int c2)] [(.int (1 : Int32))])) _
    refine XS.iconst X0.here hx rfl (hb hby d1_16) ?_
    show Steps p.tables e below (s₁.setTop (mkF m 17 #[.val (.int (1 : Int32)), .val (.int c0), .val (.int c1), .val (.int c2)] [(.int (1 : Int32)), (.int (1 : Int32))])) _
    refine XS.icmpNo X0.here hx rfl (hb hby d1_17) rfl (teq (by decide : (1 : Int32) = (1 : Int32))).2 ?_
    show Steps p.tables e below (s₁.setTop (mkF m 20 #[.val (.int (1 : Int32)), .val (.int c0), .val (.int c1), .val (.int c2)] [])) _
    refine st101 _ ?_
    show Steps p.tables e below (T101.setTop (mkF m 23 #[.val (.int (1 : Int32)), .val (.int c0), .val (.int c1), .val (.int c2)] [(.ref b101)])) _
    refine XS.dup X101.here hx rfl (hb hby d1_23) rfl rfl ?_
    show Steps p.tables e below (T101.setTop (mkF m 24 #[.val (.int (1 : Int32)), .val (.int c0), .val (.int c1), .val (.int c2)] [(.ref b101), (.ref b101)])) _
    refine XS.iconst X101.here hx rfl (hb hby d1_24) ?_
    show Steps p.tables e below (T101.setTop (mkF m 25 #[.val (.int (1 : Int32)), .val (.int c0), .val (.int c1), .val (.int c2)] [(.int (1 : Int32)), (.ref b101), (.ref b101)])) _
    refine st102 _ ?_
    show Steps p.tables e below (T102.setTop (mkF m 27 #[.val (.int (1 : Int32)), .val (.int c0), .val (.int c1), .val (.int c2)] [(.ref b102), (.ref b101), (.ref b101)])) _
    refine XS.dup X102.here hx rfl (hb hby d1_27) rfl rfl ?_
    show Steps p.tables e below (T102.setTop (mkF m 28 #[.val (.int (1 : Int32)), .val (.int c0), .val (.int c1), .val (.int c2)] [(.ref b102), (.ref b102), (.ref b101), (.ref b101)])) _
    refine XS.iconst X102.here hx rfl (hb hby d1_28) ?_
    show Steps p.tables e below (T102.setTop (mkF m 29 #[.val (.int (1 : Int32)), .val (.int c0), .val (.int c1), .val (.int c2)] [(.int (0 : Int32)), (.ref b102), (.ref b102), (.ref b101), (.ref b101)])) _
    refine XS.iloadN X102.here hx rfl (hb hby d1_29) rfl ?_
    show Steps p.tables e below (T102.setTop (mkF m 30 #[.val (.int (1 : Int32)), .val (.int c0), .val (.int c1), .val (.int c2)] [(.int c0), (.int (0 : Int32)), (.ref b102), (.ref b102), (.ref b101), (.ref b101)])) _
    refine st103 _ ?_
    show Steps p.tables e below (T103.setTop (mkF m 31 #[.val (.int (1 : Int32)), .val (.int c0), .val (.int c1), .val (.int c2)] [(.ref b102), (.ref b101), (.ref b101)])) _
    refine st108.trans ?_
    show Steps p.tables e below (T108.setTop (mkF m 34 #[.val (.int (1 : Int32)), .val (.int c0), .val (.int c1), .val (.int c2)] [(.ref b101)])) _
    jvm_step X108.here [X108.here.top, hx, (hb hby d1_34), X108.method', Bd.returns, Value.isRef, FieldType.isReference]
    first | (intro acts; rw [hr _ acts rfl rfl rfl]) | rw [hr _ _ rfl rfl rfl]
    exact Steps.refl _
  · show QY Z ([c0] : List Int32) h0 n0 _ T108.heap _
    rw [e108]
    exact ⟨_, rfl, N108, KK108, sz_b101, ⟨_, _, _, _, sE104, sV104, sC104, sK104, scd104, shp104, (Nat.le_of_ble_eq_true rfl)⟩⟩
set_option maxRecDepth 65536 in
set_option maxHeartbeats 40000000 in
theorem rmM_2 (l : Launch) (Z : State) (a0 : Array Value) (hw : ∀ d ∈ tables_1, d.before a0 Z = true) (ws : List Jvm.Cond) (c0 c1 c2 G1 : Int32) (h0 : Heap) (n0 : Nat) (O0 : Old Z n0 h0) (S_CS : Sta Z Z.heap "java/lang/String" "COMPACT_STRINGS" "Z" (.int G1)) (hG1 : ¬ (G1 = (0 : Int32))) (hr0 : ¬ c0 < 0 ∧ ¬ (255 : Int32) < c0) (hr1 : ¬ c1 < 0 ∧ ¬ (255 : Int32) < c1) (hr2 : ¬ c2 < 0 ∧ ¬ (255 : Int32) < c2) :
    MetFree l (⟨"com/example/postback/postback/aurpay/AurpaySignatureSignedStringPinLaw", "make", "(ICCC)Ljava/lang/String;"⟩ : MethodName) (head1 (Jvm.Cond.code (⟨"com/example/postback/postback/aurpay/AurpaySignatureSignedStringPinLaw", "make", "(ICCC)Ljava/lang/String;"⟩ : MethodName) method_3_code 4 (some (.object "java/lang/String")) :: ws) ({ frames := 4, cells := 6, slots := 12, locals := 66 } : Room)) (fun a_ U => a_ = #[(.int (2 : Int32)), (.int c0), (.int c1), (.int c2)] ∧ Z.Warmed39 U.vm ∧ U.heap = h0 ∧ CHv Z consts_1 U.vm h0) (fun _ _ _ _ _ => True) (fun _ U o U' => ∃ v L, o = .returned v ∧ QY Z ([c0, c1] : List Int32) h0 n0 v U'.heap L ∧ CHr Z consts_1 U.vm U.heap U'.vm U'.heap ∧ ReturnedEndW U o U' L ({ frames := 4, cells := 6, slots := 12, locals := 66 } : Room).cells ({ frames := 4, cells := 6, slots := 12, locals := 66 } : Room).slots) := by
  refine MetFree.of_bodySF (plainFor_of_name pn_6) hisR ?_
  intro p e s m args below meth c s₁ Bd hml0 hP hK
  obtain ⟨rfl, hZ, hh, hC⟩ := hP
  have hx := Bd.exec
  have hby := Bd.bytes
  have hml : c.maxLocals = 4 := hml0
  have hown : s.vm.findClass "com/example/postback/postback/aurpay/AurpaySignatureSignedStringPinLaw" = some m.cls := findClass_of_methodNamed Bd.named
  have hnm := (name_of_methodNamed Bd.named Bd.method).1
  have X0 : Stand p l e ({ frames := 4, cells := 6, slots := 12, locals := 66 } : Room) (s.setVm s.vm) m #[(.int (2 : Int32)), (.int c0), (.int c1), (.int c2)] below meth c s₁ [] 0 0 := Stand.of_body Bd
  have e0 : s₁.heap = h0 := by rw [← hh, Bd.state]; rfl
  have N0 := Fr.nil n0
  have pre0 : ∀ tg, Steps p.tables e below (s₁.setTop (mkF m 0 #[.val (.int (2 : Int32)), .val (.int c0), .val (.int c1), .val (.int c2)] [])) tg → Steps p.tables e below (s₁.setTop (entryFrame m #[(.int (2 : Int32)), (.int c0), (.int c1), (.int c2)] 4)) tg := fun tg kq => castTop (ef_IIII_4 m (2 : Int32) c0 c1 c2) kq
  have hS0 : s.Since s.vm h0.size := (State.WarmedH.refl s).since _
  have hk0 : h0.size ≤ h0.size := Nat.le_refl _
  have CR0 : CHr Z consts_1 s.vm h0 s.vm h0 := CHr.refl hC
  obtain ⟨T101, h101, X101, e101, E101, A101, D101, -, st101⟩ := newO X0 hx hZ hown (wi hw 4 rfl) (wi hw 5 rfl) (wi hw 6 rfl) e0 (g := (mkF m 40 #[.val (.int (2 : Int32)), .val (.int c0), .val (.int c1), .val (.int c2)] [])) rfl (hb hby d1_40) (by decide) (by decide)
  obtain ⟨b101, g101⟩ : ∃ z, z = h0.size := ⟨_, rfl⟩
  rw [← g101] at A101 D101 st101
  have g_b101 : n0 ≤ b101 := Nat.le_trans (O0.1 ▸ O0.2.1) (Nat.le_of_eq g101.symm)
  have sz_b101 : h0.size ≤ b101 := Nat.le_trans (Nat.le_refl _) (Nat.le_of_eq g101.symm)
  have O101 := O0.ext E101
  have CS101 := CHr.ext E101 CR0.1
  have CR101 := CR0.trans CS101
  have KK101 : Keep h0 h101 [] := (Keep.refl h0 []).ext E101
  have sf_b101 : Safe Z consts_1 s.vm h101 b101 := Safe.ext E101 CR0.1 (Safe.new (Nat.le_of_eq g101.symm))
  have F_coder_b101 : Fld Z h101 b101 "java/lang/String" "coder" "B" (.int (0 : Int32)) := D101 (Or.inr (wi hw 31 rfl)) (ty := .byte) (by decide)
  have F_value_b101 : Fld Z h101 b101 "java/lang/String" "value" "[B" .null := D101 (Or.inr (wi hw 33 rfl)) (ty := (.array .byte)) (by decide)
  obtain ⟨T102, h102, k102, X102, e102, E102, A102, st102⟩ := newP X101 hx hZ (wi hw 7 rfl) e101 (g := (mkF m 45 #[.val (.int (2 : Int32)), .val (.int c0), .val (.int c1), .val (.int c2)] [(.int (2 : Int32)), (.ref b101), (.ref b101)])) rfl (hb hby d1_45) rfl (by decide) (cap := 2) (by decide) (by decide) (by decide) (by decide)
  obtain ⟨b102, g102⟩ : ∃ z, z = h101.size := ⟨_, rfl⟩
  rw [← g102] at A102 st102
  have g_b102 : n0 ≤ b102 := Nat.le_trans (O101.1 ▸ O101.2.1) (Nat.le_of_eq g102.symm)
  have sz_b102 : h0.size ≤ b102 := Nat.le_trans KK101.1 (Nat.le_of_eq g102.symm)
  have O102 := O101.ext E102
  have CS102 := CHr.ext E102 CR101.1
  have CR102 := CR101.trans CS102
  have KK102 : Keep h0 h102 [] := KK101.ext E102
  have V_b102 : Arv Z h102 b102 k102 .char (2 : Int32) [(.int (0 : Int32)), (.int (0 : Int32))] (.int (0 : Int32)) := (Arv.new A102 (by decide)).pad (pad_rep [] (.int (0 : Int32)) 2)
  obtain ⟨cl_b102_31, Ar_b102_31, q_b102_31, S_b102_31, N_b102_31, H_b102_31, G_b102_31⟩ := id (V_b102)
  have hinb102_31 : ¬ ((0 : Int32) < 0 ∨ cl_b102_31.slots.size ≤ ((0 : Int32)).toNatClampNeg) := inb_of S_b102_31 ⟨by decide, by decide⟩
  obtain ⟨T103, h103, X103, e103, W103, st103⟩ := stC X102 hx hZ e102 Ar_b102_31 (j := (0 : Int32)) hinb102_31 (g := (mkF m 50 #[.val (.int (2 : Int32)), .val (.int c0), .val (.int c1), .val (.int c2)] [(.int c0), (.int (0 : Int32)), (.ref b102), (.ref b102), (.ref b101), (.ref b101)])) rfl rfl (hb hby d1_50)
  have V_b102_103 : Arv Z h103 b102 k102 .char (2 : Int32) [(.int (nar .char c0)), (.int (0 : Int32))] (.int (0 : Int32)) := Arv.set Ar_b102_31 q_b102_31 S_b102_31 N_b102_31 H_b102_31 G_b102_31 (fits_nar_char _) W103 0 rfl (Nat.le_of_ble_eq_true rfl)
  have V_b102_103' : Arv Z h103 b102 k102 .char (2 : Int32) [(.int c0), (.int (0 : Int32))] (.int (0 : Int32)) := by have q := V_b102_103; rw [own_nar hr0] at q; exact q
  have O103 := O102.wr W103 g_b102
  have CS103 := CHr.wr W103 (Safe.arv hZ.alike V_b102 (by decide)) CR102.1
  have CR103 := CR102.trans CS103
  have KK103 : Keep h0 h103 [] := KK102.wr W103 (Or.inr sz_b102)
  have N103 := Fr.snoc X103 N0 g_b102
  obtain ⟨cl_b102_39, Ar_b102_39, q_b102_39, S_b102_39, N_b102_39, H_b102_39, G_b102_39⟩ := id (V_b102_103')
  have hinb102_39 : ¬ ((1 : Int32) < 0 ∨ cl_b102_39.slots.size ≤ ((1 : Int32)).toNatClampNeg) := inb_of S_b102_39 ⟨by decide, by decide⟩
  obtain ⟨T104, h104, X104, e104, W104, st104⟩ := stC X103 hx hZ e103 Ar_b102_39 (j := (1 : Int32)) hinb102_39 (g := (mkF m 54 #[.val (.int (2 : Int32)), .val (.int c0), .val (.int c1), .val (.int c2)] [(.int c1), (.int (1 : Int32)), (.ref b102), (.ref b102), (.ref b101), (.ref b101)])) rfl rfl (hb hby d1_54)
  have V_b102_104 : Arv Z h104 b102 k102 .char (2 : Int32) [(.int c0), (.int (nar .char c1))] (.int (0 : Int32)) := Arv.set Ar_b102_39 q_b102_39 S_b102_39 N_b102_39 H_b102_39 G_b102_39 (fits_nar_char _) W104 1 rfl (Nat.le_of_ble_eq_true rfl)
  have V_b102_104' : Arv Z h104 b102 k102 .char (2 : Int32) [(.int c0), (.int c1)] (.int (0 : Int32)) := by have q := V_b102_104; rw [own_nar hr1] at q; exact q
  have O104 := O103.wr W104 g_b102
  have CS104 := CHr.wr W104 (Safe.arv hZ.alike V_b102_103' (by decide)) CR103.1
  have CR104 := CR103.trans CS104
  have KK104 : Keep h0 h104 [] := KK103.wr W104 (Or.inr sz_b102)
  have N104 := Fr.snoc X104 N103 g_b102
  have shp105 : ∀ c ∈ ([c0, c1] : List Int32), ¬ c < 0 ∧ ¬ (255 : Int32) < c := (own_memS hr0 (own_memS hr1 own_mem0))
  have sA105 : Arv Z h104 b102 k102 .char (2 : Int32) (([c0, c1] : List Int32).map Value.int) (.int (0 : Int32)) := V_b102_104'
  have fE_b101_4_106 := (((A101.ext E102).wr W103).wr W104)
  have fString_value_4_107 := (((F_value_b101.ext E102).other W103 (Or.inl (Nat.ne_of_lt (Nat.lt_of_lt_of_le A101.lt (Nat.le_of_eq g102.symm))))).other W104 (Or.inl (Nat.ne_of_lt (Nat.lt_of_lt_of_le A101.lt (Nat.le_of_eq g102.symm)))))
  have fString_coder_4_108 := (((F_coder_b101.ext E102).other W103 (Or.inl (Nat.ne_of_lt (Nat.lt_of_lt_of_le A101.lt (Nat.le_of_eq g102.symm))))).other W104 (Or.inl (Nat.ne_of_lt (Nat.lt_of_lt_of_le A101.lt (Nat.le_of_eq g102.symm)))))
  obtain ⟨_, _, ⟨T109, L109, k109, n109⟩, -, X109, ⟨Lc109, hQ109, l109, y109, z109⟩, st109⟩ := X104.specialBack hx (y := (⟨"java/lang/String", "<init>", "([C)V"⟩ : MethodName)) rfl hown (mvT hZ (wi hw 8 rfl)) (mvT hZ (wi hw 9 rfl)) (mvT hZ (wi hw 10 rfl)) (by decide) (StrChars.Road.backV (W := 1) hZ (fun d hd => hw d (own_w_backV d hd)) (kI := 4) (wi hw 5 rfl) (cs := ([c0, c1] : List Int32)) (bs := ([c0, c1] : List Int32).map (fun c => c.toInt8.toInt32)) (n := 2) g_b101 (O104.1 ▸ O104.2.1) fE_b101_4_106 fString_value_4_107 fString_coder_4_108 sA105 (S_CS.ext O104.2) hG1 rfl rfl (by decide) (by decide) shp105 rfl (by decide) (by decide)) (g := (mkF m 55 #[.val (.int (2 : Int32)), .val (.int c0), .val (.int c1), .val (.int c2)] [(.ref b102), (.ref b101), (.ref b101)])) rfl (by rw [hml]; rfl) (Steps.refl _) (a := b101) (argsL := [(.ref b102)]) (rest := [(.ref b101)]) (lenOf pd_19 rfl) rfl (by show 2 * 0 + _ ≤ _; exact Nat.le_of_eq rfl) (hb hby d1_55) (fun _ _ => ⟨rfl, e104, (by decide : 2 + 1 ≤ _), (by decide : 6 + 2 ≤ _)⟩)
  dsimp only [Pt.U, Pt.locs, Pt.cells, Pt.slots] at X109 l109 y109 z109 st109 hQ109
  subst l109 y109 z109
  obtain ⟨rfl, N109q, K109, sE105, sC105, t105, kb105, sg105, ssz105, sne105, sV105, sK105⟩ := hQ109
  obtain ⟨h109, e109⟩ : ∃ z, T109.heap = z := ⟨_, rfl⟩
  rw [e109] at K109 sE105 sC105 sV105 sK105
  have g_t105 : n0 ≤ t105 := Nat.le_trans (O104.1 ▸ O104.2.1) ssz105
  have sz_t105 : h0.size ≤ t105 := Nat.le_trans KK104.1 ssz105
  have O109 := O104.keep K109 (allS g_b101 all0)
  have CS109 := CHr.keep K109 (sfS (CS104.safe ((A101.ext E102).wr W103).lt (CS103.safe (A101.ext E102).lt (CS102.safe A101.lt sf_b101))) sf0) CR104.1
  have CR109 := CR104.trans CS109
  have KK109 : Keep h0 h109 [] := KK104.trans K109 (allS (Or.inr sz_b101) all0)
  have N109 := Fr.app N104 N109q
  have scd105 : StrChars.Road.CodA ([c0, c1] : List Int32) 0 (2 : Int32) ((([c0, c1] : List Int32).map (fun c => c.toInt8.toInt32)).map Value.int) := StrChars.Road.codOf (n := 2) rfl (fun c hc => (shp105 c hc).2)
  obtain ⟨fs, hr, hrun, hended, hREW⟩ := X109.leaveW hS0 (by rw [e109]; exact (Nat.le_trans (Nat.le_trans (Nat.le_trans (Nat.le_trans (Nat.le_trans hk0 E101.1) E102.1) (Keep.of_wr W103).1) (Keep.of_wr W104).1) K109.1)) (v := some (.ref b101)) (fun h => by rw [Bd.returns] at h; cases h)
  refine ⟨_, _, pre0 _ ?_, hrun, hended, _, _, rfl, ?_, (by rw [hh]; show CHr Z consts_1 s.vm h0 T109.vm T109.heap; rw [e109]; exact CR109.trans (CHv.at X109 hZ (own_EW hw) CR109.1)), hREW.1, hREW.2.1, hREW.2.2.1, hREW.2.2.2.mono (by decide) (by decide)⟩
  · show Steps p.tables e below (s₁.setTop (mkF m 0 #[.val (.int (2 : Int32)), .val (.int c0), .val (.int c1), .val (.int c2)] [])) _
    refine XS.iloadN X0.here hx rfl (hb hby d1_0) rfl ?_
    show Steps p.tables e below (s₁.setTop (mkF m 1 #[.val (.int (2 : Int32)), .val (.int c0), .val (.int c1), .val (.int c2)] [(.int (2 : Int32))])) _
    refine XS.ifYes X0.here hx rfl (pc0 := 1) (pc' := 15) rfl (hb hby d1_1) rfl ((if0 _ _).trans (feq (by decide : ¬ ((2 : Int32) = (0 : Int32)))).2) (by decide) (by decide) ?_
    show Steps p.tables e below (s₁.setTop (mkF m 15 #[.val (.int (2 : Int32)), .val (.int c0), .val (.int c1), .val (.int c2)] [])) _
    refine XS.iloadN X0.here hx rfl (hb hby d1_15) rfl ?_
    show Steps p.tables e below (s₁.setTop (mkF m 16 #[.val (.int (2 : Int32)), .val (.int c0), .val (.int c1), .val (.int c2)] [(.int (2 : Int32))])) _
    refine XS.iconst X0.here hx rfl (hb hby d1_16) ?_
    show Steps p.tables e below (s₁.setTop (mkF m 17 #[.val (.int (2 : Int32)), .val (.int c0), .val (.int c1), .val (.int c2)] [(.int (1 : Int32)), (.int (2 : Int32))])) _
    refine XS.icmpYes X0.here hx rfl (pc0 := 17) (pc' := 35) rfl (hb hby d1_17) rfl (feq (by decide : ¬ ((2 : Int32) = (1 : Int32)))).2 (by decide) (by decide) ?_
    show Steps p.tables e below (s₁.setTop (mkF m 35 #[.val (.int (2 : Int32)), .val (.int c0), .val (.int c1), .val (.int c2)] [])) _
    refine XS.iloadN X0.here hx rfl (hb hby d1_35) rfl ?_
    show Steps p.tables e below (s₁.setTop (mkF m 36 #[.val (.int (2 : Int32)), .val (.int c0), .val (.int c1), .val (.int c2)] [(.int (2 : Int32))])) _
    refine XS.iconst X0.here hx rfl (hb hby d1_36) ?_
    show Steps p.tables e below (s₁.setTop (mkF m 37 #[.val (.int (2 : Int32)), .val (.int c0), .val (.int c1), .val (.int c2)] [(.int (2 : Int32)), (.int (2 : Int32))])) _
    refine XS.icmpNo X0.here hx rfl (hb hby d1_37) rfl (teq (by decide : (2 : Int32) = (2 : Int32))).2 ?_
    show Steps p.tables e below (s₁.setTop (mkF m 40 #[.val (.int (2 : Int32)), .val (.int c0), .val (.int c1), .val (.int c2)] [])) _
    refine st101 _ ?_
    show Steps p.tables e below (T101.setTop (mkF m 43 #[.val (.int (2 : Int32)), .val (.int c0), .val (.int c1), .val (.int c2)] [(.ref b101)])) _
    refine XS.dup X101.here hx rfl (hb hby d1_43) rfl rfl ?_
    show Steps p.tables e below (T101.setTop (mkF m 44 #[.val (.int (2 : Int32)), .val (.int c0), .val (.int c1), .val (.int c2)] [(.ref b101), (.ref b101)])) _
    refine XS.iconst X101.here hx rfl (hb hby d1_44) ?_
    show Steps p.tables e below (T101.setTop (mkF m 45 #[.val (.int (2 : Int32)), .val (.int c0), .val (.int c1), .val (.int c2)] [(.int (2 : Int32)), (.ref b101), (.ref b101)])) _
    refine st102 _ ?_
    show Steps p.tables e below (T102.setTop (mkF m 47 #[.val (.int (2 : Int32)), .val (.int c0), .val (.int c1), .val (.int c2)] [(.ref b102), (.ref b101), (.ref b101)])) _
    refine XS.dup X102.here hx rfl (hb hby d1_47) rfl rfl ?_
    show Steps p.tables e below (T102.setTop (mkF m 48 #[.val (.int (2 : Int32)), .val (.int c0), .val (.int c1), .val (.int c2)] [(.ref b102), (.ref b102), (.ref b101), (.ref b101)])) _
    refine XS.iconst X102.here hx rfl (hb hby d1_48) ?_
    show Steps p.tables e below (T102.setTop (mkF m 49 #[.val (.int (2 : Int32)), .val (.int c0), .val (.int c1), .val (.int c2)] [(.int (0 : Int32)), (.ref b102), (.ref b102), (.ref b101), (.ref b101)])) _
    refine XS.iloadN X102.here hx rfl (hb hby d1_49) rfl ?_
    show Steps p.tables e below (T102.setTop (mkF m 50 #[.val (.int (2 : Int32)), .val (.int c0), .val (.int c1), .val (.int c2)] [(.int c0), (.int (0 : Int32)), (.ref b102), (.ref b102), (.ref b101), (.ref b101)])) _
    refine st103 _ ?_
    show Steps p.tables e below (T103.setTop (mkF m 51 #[.val (.int (2 : Int32)), .val (.int c0), .val (.int c1), .val (.int c2)] [(.ref b102), (.ref b101), (.ref b101)])) _
    refine XS.dup X103.here hx rfl (hb hby d1_51) rfl rfl ?_
    show Steps p.tables e below (T103.setTop (mkF m 52 #[.val (.int (2 : Int32)), .val (.int c0), .val (.int c1), .val (.int c2)] [(.ref b102), (.ref b102), (.ref b101), (.ref b101)])) _
    refine XS.iconst X103.here hx rfl (hb hby d1_52) ?_
    show Steps p.tables e below (T103.setTop (mkF m 53 #[.val (.int (2 : Int32)), .val (.int c0), .val (.int c1), .val (.int c2)] [(.int (1 : Int32)), (.ref b102), (.ref b102), (.ref b101), (.ref b101)])) _
    refine XS.iloadN X103.here hx rfl (hb hby d1_53) rfl ?_
    show Steps p.tables e below (T103.setTop (mkF m 54 #[.val (.int (2 : Int32)), .val (.int c0), .val (.int c1), .val (.int c2)] [(.int c1), (.int (1 : Int32)), (.ref b102), (.ref b102), (.ref b101), (.ref b101)])) _
    refine st104 _ ?_
    show Steps p.tables e below (T104.setTop (mkF m 55 #[.val (.int (2 : Int32)), .val (.int c0), .val (.int c1), .val (.int c2)] [(.ref b102), (.ref b101), (.ref b101)])) _
    refine st109.trans ?_
    show Steps p.tables e below (T109.setTop (mkF m 58 #[.val (.int (2 : Int32)), .val (.int c0), .val (.int c1), .val (.int c2)] [(.ref b101)])) _
    jvm_step X109.here [X109.here.top, hx, (hb hby d1_58), X109.method', Bd.returns, Value.isRef, FieldType.isReference]
    first | (intro acts; rw [hr _ acts rfl rfl rfl]) | rw [hr _ _ rfl rfl rfl]
    exact Steps.refl _
  · show QY Z ([c0, c1] : List Int32) h0 n0 _ T109.heap _
    rw [e109]
    exact ⟨_, rfl, N109, KK109, sz_b101, ⟨_, _, _, _, sE105, sV105, sC105, sK105, scd105, shp105, (Nat.le_of_ble_eq_true rfl)⟩⟩
set_option maxRecDepth 65536 in
set_option maxHeartbeats 40000000 in
theorem rmM_3 (l : Launch) (Z : State) (a0 : Array Value) (hw : ∀ d ∈ tables_1, d.before a0 Z = true) (ws : List Jvm.Cond) (c0 c1 c2 G1 : Int32) (h0 : Heap) (n0 : Nat) (O0 : Old Z n0 h0) (S_CS : Sta Z Z.heap "java/lang/String" "COMPACT_STRINGS" "Z" (.int G1)) (hG1 : ¬ (G1 = (0 : Int32))) (hr0 : ¬ c0 < 0 ∧ ¬ (255 : Int32) < c0) (hr1 : ¬ c1 < 0 ∧ ¬ (255 : Int32) < c1) (hr2 : ¬ c2 < 0 ∧ ¬ (255 : Int32) < c2) :
    MetFree l (⟨"com/example/postback/postback/aurpay/AurpaySignatureSignedStringPinLaw", "make", "(ICCC)Ljava/lang/String;"⟩ : MethodName) (head1 (Jvm.Cond.code (⟨"com/example/postback/postback/aurpay/AurpaySignatureSignedStringPinLaw", "make", "(ICCC)Ljava/lang/String;"⟩ : MethodName) method_3_code 4 (some (.object "java/lang/String")) :: ws) ({ frames := 4, cells := 6, slots := 12, locals := 66 } : Room)) (fun a_ U => a_ = #[(.int (3 : Int32)), (.int c0), (.int c1), (.int c2)] ∧ Z.Warmed39 U.vm ∧ U.heap = h0 ∧ CHv Z consts_1 U.vm h0) (fun _ _ _ _ _ => True) (fun _ U o U' => ∃ v L, o = .returned v ∧ QY Z ([c0, c1, c2] : List Int32) h0 n0 v U'.heap L ∧ CHr Z consts_1 U.vm U.heap U'.vm U'.heap ∧ ReturnedEndW U o U' L ({ frames := 4, cells := 6, slots := 12, locals := 66 } : Room).cells ({ frames := 4, cells := 6, slots := 12, locals := 66 } : Room).slots) := by
  refine MetFree.of_bodySF (plainFor_of_name pn_6) hisR ?_
  intro p e s m args below meth c s₁ Bd hml0 hP hK
  obtain ⟨rfl, hZ, hh, hC⟩ := hP
  have hx := Bd.exec
  have hby := Bd.bytes
  have hml : c.maxLocals = 4 := hml0
  have hown : s.vm.findClass "com/example/postback/postback/aurpay/AurpaySignatureSignedStringPinLaw" = some m.cls := findClass_of_methodNamed Bd.named
  have hnm := (name_of_methodNamed Bd.named Bd.method).1
  have X0 : Stand p l e ({ frames := 4, cells := 6, slots := 12, locals := 66 } : Room) (s.setVm s.vm) m #[(.int (3 : Int32)), (.int c0), (.int c1), (.int c2)] below meth c s₁ [] 0 0 := Stand.of_body Bd
  have e0 : s₁.heap = h0 := by rw [← hh, Bd.state]; rfl
  have N0 := Fr.nil n0
  have pre0 : ∀ tg, Steps p.tables e below (s₁.setTop (mkF m 0 #[.val (.int (3 : Int32)), .val (.int c0), .val (.int c1), .val (.int c2)] [])) tg → Steps p.tables e below (s₁.setTop (entryFrame m #[(.int (3 : Int32)), (.int c0), (.int c1), (.int c2)] 4)) tg := fun tg kq => castTop (ef_IIII_4 m (3 : Int32) c0 c1 c2) kq
  have hS0 : s.Since s.vm h0.size := (State.WarmedH.refl s).since _
  have hk0 : h0.size ≤ h0.size := Nat.le_refl _
  have CR0 : CHr Z consts_1 s.vm h0 s.vm h0 := CHr.refl hC
  obtain ⟨T101, h101, X101, e101, E101, A101, D101, -, st101⟩ := newO X0 hx hZ hown (wi hw 4 rfl) (wi hw 5 rfl) (wi hw 6 rfl) e0 (g := (mkF m 59 #[.val (.int (3 : Int32)), .val (.int c0), .val (.int c1), .val (.int c2)] [])) rfl (hb hby d1_59) (by decide) (by decide)
  obtain ⟨b101, g101⟩ : ∃ z, z = h0.size := ⟨_, rfl⟩
  rw [← g101] at A101 D101 st101
  have g_b101 : n0 ≤ b101 := Nat.le_trans (O0.1 ▸ O0.2.1) (Nat.le_of_eq g101.symm)
  have sz_b101 : h0.size ≤ b101 := Nat.le_trans (Nat.le_refl _) (Nat.le_of_eq g101.symm)
  have O101 := O0.ext E101
  have CS101 := CHr.ext E101 CR0.1
  have CR101 := CR0.trans CS101
  have KK101 : Keep h0 h101 [] := (Keep.refl h0 []).ext E101
  have sf_b101 : Safe Z consts_1 s.vm h101 b101 := Safe.ext E101 CR0.1 (Safe.new (Nat.le_of_eq g101.symm))
  have F_coder_b101 : Fld Z h101 b101 "java/lang/String" "coder" "B" (.int (0 : Int32)) := D101 (Or.inr (wi hw 31 rfl)) (ty := .byte) (by decide)
  have F_value_b101 : Fld Z h101 b101 "java/lang/String" "value" "[B" .null := D101 (Or.inr (wi hw 33 rfl)) (ty := (.array .byte)) (by decide)
  obtain ⟨T102, h102, k102, X102, e102, E102, A102, st102⟩ := newP X101 hx hZ (wi hw 7 rfl) e101 (g := (mkF m 64 #[.val (.int (3 : Int32)), .val (.int c0), .val (.int c1), .val (.int c2)] [(.int (3 : Int32)), (.ref b101), (.ref b101)])) rfl (hb hby d1_64) rfl (by decide) (cap := 3) (by decide) (by decide) (by decide) (by decide)
  obtain ⟨b102, g102⟩ : ∃ z, z = h101.size := ⟨_, rfl⟩
  rw [← g102] at A102 st102
  have g_b102 : n0 ≤ b102 := Nat.le_trans (O101.1 ▸ O101.2.1) (Nat.le_of_eq g102.symm)
  have sz_b102 : h0.size ≤ b102 := Nat.le_trans KK101.1 (Nat.le_of_eq g102.symm)
  have O102 := O101.ext E102
  have CS102 := CHr.ext E102 CR101.1
  have CR102 := CR101.trans CS102
  have KK102 : Keep h0 h102 [] := KK101.ext E102
  have V_b102 : Arv Z h102 b102 k102 .char (3 : Int32) [(.int (0 : Int32)), (.int (0 : Int32)), (.int (0 : Int32))] (.int (0 : Int32)) := (Arv.new A102 (by decide)).pad (pad_rep [] (.int (0 : Int32)) 3)
  obtain ⟨cl_b102_31, Ar_b102_31, q_b102_31, S_b102_31, N_b102_31, H_b102_31, G_b102_31⟩ := id (V_b102)
  have hinb102_31 : ¬ ((0 : Int32) < 0 ∨ cl_b102_31.slots.size ≤ ((0 : Int32)).toNatClampNeg) := inb_of S_b102_31 ⟨by decide, by decide⟩
  obtain ⟨T103, h103, X103, e103, W103, st103⟩ := stC X102 hx hZ e102 Ar_b102_31 (j := (0 : Int32)) hinb102_31 (g := (mkF m 69 #[.val (.int (3 : Int32)), .val (.int c0), .val (.int c1), .val (.int c2)] [(.int c0), (.int (0 : Int32)), (.ref b102), (.ref b102), (.ref b101), (.ref b101)])) rfl rfl (hb hby d1_69)
  have V_b102_103 : Arv Z h103 b102 k102 .char (3 : Int32) [(.int (nar .char c0)), (.int (0 : Int32)), (.int (0 : Int32))] (.int (0 : Int32)) := Arv.set Ar_b102_31 q_b102_31 S_b102_31 N_b102_31 H_b102_31 G_b102_31 (fits_nar_char _) W103 0 rfl (Nat.le_of_ble_eq_true rfl)
  have V_b102_103' : Arv Z h103 b102 k102 .char (3 : Int32) [(.int c0), (.int (0 : Int32)), (.int (0 : Int32))] (.int (0 : Int32)) := by have q := V_b102_103; rw [own_nar hr0] at q; exact q
  have O103 := O102.wr W103 g_b102
  have CS103 := CHr.wr W103 (Safe.arv hZ.alike V_b102 (by decide)) CR102.1
  have CR103 := CR102.trans CS103
  have KK103 : Keep h0 h103 [] := KK102.wr W103 (Or.inr sz_b102)
  have N103 := Fr.snoc X103 N0 g_b102
  obtain ⟨cl_b102_39, Ar_b102_39, q_b102_39, S_b102_39, N_b102_39, H_b102_39, G_b102_39⟩ := id (V_b102_103')
  have hinb102_39 : ¬ ((1 : Int32) < 0 ∨ cl_b102_39.slots.size ≤ ((1 : Int32)).toNatClampNeg) := inb_of S_b102_39 ⟨by decide, by decide⟩
  obtain ⟨T104, h104, X104, e104, W104, st104⟩ := stC X103 hx hZ e103 Ar_b102_39 (j := (1 : Int32)) hinb102_39 (g := (mkF m 73 #[.val (.int (3 : Int32)), .val (.int c0), .val (.int c1), .val (.int c2)] [(.int c1), (.int (1 : Int32)), (.ref b102), (.ref b102), (.ref b101), (.ref b101)])) rfl rfl (hb hby d1_73)
  have V_b102_104 : Arv Z h104 b102 k102 .char (3 : Int32) [(.int c0), (.int (nar .char c1)), (.int (0 : Int32))] (.int (0 : Int32)) := Arv.set Ar_b102_39 q_b102_39 S_b102_39 N_b102_39 H_b102_39 G_b102_39 (fits_nar_char _) W104 1 rfl (Nat.le_of_ble_eq_true rfl)
  have V_b102_104' : Arv Z h104 b102 k102 .char (3 : Int32) [(.int c0), (.int c1), (.int (0 : Int32))] (.int (0 : Int32)) := by have q := V_b102_104; rw [own_nar hr1] at q; exact q
  have O104 := O103.wr W104 g_b102
  have CS104 := CHr.wr W104 (Safe.arv hZ.alike V_b102_103' (by decide)) CR103.1
  have CR104 := CR103.trans CS104
  have KK104 : Keep h0 h104 [] := KK103.wr W104 (Or.inr sz_b102)
  have N104 := Fr.snoc X104 N103 g_b102
  obtain ⟨cl_b102_47, Ar_b102_47, q_b102_47, S_b102_47, N_b102_47, H_b102_47, G_b102_47⟩ := id (V_b102_104')
  have hinb102_47 : ¬ ((2 : Int32) < 0 ∨ cl_b102_47.slots.size ≤ ((2 : Int32)).toNatClampNeg) := inb_of S_b102_47 ⟨by decide, by decide⟩
  obtain ⟨T105, h105, X105, e105, W105, st105⟩ := stC X104 hx hZ e104 Ar_b102_47 (j := (2 : Int32)) hinb102_47 (g := (mkF m 77 #[.val (.int (3 : Int32)), .val (.int c0), .val (.int c1), .val (.int c2)] [(.int c2), (.int (2 : Int32)), (.ref b102), (.ref b102), (.ref b101), (.ref b101)])) rfl rfl (hb hby d1_77)
  have V_b102_105 : Arv Z h105 b102 k102 .char (3 : Int32) [(.int c0), (.int c1), (.int (nar .char c2))] (.int (0 : Int32)) := Arv.set Ar_b102_47 q_b102_47 S_b102_47 N_b102_47 H_b102_47 G_b102_47 (fits_nar_char _) W105 2 rfl (Nat.le_of_ble_eq_true rfl)
  have V_b102_105' : Arv Z h105 b102 k102 .char (3 : Int32) [(.int c0), (.int c1), (.int c2)] (.int (0 : Int32)) := by have q := V_b102_105; rw [own_nar hr2] at q; exact q
  have O105 := O104.wr W105 g_b102
  have CS105 := CHr.wr W105 (Safe.arv hZ.alike V_b102_104' (by decide)) CR104.1
  have CR105 := CR104.trans CS105
  have KK105 : Keep h0 h105 [] := KK104.wr W105 (Or.inr sz_b102)
  have N105 := Fr.snoc X105 N104 g_b102
  have shp106 : ∀ c ∈ ([c0, c1, c2] : List Int32), ¬ c < 0 ∧ ¬ (255 : Int32) < c := (own_memS hr0 (own_memS hr1 (own_memS hr2 own_mem0)))
  have sA106 : Arv Z h105 b102 k102 .char (3 : Int32) (([c0, c1, c2] : List Int32).map Value.int) (.int (0 : Int32)) := V_b102_105'
  have fE_b101_5_107 := ((((A101.ext E102).wr W103).wr W104).wr W105)
  have fString_value_5_108 := ((((F_value_b101.ext E102).other W103 (Or.inl (Nat.ne_of_lt (Nat.lt_of_lt_of_le A101.lt (Nat.le_of_eq g102.symm))))).other W104 (Or.inl (Nat.ne_of_lt (Nat.lt_of_lt_of_le A101.lt (Nat.le_of_eq g102.symm))))).other W105 (Or.inl (Nat.ne_of_lt (Nat.lt_of_lt_of_le A101.lt (Nat.le_of_eq g102.symm)))))
  have fString_coder_5_109 := ((((F_coder_b101.ext E102).other W103 (Or.inl (Nat.ne_of_lt (Nat.lt_of_lt_of_le A101.lt (Nat.le_of_eq g102.symm))))).other W104 (Or.inl (Nat.ne_of_lt (Nat.lt_of_lt_of_le A101.lt (Nat.le_of_eq g102.symm))))).other W105 (Or.inl (Nat.ne_of_lt (Nat.lt_of_lt_of_le A101.lt (Nat.le_of_eq g102.symm)))))
  obtain ⟨_, _, ⟨T110, L110, k110, n110⟩, -, X110, ⟨Lc110, hQ110, l110, y110, z110⟩, st110⟩ := X105.specialBack hx (y := (⟨"java/lang/String", "<init>", "([C)V"⟩ : MethodName)) rfl hown (mvT hZ (wi hw 8 rfl)) (mvT hZ (wi hw 9 rfl)) (mvT hZ (wi hw 10 rfl)) (by decide) (StrChars.Road.backV (W := 1) hZ (fun d hd => hw d (own_w_backV d hd)) (kI := 4) (wi hw 5 rfl) (cs := ([c0, c1, c2] : List Int32)) (bs := ([c0, c1, c2] : List Int32).map (fun c => c.toInt8.toInt32)) (n := 3) g_b101 (O105.1 ▸ O105.2.1) fE_b101_5_107 fString_value_5_108 fString_coder_5_109 sA106 (S_CS.ext O105.2) hG1 rfl rfl (by decide) (by decide) shp106 rfl (by decide) (by decide)) (g := (mkF m 78 #[.val (.int (3 : Int32)), .val (.int c0), .val (.int c1), .val (.int c2)] [(.ref b102), (.ref b101), (.ref b101)])) rfl (by rw [hml]; rfl) (Steps.refl _) (a := b101) (argsL := [(.ref b102)]) (rest := [(.ref b101)]) (lenOf pd_19 rfl) rfl (by show 2 * 0 + _ ≤ _; exact Nat.le_of_eq rfl) (hb hby d1_78) (fun _ _ => ⟨rfl, e105, (by decide : 2 + 1 ≤ _), (by decide : 7 + 3 ≤ _)⟩)
  dsimp only [Pt.U, Pt.locs, Pt.cells, Pt.slots] at X110 l110 y110 z110 st110 hQ110
  subst l110 y110 z110
  obtain ⟨rfl, N110q, K110, sE106, sC106, t106, kb106, sg106, ssz106, sne106, sV106, sK106⟩ := hQ110
  obtain ⟨h110, e110⟩ : ∃ z, T110.heap = z := ⟨_, rfl⟩
  rw [e110] at K110 sE106 sC106 sV106 sK106
  have g_t106 : n0 ≤ t106 := Nat.le_trans (O105.1 ▸ O105.2.1) ssz106
  have sz_t106 : h0.size ≤ t106 := Nat.le_trans KK105.1 ssz106
  have O110 := O105.keep K110 (allS g_b101 all0)
  have CS110 := CHr.keep K110 (sfS (CS105.safe (((A101.ext E102).wr W103).wr W104).lt (CS104.safe ((A101.ext E102).wr W103).lt (CS103.safe (A101.ext E102).lt (CS102.safe A101.lt sf_b101)))) sf0) CR105.1
  have CR110 := CR105.trans CS110
  have KK110 : Keep h0 h110 [] := KK105.trans K110 (allS (Or.inr sz_b101) all0)
  have N110 := Fr.app N105 N110q
  have scd106 : StrChars.Road.CodA ([c0, c1, c2] : List Int32) 0 (3 : Int32) ((([c0, c1, c2] : List Int32).map (fun c => c.toInt8.toInt32)).map Value.int) := StrChars.Road.codOf (n := 3) rfl (fun c hc => (shp106 c hc).2)
  obtain ⟨fs, hr, hrun, hended, hREW⟩ := X110.leaveW hS0 (by rw [e110]; exact (Nat.le_trans (Nat.le_trans (Nat.le_trans (Nat.le_trans (Nat.le_trans (Nat.le_trans hk0 E101.1) E102.1) (Keep.of_wr W103).1) (Keep.of_wr W104).1) (Keep.of_wr W105).1) K110.1)) (v := some (.ref b101)) (fun h => by rw [Bd.returns] at h; cases h)
  refine ⟨_, _, pre0 _ ?_, hrun, hended, _, _, rfl, ?_, (by rw [hh]; show CHr Z consts_1 s.vm h0 T110.vm T110.heap; rw [e110]; exact CR110.trans (CHv.at X110 hZ (own_EW hw) CR110.1)), hREW.1, hREW.2.1, hREW.2.2.1, hREW.2.2.2.mono (by decide) (by decide)⟩
  · show Steps p.tables e below (s₁.setTop (mkF m 0 #[.val (.int (3 : Int32)), .val (.int c0), .val (.int c1), .val (.int c2)] [])) _
    refine XS.iloadN X0.here hx rfl (hb hby d1_0) rfl ?_
    show Steps p.tables e below (s₁.setTop (mkF m 1 #[.val (.int (3 : Int32)), .val (.int c0), .val (.int c1), .val (.int c2)] [(.int (3 : Int32))])) _
    refine XS.ifYes X0.here hx rfl (pc0 := 1) (pc' := 15) rfl (hb hby d1_1) rfl ((if0 _ _).trans (feq (by decide : ¬ ((3 : Int32) = (0 : Int32)))).2) (by decide) (by decide) ?_
    show Steps p.tables e below (s₁.setTop (mkF m 15 #[.val (.int (3 : Int32)), .val (.int c0), .val (.int c1), .val (.int c2)] [])) _
    refine XS.iloadN X0.here hx rfl (hb hby d1_15) rfl ?_
    show Steps p.tables e below (s₁.setTop (mkF m 16 #[.val (.int (3 : Int32)), .val (.int c0), .val (.int c1), .val (.int c2)] [(.int (3 : Int32))])) _
    refine XS.iconst X0.here hx rfl (hb hby d1_16) ?_
    show Steps p.tables e below (s₁.setTop (mkF m 17 #[.val (.int (3 : Int32)), .val (.int c0), .val (.int c1), .val (.int c2)] [(.int (1 : Int32)), (.int (3 : Int32))])) _
    refine XS.icmpYes X0.here hx rfl (pc0 := 17) (pc' := 35) rfl (hb hby d1_17) rfl (feq (by decide : ¬ ((3 : Int32) = (1 : Int32)))).2 (by decide) (by decide) ?_
    show Steps p.tables e below (s₁.setTop (mkF m 35 #[.val (.int (3 : Int32)), .val (.int c0), .val (.int c1), .val (.int c2)] [])) _
    refine XS.iloadN X0.here hx rfl (hb hby d1_35) rfl ?_
    show Steps p.tables e below (s₁.setTop (mkF m 36 #[.val (.int (3 : Int32)), .val (.int c0), .val (.int c1), .val (.int c2)] [(.int (3 : Int32))])) _
    refine XS.iconst X0.here hx rfl (hb hby d1_36) ?_
    show Steps p.tables e below (s₁.setTop (mkF m 37 #[.val (.int (3 : Int32)), .val (.int c0), .val (.int c1), .val (.int c2)] [(.int (2 : Int32)), (.int (3 : Int32))])) _
    refine XS.icmpYes X0.here hx rfl (pc0 := 37) (pc' := 59) rfl (hb hby d1_37) rfl (feq (by decide : ¬ ((3 : Int32) = (2 : Int32)))).2 (by decide) (by decide) ?_
    show Steps p.tables e below (s₁.setTop (mkF m 59 #[.val (.int (3 : Int32)), .val (.int c0), .val (.int c1), .val (.int c2)] [])) _
    refine st101 _ ?_
    show Steps p.tables e below (T101.setTop (mkF m 62 #[.val (.int (3 : Int32)), .val (.int c0), .val (.int c1), .val (.int c2)] [(.ref b101)])) _
    refine XS.dup X101.here hx rfl (hb hby d1_62) rfl rfl ?_
    show Steps p.tables e below (T101.setTop (mkF m 63 #[.val (.int (3 : Int32)), .val (.int c0), .val (.int c1), .val (.int c2)] [(.ref b101), (.ref b101)])) _
    refine XS.iconst X101.here hx rfl (hb hby d1_63) ?_
    show Steps p.tables e below (T101.setTop (mkF m 64 #[.val (.int (3 : Int32)), .val (.int c0), .val (.int c1), .val (.int c2)] [(.int (3 : Int32)), (.ref b101), (.ref b101)])) _
    refine st102 _ ?_
    show Steps p.tables e below (T102.setTop (mkF m 66 #[.val (.int (3 : Int32)), .val (.int c0), .val (.int c1), .val (.int c2)] [(.ref b102), (.ref b101), (.ref b101)])) _
    refine XS.dup X102.here hx rfl (hb hby d1_66) rfl rfl ?_
    show Steps p.tables e below (T102.setTop (mkF m 67 #[.val (.int (3 : Int32)), .val (.int c0), .val (.int c1), .val (.int c2)] [(.ref b102), (.ref b102), (.ref b101), (.ref b101)])) _
    refine XS.iconst X102.here hx rfl (hb hby d1_67) ?_
    show Steps p.tables e below (T102.setTop (mkF m 68 #[.val (.int (3 : Int32)), .val (.int c0), .val (.int c1), .val (.int c2)] [(.int (0 : Int32)), (.ref b102), (.ref b102), (.ref b101), (.ref b101)])) _
    refine XS.iloadN X102.here hx rfl (hb hby d1_68) rfl ?_
    show Steps p.tables e below (T102.setTop (mkF m 69 #[.val (.int (3 : Int32)), .val (.int c0), .val (.int c1), .val (.int c2)] [(.int c0), (.int (0 : Int32)), (.ref b102), (.ref b102), (.ref b101), (.ref b101)])) _
    refine st103 _ ?_
    show Steps p.tables e below (T103.setTop (mkF m 70 #[.val (.int (3 : Int32)), .val (.int c0), .val (.int c1), .val (.int c2)] [(.ref b102), (.ref b101), (.ref b101)])) _
    refine XS.dup X103.here hx rfl (hb hby d1_70) rfl rfl ?_
    show Steps p.tables e below (T103.setTop (mkF m 71 #[.val (.int (3 : Int32)), .val (.int c0), .val (.int c1), .val (.int c2)] [(.ref b102), (.ref b102), (.ref b101), (.ref b101)])) _
    refine XS.iconst X103.here hx rfl (hb hby d1_71) ?_
    show Steps p.tables e below (T103.setTop (mkF m 72 #[.val (.int (3 : Int32)), .val (.int c0), .val (.int c1), .val (.int c2)] [(.int (1 : Int32)), (.ref b102), (.ref b102), (.ref b101), (.ref b101)])) _
    refine XS.iloadN X103.here hx rfl (hb hby d1_72) rfl ?_
    show Steps p.tables e below (T103.setTop (mkF m 73 #[.val (.int (3 : Int32)), .val (.int c0), .val (.int c1), .val (.int c2)] [(.int c1), (.int (1 : Int32)), (.ref b102), (.ref b102), (.ref b101), (.ref b101)])) _
    refine st104 _ ?_
    show Steps p.tables e below (T104.setTop (mkF m 74 #[.val (.int (3 : Int32)), .val (.int c0), .val (.int c1), .val (.int c2)] [(.ref b102), (.ref b101), (.ref b101)])) _
    refine XS.dup X104.here hx rfl (hb hby d1_74) rfl rfl ?_
    show Steps p.tables e below (T104.setTop (mkF m 75 #[.val (.int (3 : Int32)), .val (.int c0), .val (.int c1), .val (.int c2)] [(.ref b102), (.ref b102), (.ref b101), (.ref b101)])) _
    refine XS.iconst X104.here hx rfl (hb hby d1_75) ?_
    show Steps p.tables e below (T104.setTop (mkF m 76 #[.val (.int (3 : Int32)), .val (.int c0), .val (.int c1), .val (.int c2)] [(.int (2 : Int32)), (.ref b102), (.ref b102), (.ref b101), (.ref b101)])) _
    refine XS.iloadN X104.here hx rfl (hb hby d1_76) rfl ?_
    show Steps p.tables e below (T104.setTop (mkF m 77 #[.val (.int (3 : Int32)), .val (.int c0), .val (.int c1), .val (.int c2)] [(.int c2), (.int (2 : Int32)), (.ref b102), (.ref b102), (.ref b101), (.ref b101)])) _
    refine st105 _ ?_
    show Steps p.tables e below (T105.setTop (mkF m 78 #[.val (.int (3 : Int32)), .val (.int c0), .val (.int c1), .val (.int c2)] [(.ref b102), (.ref b101), (.ref b101)])) _
    refine st110.trans ?_
    show Steps p.tables e below (T110.setTop (mkF m 81 #[.val (.int (3 : Int32)), .val (.int c0), .val (.int c1), .val (.int c2)] [(.ref b101)])) _
    jvm_step X110.here [X110.here.top, hx, (hb hby d1_81), X110.method', Bd.returns, Value.isRef, FieldType.isReference]
    first | (intro acts; rw [hr _ acts rfl rfl rfl]) | rw [hr _ _ rfl rfl rfl]
    exact Steps.refl _
  · show QY Z ([c0, c1, c2] : List Int32) h0 n0 _ T110.heap _
    rw [e110]
    exact ⟨_, rfl, N110, KK110, sz_b101, ⟨_, _, _, _, sE106, sV106, sC106, sK106, scd106, shp106, (Nat.le_of_ble_eq_true rfl)⟩⟩
def MkOK (a c0 c1 c2 : Int32) (cs : List Int32) : Prop := (a = 0 ∧ cs = []) ∨ (a = 1 ∧ cs = [c0]) ∨ (a = 2 ∧ cs = [c0, c1]) ∨ (a = 3 ∧ cs = [c0, c1, c2])
theorem rmM (l : Launch) (Z : State) (a0 : Array Value) (hw : ∀ d ∈ tables_1, d.before a0 Z = true) (ws : List Jvm.Cond) (a c0 c1 c2 G1 : Int32) (cs : List Int32) (h0 : Heap) (n0 : Nat) (O0 : Old Z n0 h0) (S_CS : Sta Z Z.heap "java/lang/String" "COMPACT_STRINGS" "Z" (.int G1)) (hG1 : ¬ (G1 = (0 : Int32))) (hr0 : ¬ c0 < 0 ∧ ¬ (255 : Int32) < c0) (hr1 : ¬ c1 < 0 ∧ ¬ (255 : Int32) < c1) (hr2 : ¬ c2 < 0 ∧ ¬ (255 : Int32) < c2) (hm : MkOK a c0 c1 c2 cs) :
    MetFree l (⟨"com/example/postback/postback/aurpay/AurpaySignatureSignedStringPinLaw", "make", "(ICCC)Ljava/lang/String;"⟩ : MethodName) (head1 (Jvm.Cond.code (⟨"com/example/postback/postback/aurpay/AurpaySignatureSignedStringPinLaw", "make", "(ICCC)Ljava/lang/String;"⟩ : MethodName) method_3_code 4 (some (.object "java/lang/String")) :: ws) ({ frames := 4, cells := 6, slots := 12, locals := 66 } : Room)) (fun a_ U => a_ = #[(.int a), (.int c0), (.int c1), (.int c2)] ∧ Z.Warmed39 U.vm ∧ U.heap = h0 ∧ CHv Z consts_1 U.vm h0) (fun _ _ _ _ _ => True) (fun _ U o U' => ∃ v L, o = .returned v ∧ QY Z cs h0 n0 v U'.heap L ∧ CHr Z consts_1 U.vm U.heap U'.vm U'.heap ∧ ReturnedEndW U o U' L ({ frames := 4, cells := 6, slots := 12, locals := 66 } : Room).cells ({ frames := 4, cells := 6, slots := 12, locals := 66 } : Room).slots) := by
  rcases hm with ⟨rfl, rfl⟩ | ⟨rfl, rfl⟩ | ⟨rfl, rfl⟩ | ⟨rfl, rfl⟩
  · exact rmM_0 l Z a0 hw ws c0 c1 c2 G1 h0 n0 O0 S_CS hG1 hr0 hr1 hr2
  · exact rmM_1 l Z a0 hw ws c0 c1 c2 G1 h0 n0 O0 S_CS hG1 hr0 hr1 hr2
  · exact rmM_2 l Z a0 hw ws c0 c1 c2 G1 h0 n0 O0 S_CS hG1 hr0 hr1 hr2
  · exact rmM_3 l Z a0 hw ws c0 c1 c2 G1 h0 n0 O0 S_CS hG1 hr0 hr1 hr2
theorem d31_0 : decode method_4_code 0 = .ok (.iload_n 2, 1) := by decide +kernel
theorem d31_1 : decode method_4_code 1 = .ok (.iconst 1, 1) := by decide +kernel
theorem d31_2 : decode method_4_code 2 = .ok (.if_icmp .lt 12, 3) := by decide +kernel
theorem d31_14 : decode method_4_code 14 = .ok (.iload_n 2, 1) := by decide +kernel
theorem d31_15 : decode method_4_code 15 = .ok (.iconst 2, 1) := by decide +kernel
theorem d31_16 : decode method_4_code 16 = .ok (.if_icmp .lt 15, 3) := by decide +kernel
theorem d31_31 : decode method_4_code 31 = .ok (.iload_n 2, 1) := by decide +kernel
theorem d31_32 : decode method_4_code 32 = .ok (.iconst 3, 1) := by decide +kernel
theorem d31_33 : decode method_4_code 33 = .ok (.if_icmp .lt 15, 3) := by decide +kernel
theorem d31_48 : decode method_4_code 48 = .ok (.iconst 1, 1) := by decide +kernel
theorem d31_49 : decode method_4_code 49 = .ok (.goto 4, 3) := by decide +kernel
theorem d31_53 : decode method_4_code 53 = .ok (.ireturn, 1) := by decide +kernel
theorem d31_5 : decode method_4_code 5 = .ok (.aload_n 0, 1) := by decide +kernel
theorem d31_6 : decode method_4_code 6 = .ok (.iload_n 1, 1) := by decide +kernel
theorem d31_7 : decode method_4_code 7 = .ok (.invokevirtual 29, 3) := by decide +kernel
theorem own_w_chN : ∀ d ∈ StrChars.Road.wordsChN, d ∈ tables_1 := by decide +kernel
theorem pd_20 : parseMethodDescriptor "(I)C" = some ⟨[.int], some .char⟩ := by decide +kernel
theorem d31_10 : decode method_4_code 10 = .ok (.iload_n 3, 1) := by decide +kernel
theorem d31_11 : decode method_4_code 11 = .ok (.if_icmp .ne 41, 3) := by decide +kernel
theorem d31_19 : decode method_4_code 19 = .ok (.aload_n 0, 1) := by decide +kernel
theorem d31_20 : decode method_4_code 20 = .ok (.iload_n 1, 1) := by decide +kernel
theorem d31_21 : decode method_4_code 21 = .ok (.iconst 1, 1) := by decide +kernel
theorem d31_22 : decode method_4_code 22 = .ok (.iadd, 1) := by decide +kernel
theorem d31_23 : decode method_4_code 23 = .ok (.invokevirtual 29, 3) := by decide +kernel
theorem d31_26 : decode method_4_code 26 = .ok (.iload 4, 2) := by decide +kernel
theorem d31_28 : decode method_4_code 28 = .ok (.if_icmp .ne 24, 3) := by decide +kernel
theorem d31_36 : decode method_4_code 36 = .ok (.aload_n 0, 1) := by decide +kernel
theorem d31_37 : decode method_4_code 37 = .ok (.iload_n 1, 1) := by decide +kernel
theorem d31_38 : decode method_4_code 38 = .ok (.iconst 2, 1) := by decide +kernel
theorem d31_39 : decode method_4_code 39 = .ok (.iadd, 1) := by decide +kernel
theorem d31_40 : decode method_4_code 40 = .ok (.invokevirtual 29, 3) := by decide +kernel
theorem d31_43 : decode method_4_code 43 = .ok (.iload 5, 2) := by decide +kernel
theorem d31_45 : decode method_4_code 45 = .ok (.if_icmp .ne 7, 3) := by decide +kernel
theorem ef_RIIIII_6 (m : MethodId) (x0 : Addr) (x1 : Int32) (x2 : Int32) (x3 : Int32) (x4 : Int32) (x5 : Int32) : entryFrame m #[(.ref x0), (.int x1), (.int x2), (.int x3), (.int x4), (.int x5)] 6 = mkF m 0 #[.val (.ref x0), .val (.int x1), .val (.int x2), .val (.int x3), .val (.int x4), .val (.int x5)] [] := by first | (simp [entryFrame, mkF, argsToLocals, Value.category]; done) | rfl
set_option maxRecDepth 65536 in
set_option maxHeartbeats 40000000 in
theorem rmC_0 (l : Launch) (Z : State) (a0 : Array Value) (hw : ∀ d ∈ tables_1, d.before a0 Z = true) (ws : List Jvm.Cond) (y : Addr) (j x0 x1 x2 G1 : Int32) (G3 : Value) (i_ : Nat) (cs : List Int32) (h0 : Heap) (n0 : Nat) (O0 : Old Z n0 h0) (S_CS : Sta Z Z.heap "java/lang/String" "COMPACT_STRINGS" "Z" (.int G1)) (hG1 : ¬ (G1 = (0 : Int32))) (S_SF : Sta Z Z.heap "jdk/internal/util/Preconditions" "SIOOBE_FORMATTER" "Ljava/util/function/BiFunction;" G3) (rG3 : G3.isRef = true) (T : Str Z h0 y cs) :
    MetFree l (⟨"com/example/postback/postback/aurpay/AurpaySignatureSignedStringPinLaw", "chk", "(Ljava/lang/String;IICCC)Z"⟩ : MethodName) (head1 (Jvm.Cond.code (⟨"com/example/postback/postback/aurpay/AurpaySignatureSignedStringPinLaw", "chk", "(Ljava/lang/String;IICCC)Z"⟩ : MethodName) method_4_code 6 (some .boolean) :: ws) ({ frames := 4, cells := 0, slots := 0, locals := 53 } : Room)) (fun a_ U => a_ = #[(.ref y), (.int j), (.int (0 : Int32)), (.int x0), (.int x1), (.int x2)] ∧ Z.Warmed39 U.vm ∧ U.heap = h0) (fun _ _ _ _ _ => True) (fun _ U o U' => ∃ v L, o = .returned v ∧ QP (.int (1 : Int32)) h0 n0 v U'.heap L ∧ FrameEnd U o U' L ({ frames := 4, cells := 0, slots := 0, locals := 53 } : Room).cells ({ frames := 4, cells := 0, slots := 0, locals := 53 } : Room).slots) := by
  refine MetFree.of_bodySF (plainFor_of_name pn_6) hisR ?_
  intro p e s m args below meth c s₁ Bd hml0 hP hK
  obtain ⟨rfl, hZ, hh⟩ := hP
  have hx := Bd.exec
  have hby := Bd.bytes
  have hml : c.maxLocals = 6 := hml0
  have hown : s.vm.findClass "com/example/postback/postback/aurpay/AurpaySignatureSignedStringPinLaw" = some m.cls := findClass_of_methodNamed Bd.named
  have hnm := (name_of_methodNamed Bd.named Bd.method).1
  have X0 : Stand p l e ({ frames := 4, cells := 0, slots := 0, locals := 53 } : Room) s m #[(.ref y), (.int j), (.int (0 : Int32)), (.int x0), (.int x1), (.int x2)] below meth c s₁ [] 0 0 := Stand.of_body Bd
  have e0 : s₁.heap = h0 := by rw [← hh, Bd.state]; rfl
  have N0 := Fr.nil n0
  have pre0 : ∀ tg, Steps p.tables e below (s₁.setTop (mkF m 0 #[.val (.ref y), .val (.int j), .val (.int (0 : Int32)), .val (.int x0), .val (.int x1), .val (.int x2)] [])) tg → Steps p.tables e below (s₁.setTop (entryFrame m #[(.ref y), (.int j), (.int (0 : Int32)), (.int x0), (.int x1), (.int x2)] 6)) tg := fun tg kq => castTop (ef_RIIIII_6 m y j (0 : Int32) x0 x1 x2) kq
  obtain ⟨ty, kby, Ny, vsy, sEy, sVy, sCy, sKy, scdy, shpy, shly⟩ := id T
  obtain ⟨fs, hr, hrun, hended, hW, hsame⟩ := X0.leave (v := some (.int (1 : Int32))) (fun h => by rw [Bd.returns] at h; cases h)
  refine ⟨_, _, pre0 _ ?_, hrun, hended, _, _, rfl, ?_, ⟨_, rfl⟩, hW, hsame.mono (by decide) (by decide)⟩
  · show Steps p.tables e below (s₁.setTop (mkF m 0 #[.val (.ref y), .val (.int j), .val (.int (0 : Int32)), .val (.int x0), .val (.int x1), .val (.int x2)] [])) _
    refine XS.iloadN X0.here hx rfl (hb hby d31_0) rfl ?_
    show Steps p.tables e below (s₁.setTop (mkF m 1 #[.val (.ref y), .val (.int j), .val (.int (0 : Int32)), .val (.int x0), .val (.int x1), .val (.int x2)] [(.int (0 : Int32))])) _
    refine XS.iconst X0.here hx rfl (hb hby d31_1) ?_
    show Steps p.tables e below (s₁.setTop (mkF m 2 #[.val (.ref y), .val (.int j), .val (.int (0 : Int32)), .val (.int x0), .val (.int x1), .val (.int x2)] [(.int (1 : Int32)), (.int (0 : Int32))])) _
    refine XS.icmpYes X0.here hx rfl (pc0 := 2) (pc' := 14) rfl (hb hby d31_2) rfl (tlt (by decide : (0 : Int32) < (1 : Int32))).1 (by decide) (by decide) ?_
    show Steps p.tables e below (s₁.setTop (mkF m 14 #[.val (.ref y), .val (.int j), .val (.int (0 : Int32)), .val (.int x0), .val (.int x1), .val (.int x2)] [])) _
    refine XS.iloadN X0.here hx rfl (hb hby d31_14) rfl ?_
    show Steps p.tables e below (s₁.setTop (mkF m 15 #[.val (.ref y), .val (.int j), .val (.int (0 : Int32)), .val (.int x0), .val (.int x1), .val (.int x2)] [(.int (0 : Int32))])) _
    refine XS.iconst X0.here hx rfl (hb hby d31_15) ?_
    show Steps p.tables e below (s₁.setTop (mkF m 16 #[.val (.ref y), .val (.int j), .val (.int (0 : Int32)), .val (.int x0), .val (.int x1), .val (.int x2)] [(.int (2 : Int32)), (.int (0 : Int32))])) _
    refine XS.icmpYes X0.here hx rfl (pc0 := 16) (pc' := 31) rfl (hb hby d31_16) rfl (tlt (by decide : (0 : Int32) < (2 : Int32))).1 (by decide) (by decide) ?_
    show Steps p.tables e below (s₁.setTop (mkF m 31 #[.val (.ref y), .val (.int j), .val (.int (0 : Int32)), .val (.int x0), .val (.int x1), .val (.int x2)] [])) _
    refine XS.iloadN X0.here hx rfl (hb hby d31_31) rfl ?_
    show Steps p.tables e below (s₁.setTop (mkF m 32 #[.val (.ref y), .val (.int j), .val (.int (0 : Int32)), .val (.int x0), .val (.int x1), .val (.int x2)] [(.int (0 : Int32))])) _
    refine XS.iconst X0.here hx rfl (hb hby d31_32) ?_
    show Steps p.tables e below (s₁.setTop (mkF m 33 #[.val (.ref y), .val (.int j), .val (.int (0 : Int32)), .val (.int x0), .val (.int x1), .val (.int x2)] [(.int (3 : Int32)), (.int (0 : Int32))])) _
    refine XS.icmpYes X0.here hx rfl (pc0 := 33) (pc' := 48) rfl (hb hby d31_33) rfl (tlt (by decide : (0 : Int32) < (3 : Int32))).1 (by decide) (by decide) ?_
    show Steps p.tables e below (s₁.setTop (mkF m 48 #[.val (.ref y), .val (.int j), .val (.int (0 : Int32)), .val (.int x0), .val (.int x1), .val (.int x2)] [])) _
    refine XS.iconst X0.here hx rfl (hb hby d31_48) ?_
    show Steps p.tables e below (s₁.setTop (mkF m 49 #[.val (.ref y), .val (.int j), .val (.int (0 : Int32)), .val (.int x0), .val (.int x1), .val (.int x2)] [(.int (1 : Int32))])) _
    refine XS.goto X0.here hx rfl (pc0 := 49) (pc' := 53) rfl (hb hby d31_49) (by decide) (by decide) ?_
    show Steps p.tables e below (s₁.setTop (mkF m 53 #[.val (.ref y), .val (.int j), .val (.int (0 : Int32)), .val (.int x0), .val (.int x1), .val (.int x2)] [(.int (1 : Int32))])) _
    exact retN X0 hx (t := .boolean) Bd.returns (by simp) (hb hby d31_53) hr
  · show QP (.int (1 : Int32)) h0 n0 _ s₁.heap _
    rw [e0]
    exact ⟨rfl, N0, rfl⟩
set_option maxRecDepth 65536 in
set_option maxHeartbeats 40000000 in
theorem rmC_1 (l : Launch) (Z : State) (a0 : Array Value) (hw : ∀ d ∈ tables_1, d.before a0 Z = true) (ws : List Jvm.Cond) (y : Addr) (j x0 x1 x2 G1 : Int32) (G3 : Value) (i_ : Nat) (cs : List Int32) (h0 : Heap) (n0 : Nat) (O0 : Old Z n0 h0) (S_CS : Sta Z Z.heap "java/lang/String" "COMPACT_STRINGS" "Z" (.int G1)) (hG1 : ¬ (G1 = (0 : Int32))) (S_SF : Sta Z Z.heap "jdk/internal/util/Preconditions" "SIOOBE_FORMATTER" "Ljava/util/function/BiFunction;" G3) (rG3 : G3.isRef = true) (T : Str Z h0 y cs) (l0_ : i_ < cs.length) (j0_ : j = Int32.ofNat i_) (e0_ : cs.getD i_ 0 = x0) :
    MetFree l (⟨"com/example/postback/postback/aurpay/AurpaySignatureSignedStringPinLaw", "chk", "(Ljava/lang/String;IICCC)Z"⟩ : MethodName) (head1 (Jvm.Cond.code (⟨"com/example/postback/postback/aurpay/AurpaySignatureSignedStringPinLaw", "chk", "(Ljava/lang/String;IICCC)Z"⟩ : MethodName) method_4_code 6 (some .boolean) :: ws) ({ frames := 4, cells := 0, slots := 0, locals := 53 } : Room)) (fun a_ U => a_ = #[(.ref y), (.int j), (.int (1 : Int32)), (.int x0), (.int x1), (.int x2)] ∧ Z.Warmed39 U.vm ∧ U.heap = h0) (fun _ _ _ _ _ => True) (fun _ U o U' => ∃ v L, o = .returned v ∧ QP (.int (1 : Int32)) h0 n0 v U'.heap L ∧ FrameEnd U o U' L ({ frames := 4, cells := 0, slots := 0, locals := 53 } : Room).cells ({ frames := 4, cells := 0, slots := 0, locals := 53 } : Room).slots) := by
  refine MetFree.of_bodySF (plainFor_of_name pn_6) hisR ?_
  intro p e s m args below meth c s₁ Bd hml0 hP hK
  obtain ⟨rfl, hZ, hh⟩ := hP
  have hx := Bd.exec
  have hby := Bd.bytes
  have hml : c.maxLocals = 6 := hml0
  have hown : s.vm.findClass "com/example/postback/postback/aurpay/AurpaySignatureSignedStringPinLaw" = some m.cls := findClass_of_methodNamed Bd.named
  have hnm := (name_of_methodNamed Bd.named Bd.method).1
  have X0 : Stand p l e ({ frames := 4, cells := 0, slots := 0, locals := 53 } : Room) s m #[(.ref y), (.int j), (.int (1 : Int32)), (.int x0), (.int x1), (.int x2)] below meth c s₁ [] 0 0 := Stand.of_body Bd
  have e0 : s₁.heap = h0 := by rw [← hh, Bd.state]; rfl
  have N0 := Fr.nil n0
  have pre0 : ∀ tg, Steps p.tables e below (s₁.setTop (mkF m 0 #[.val (.ref y), .val (.int j), .val (.int (1 : Int32)), .val (.int x0), .val (.int x1), .val (.int x2)] [])) tg → Steps p.tables e below (s₁.setTop (entryFrame m #[(.ref y), (.int j), (.int (1 : Int32)), (.int x0), (.int x1), (.int x2)] 6)) tg := fun tg kq => castTop (ef_RIIIII_6 m y j (1 : Int32) x0 x1 x2) kq
  obtain ⟨ty, kby, Ny, vsy, sEy, sVy, sCy, sKy, scdy, shpy, shly⟩ := id T
  obtain ⟨cq101, kq101, q101a, q101b, q101c⟩ := isOf hZ e0 sEy
  obtain ⟨_, _, ⟨T101, L101, k101, n101⟩, -, X101, ⟨Lc101, hQ101, l101, y101, z101⟩, st101⟩ := X0.virtualBack hx (y := (⟨"java/lang/String", "charAt", "(I)C"⟩ : MethodName)) (z := (⟨"java/lang/String", "charAt", "(I)C"⟩ : MethodName)) hown (mvT hZ (wi hw 163 rfl)) (mvT hZ (wi hw 164 rfl)) (notFace_of_selects (args := #[]) (mvT hZ (wi hw 166 rfl))) (mvT hZ (wi hw 166 rfl)) (mvT hZ (wi hw 165 rfl)) (by decide) (StrChars.Road.chN (W := 0) hZ (fun d hd => hw d (own_w_chN d hd)) (kI := 4) (wi hw 5 rfl) sEy sVy sCy sKy scdy (own_up _ shpy) (S_CS.ext O0.2) hG1 (S_SF.ext O0.2) rG3 shly (i := i_) l0_ (j := j) j0_ (by decide) (by decide)) q101a q101c (g := (mkF m 7 #[.val (.ref y), .val (.int j), .val (.int (1 : Int32)), .val (.int x0), .val (.int x1), .val (.int x2)] [(.int j), (.ref y)])) rfl (by rw [hml]; rfl) (Steps.refl _) (argsL := [(.int j)]) (rest := []) (lenOf pd_20 rfl) rfl (by show 2 * 0 + _ ≤ _; exact Nat.le_of_eq rfl) (hb hby d31_7) (fun _ _ => ⟨rfl, e0, (by decide : 0 + 0 ≤ _), (by decide : 0 + 0 ≤ _)⟩)
  dsimp only [Pt.U, Pt.locs, Pt.cells, Pt.slots] at X101 l101 y101 z101 st101 hQ101
  subst l101 y101 z101
  obtain ⟨rfl, rfl, hh101⟩ := hQ101
  have N101q : Fr n0 ([] : List Loc) := Fr.nil n0
  have e101 : T101.heap = h0 := hh101
  have N101 := Fr.app N0 N101q
  obtain ⟨fs, hr, hrun, hended, hW, hsame⟩ := X101.leave (v := some (.int (1 : Int32))) (fun h => by rw [Bd.returns] at h; cases h)
  refine ⟨_, _, pre0 _ ?_, hrun, hended, _, _, rfl, ?_, ⟨_, rfl⟩, hW, hsame.mono (by decide) (by decide)⟩
  · show Steps p.tables e below (s₁.setTop (mkF m 0 #[.val (.ref y), .val (.int j), .val (.int (1 : Int32)), .val (.int x0), .val (.int x1), .val (.int x2)] [])) _
    refine XS.iloadN X0.here hx rfl (hb hby d31_0) rfl ?_
    show Steps p.tables e below (s₁.setTop (mkF m 1 #[.val (.ref y), .val (.int j), .val (.int (1 : Int32)), .val (.int x0), .val (.int x1), .val (.int x2)] [(.int (1 : Int32))])) _
    refine XS.iconst X0.here hx rfl (hb hby d31_1) ?_
    show Steps p.tables e below (s₁.setTop (mkF m 2 #[.val (.ref y), .val (.int j), .val (.int (1 : Int32)), .val (.int x0), .val (.int x1), .val (.int x2)] [(.int (1 : Int32)), (.int (1 : Int32))])) _
    refine XS.icmpNo X0.here hx rfl (hb hby d31_2) rfl (flt (by decide : ¬ ((1 : Int32) < (1 : Int32)))).1 ?_
    show Steps p.tables e below (s₁.setTop (mkF m 5 #[.val (.ref y), .val (.int j), .val (.int (1 : Int32)), .val (.int x0), .val (.int x1), .val (.int x2)] [])) _
    refine XS.aloadN X0.here hx rfl (hb hby d31_5) rfl rfl ?_
    show Steps p.tables e below (s₁.setTop (mkF m 6 #[.val (.ref y), .val (.int j), .val (.int (1 : Int32)), .val (.int x0), .val (.int x1), .val (.int x2)] [(.ref y)])) _
    refine XS.iloadN X0.here hx rfl (hb hby d31_6) rfl ?_
    show Steps p.tables e below (s₁.setTop (mkF m 7 #[.val (.ref y), .val (.int j), .val (.int (1 : Int32)), .val (.int x0), .val (.int x1), .val (.int x2)] [(.int j), (.ref y)])) _
    refine st101.trans ?_
    show Steps p.tables e below (T101.setTop (mkF m 10 #[.val (.ref y), .val (.int j), .val (.int (1 : Int32)), .val (.int x0), .val (.int x1), .val (.int x2)] [(.int (cs.getD i_ 0))])) _
    refine XS.iloadN X101.here hx rfl (hb hby d31_10) rfl ?_
    show Steps p.tables e below (T101.setTop (mkF m 11 #[.val (.ref y), .val (.int j), .val (.int (1 : Int32)), .val (.int x0), .val (.int x1), .val (.int x2)] [(.int x0), (.int (cs.getD i_ 0))])) _
    refine XS.icmpNo X101.here hx rfl (hb hby d31_11) rfl (teq e0_).2 ?_
    show Steps p.tables e below (T101.setTop (mkF m 14 #[.val (.ref y), .val (.int j), .val (.int (1 : Int32)), .val (.int x0), .val (.int x1), .val (.int x2)] [])) _
    refine XS.iloadN X101.here hx rfl (hb hby d31_14) rfl ?_
    show Steps p.tables e below (T101.setTop (mkF m 15 #[.val (.ref y), .val (.int j), .val (.int (1 : Int32)), .val (.int x0), .val (.int x1), .val (.int x2)] [(.int (1 : Int32))])) _
    refine XS.iconst X101.here hx rfl (hb hby d31_15) ?_
    show Steps p.tables e below (T101.setTop (mkF m 16 #[.val (.ref y), .val (.int j), .val (.int (1 : Int32)), .val (.int x0), .val (.int x1), .val (.int x2)] [(.int (2 : Int32)), (.int (1 : Int32))])) _
    refine XS.icmpYes X101.here hx rfl (pc0 := 16) (pc' := 31) rfl (hb hby d31_16) rfl (tlt (by decide : (1 : Int32) < (2 : Int32))).1 (by decide) (by decide) ?_
    show Steps p.tables e below (T101.setTop (mkF m 31 #[.val (.ref y), .val (.int j), .val (.int (1 : Int32)), .val (.int x0), .val (.int x1), .val (.int x2)] [])) _
    refine XS.iloadN X101.here hx rfl (hb hby d31_31) rfl ?_
    show Steps p.tables e below (T101.setTop (mkF m 32 #[.val (.ref y), .val (.int j), .val (.int (1 : Int32)), .val (.int x0), .val (.int x1), .val (.int x2)] [(.int (1 : Int32))])) _
    refine XS.iconst X101.here hx rfl (hb hby d31_32) ?_
    show Steps p.tables e below (T101.setTop (mkF m 33 #[.val (.ref y), .val (.int j), .val (.int (1 : Int32)), .val (.int x0), .val (.int x1), .val (.int x2)] [(.int (3 : Int32)), (.int (1 : Int32))])) _
    refine XS.icmpYes X101.here hx rfl (pc0 := 33) (pc' := 48) rfl (hb hby d31_33) rfl (tlt (by decide : (1 : Int32) < (3 : Int32))).1 (by decide) (by decide) ?_
    show Steps p.tables e below (T101.setTop (mkF m 48 #[.val (.ref y), .val (.int j), .val (.int (1 : Int32)), .val (.int x0), .val (.int x1), .val (.int x2)] [])) _
    refine XS.iconst X101.here hx rfl (hb hby d31_48) ?_
    show Steps p.tables e below (T101.setTop (mkF m 49 #[.val (.ref y), .val (.int j), .val (.int (1 : Int32)), .val (.int x0), .val (.int x1), .val (.int x2)] [(.int (1 : Int32))])) _
    refine XS.goto X101.here hx rfl (pc0 := 49) (pc' := 53) rfl (hb hby d31_49) (by decide) (by decide) ?_
    show Steps p.tables e below (T101.setTop (mkF m 53 #[.val (.ref y), .val (.int j), .val (.int (1 : Int32)), .val (.int x0), .val (.int x1), .val (.int x2)] [(.int (1 : Int32))])) _
    exact retN X101 hx (t := .boolean) Bd.returns (by simp) (hb hby d31_53) hr
  · show QP (.int (1 : Int32)) h0 n0 _ T101.heap _
    rw [e101]
    exact ⟨rfl, N101, rfl⟩
set_option maxRecDepth 65536 in
set_option maxHeartbeats 40000000 in
theorem rmC_2 (l : Launch) (Z : State) (a0 : Array Value) (hw : ∀ d ∈ tables_1, d.before a0 Z = true) (ws : List Jvm.Cond) (y : Addr) (j x0 x1 x2 G1 : Int32) (G3 : Value) (i_ : Nat) (cs : List Int32) (h0 : Heap) (n0 : Nat) (O0 : Old Z n0 h0) (S_CS : Sta Z Z.heap "java/lang/String" "COMPACT_STRINGS" "Z" (.int G1)) (hG1 : ¬ (G1 = (0 : Int32))) (S_SF : Sta Z Z.heap "jdk/internal/util/Preconditions" "SIOOBE_FORMATTER" "Ljava/util/function/BiFunction;" G3) (rG3 : G3.isRef = true) (T : Str Z h0 y cs) (l0_ : i_ < cs.length) (j0_ : j = Int32.ofNat i_) (e0_ : cs.getD i_ 0 = x0) (l1_ : (i_ + 1) < cs.length) (j1_ : (j + (1 : Int32)) = Int32.ofNat (i_ + 1)) (e1_ : cs.getD (i_ + 1) 0 = x1) :
    MetFree l (⟨"com/example/postback/postback/aurpay/AurpaySignatureSignedStringPinLaw", "chk", "(Ljava/lang/String;IICCC)Z"⟩ : MethodName) (head1 (Jvm.Cond.code (⟨"com/example/postback/postback/aurpay/AurpaySignatureSignedStringPinLaw", "chk", "(Ljava/lang/String;IICCC)Z"⟩ : MethodName) method_4_code 6 (some .boolean) :: ws) ({ frames := 4, cells := 0, slots := 0, locals := 53 } : Room)) (fun a_ U => a_ = #[(.ref y), (.int j), (.int (2 : Int32)), (.int x0), (.int x1), (.int x2)] ∧ Z.Warmed39 U.vm ∧ U.heap = h0) (fun _ _ _ _ _ => True) (fun _ U o U' => ∃ v L, o = .returned v ∧ QP (.int (1 : Int32)) h0 n0 v U'.heap L ∧ FrameEnd U o U' L ({ frames := 4, cells := 0, slots := 0, locals := 53 } : Room).cells ({ frames := 4, cells := 0, slots := 0, locals := 53 } : Room).slots) := by
  refine MetFree.of_bodySF (plainFor_of_name pn_6) hisR ?_
  intro p e s m args below meth c s₁ Bd hml0 hP hK
  obtain ⟨rfl, hZ, hh⟩ := hP
  have hx := Bd.exec
  have hby := Bd.bytes
  have hml : c.maxLocals = 6 := hml0
  have hown : s.vm.findClass "com/example/postback/postback/aurpay/AurpaySignatureSignedStringPinLaw" = some m.cls := findClass_of_methodNamed Bd.named
  have hnm := (name_of_methodNamed Bd.named Bd.method).1
  have X0 : Stand p l e ({ frames := 4, cells := 0, slots := 0, locals := 53 } : Room) s m #[(.ref y), (.int j), (.int (2 : Int32)), (.int x0), (.int x1), (.int x2)] below meth c s₁ [] 0 0 := Stand.of_body Bd
  have e0 : s₁.heap = h0 := by rw [← hh, Bd.state]; rfl
  have N0 := Fr.nil n0
  have pre0 : ∀ tg, Steps p.tables e below (s₁.setTop (mkF m 0 #[.val (.ref y), .val (.int j), .val (.int (2 : Int32)), .val (.int x0), .val (.int x1), .val (.int x2)] [])) tg → Steps p.tables e below (s₁.setTop (entryFrame m #[(.ref y), (.int j), (.int (2 : Int32)), (.int x0), (.int x1), (.int x2)] 6)) tg := fun tg kq => castTop (ef_RIIIII_6 m y j (2 : Int32) x0 x1 x2) kq
  obtain ⟨ty, kby, Ny, vsy, sEy, sVy, sCy, sKy, scdy, shpy, shly⟩ := id T
  obtain ⟨cq101, kq101, q101a, q101b, q101c⟩ := isOf hZ e0 sEy
  obtain ⟨_, _, ⟨T101, L101, k101, n101⟩, -, X101, ⟨Lc101, hQ101, l101, y101, z101⟩, st101⟩ := X0.virtualBack hx (y := (⟨"java/lang/String", "charAt", "(I)C"⟩ : MethodName)) (z := (⟨"java/lang/String", "charAt", "(I)C"⟩ : MethodName)) hown (mvT hZ (wi hw 163 rfl)) (mvT hZ (wi hw 164 rfl)) (notFace_of_selects (args := #[]) (mvT hZ (wi hw 166 rfl))) (mvT hZ (wi hw 166 rfl)) (mvT hZ (wi hw 165 rfl)) (by decide) (StrChars.Road.chN (W := 0) hZ (fun d hd => hw d (own_w_chN d hd)) (kI := 4) (wi hw 5 rfl) sEy sVy sCy sKy scdy (own_up _ shpy) (S_CS.ext O0.2) hG1 (S_SF.ext O0.2) rG3 shly (i := i_) l0_ (j := j) j0_ (by decide) (by decide)) q101a q101c (g := (mkF m 7 #[.val (.ref y), .val (.int j), .val (.int (2 : Int32)), .val (.int x0), .val (.int x1), .val (.int x2)] [(.int j), (.ref y)])) rfl (by rw [hml]; rfl) (Steps.refl _) (argsL := [(.int j)]) (rest := []) (lenOf pd_20 rfl) rfl (by show 2 * 0 + _ ≤ _; exact Nat.le_of_eq rfl) (hb hby d31_7) (fun _ _ => ⟨rfl, e0, (by decide : 0 + 0 ≤ _), (by decide : 0 + 0 ≤ _)⟩)
  dsimp only [Pt.U, Pt.locs, Pt.cells, Pt.slots] at X101 l101 y101 z101 st101 hQ101
  subst l101 y101 z101
  obtain ⟨rfl, rfl, hh101⟩ := hQ101
  have N101q : Fr n0 ([] : List Loc) := Fr.nil n0
  have e101 : T101.heap = h0 := hh101
  have N101 := Fr.app N0 N101q
  obtain ⟨cq102, kq102, q102a, q102b, q102c⟩ := isOf hZ e101 sEy
  obtain ⟨_, _, ⟨T102, L102, k102, n102⟩, -, X102, ⟨Lc102, hQ102, l102, y102, z102⟩, st102⟩ := X101.virtualBack hx (y := (⟨"java/lang/String", "charAt", "(I)C"⟩ : MethodName)) (z := (⟨"java/lang/String", "charAt", "(I)C"⟩ : MethodName)) hown (mvT hZ (wi hw 163 rfl)) (mvT hZ (wi hw 164 rfl)) (notFace_of_selects (args := #[]) (mvT hZ (wi hw 166 rfl))) (mvT hZ (wi hw 166 rfl)) (mvT hZ (wi hw 165 rfl)) (by decide) (StrChars.Road.chN (W := 0) hZ (fun d hd => hw d (own_w_chN d hd)) (kI := 4) (wi hw 5 rfl) sEy sVy sCy sKy scdy (own_up _ shpy) (S_CS.ext O0.2) hG1 (S_SF.ext O0.2) rG3 shly (i := (i_ + 1)) l1_ (j := (j + (1 : Int32))) j1_ (by decide) (by decide)) q102a q102c (g := (mkF m 23 #[.val (.ref y), .val (.int j), .val (.int (2 : Int32)), .val (.int x0), .val (.int x1), .val (.int x2)] [(.int (j + (1 : Int32))), (.ref y)])) rfl (by rw [hml]; rfl) (Steps.refl _) (argsL := [(.int (j + (1 : Int32)))]) (rest := []) (lenOf pd_20 rfl) rfl (by show 2 * 0 + _ ≤ _; exact Nat.le_of_eq rfl) (hb hby d31_23) (fun _ _ => ⟨rfl, e101, (by decide : 0 + 0 ≤ _), (by decide : 0 + 0 ≤ _)⟩)
  dsimp only [Pt.U, Pt.locs, Pt.cells, Pt.slots] at X102 l102 y102 z102 st102 hQ102
  subst l102 y102 z102
  obtain ⟨rfl, rfl, hh102⟩ := hQ102
  have N102q : Fr n0 ([] : List Loc) := Fr.nil n0
  have e102 : T102.heap = h0 := hh102
  have N102 := Fr.app N101 N102q
  obtain ⟨fs, hr, hrun, hended, hW, hsame⟩ := X102.leave (v := some (.int (1 : Int32))) (fun h => by rw [Bd.returns] at h; cases h)
  refine ⟨_, _, pre0 _ ?_, hrun, hended, _, _, rfl, ?_, ⟨_, rfl⟩, hW, hsame.mono (by decide) (by decide)⟩
  · show Steps p.tables e below (s₁.setTop (mkF m 0 #[.val (.ref y), .val (.int j), .val (.int (2 : Int32)), .val (.int x0), .val (.int x1), .val (.int x2)] [])) _
    refine XS.iloadN X0.here hx rfl (hb hby d31_0) rfl ?_
    show Steps p.tables e below (s₁.setTop (mkF m 1 #[.val (.ref y), .val (.int j), .val (.int (2 : Int32)), .val (.int x0), .val (.int x1), .val (.int x2)] [(.int (2 : Int32))])) _
    refine XS.iconst X0.here hx rfl (hb hby d31_1) ?_
    show Steps p.tables e below (s₁.setTop (mkF m 2 #[.val (.ref y), .val (.int j), .val (.int (2 : Int32)), .val (.int x0), .val (.int x1), .val (.int x2)] [(.int (1 : Int32)), (.int (2 : Int32))])) _
    refine XS.icmpNo X0.here hx rfl (hb hby d31_2) rfl (flt (by decide : ¬ ((2 : Int32) < (1 : Int32)))).1 ?_
    show Steps p.tables e below (s₁.setTop (mkF m 5 #[.val (.ref y), .val (.int j), .val (.int (2 : Int32)), .val (.int x0), .val (.int x1), .val (.int x2)] [])) _
    refine XS.aloadN X0.here hx rfl (hb hby d31_5) rfl rfl ?_
    show Steps p.tables e below (s₁.setTop (mkF m 6 #[.val (.ref y), .val (.int j), .val (.int (2 : Int32)), .val (.int x0), .val (.int x1), .val (.int x2)] [(.ref y)])) _
    refine XS.iloadN X0.here hx rfl (hb hby d31_6) rfl ?_
    show Steps p.tables e below (s₁.setTop (mkF m 7 #[.val (.ref y), .val (.int j), .val (.int (2 : Int32)), .val (.int x0), .val (.int x1), .val (.int x2)] [(.int j), (.ref y)])) _
    refine st101.trans ?_
    show Steps p.tables e below (T101.setTop (mkF m 10 #[.val (.ref y), .val (.int j), .val (.int (2 : Int32)), .val (.int x0), .val (.int x1), .val (.int x2)] [(.int (cs.getD i_ 0))])) _
    refine XS.iloadN X101.here hx rfl (hb hby d31_10) rfl ?_
    show Steps p.tables e below (T101.setTop (mkF m 11 #[.val (.ref y), .val (.int j), .val (.int (2 : Int32)), .val (.int x0), .val (.int x1), .val (.int x2)] [(.int x0), (.int (cs.getD i_ 0))])) _
    refine XS.icmpNo X101.here hx rfl (hb hby d31_11) rfl (teq e0_).2 ?_
    show Steps p.tables e below (T101.setTop (mkF m 14 #[.val (.ref y), .val (.int j), .val (.int (2 : Int32)), .val (.int x0), .val (.int x1), .val (.int x2)] [])) _
    refine XS.iloadN X101.here hx rfl (hb hby d31_14) rfl ?_
    show Steps p.tables e below (T101.setTop (mkF m 15 #[.val (.ref y), .val (.int j), .val (.int (2 : Int32)), .val (.int x0), .val (.int x1), .val (.int x2)] [(.int (2 : Int32))])) _
    refine XS.iconst X101.here hx rfl (hb hby d31_15) ?_
    show Steps p.tables e below (T101.setTop (mkF m 16 #[.val (.ref y), .val (.int j), .val (.int (2 : Int32)), .val (.int x0), .val (.int x1), .val (.int x2)] [(.int (2 : Int32)), (.int (2 : Int32))])) _
    refine XS.icmpNo X101.here hx rfl (hb hby d31_16) rfl (flt (by decide : ¬ ((2 : Int32) < (2 : Int32)))).1 ?_
    show Steps p.tables e below (T101.setTop (mkF m 19 #[.val (.ref y), .val (.int j), .val (.int (2 : Int32)), .val (.int x0), .val (.int x1), .val (.int x2)] [])) _
    refine XS.aloadN X101.here hx rfl (hb hby d31_19) rfl rfl ?_
    show Steps p.tables e below (T101.setTop (mkF m 20 #[.val (.ref y), .val (.int j), .val (.int (2 : Int32)), .val (.int x0), .val (.int x1), .val (.int x2)] [(.ref y)])) _
    refine XS.iloadN X101.here hx rfl (hb hby d31_20) rfl ?_
    show Steps p.tables e below (T101.setTop (mkF m 21 #[.val (.ref y), .val (.int j), .val (.int (2 : Int32)), .val (.int x0), .val (.int x1), .val (.int x2)] [(.int j), (.ref y)])) _
    refine XS.iconst X101.here hx rfl (hb hby d31_21) ?_
    show Steps p.tables e below (T101.setTop (mkF m 22 #[.val (.ref y), .val (.int j), .val (.int (2 : Int32)), .val (.int x0), .val (.int x1), .val (.int x2)] [(.int (1 : Int32)), (.int j), (.ref y)])) _
    refine XS.iadd X101.here hx rfl (hb hby d31_22) rfl ?_
    show Steps p.tables e below (T101.setTop (mkF m 23 #[.val (.ref y), .val (.int j), .val (.int (2 : Int32)), .val (.int x0), .val (.int x1), .val (.int x2)] [(.int (j + (1 : Int32))), (.ref y)])) _
    refine st102.trans ?_
    show Steps p.tables e below (T102.setTop (mkF m 26 #[.val (.ref y), .val (.int j), .val (.int (2 : Int32)), .val (.int x0), .val (.int x1), .val (.int x2)] [(.int (cs.getD (i_ + 1) 0))])) _
    refine XS.iload X102.here hx rfl (hb hby d31_26) rfl ?_
    show Steps p.tables e below (T102.setTop (mkF m 28 #[.val (.ref y), .val (.int j), .val (.int (2 : Int32)), .val (.int x0), .val (.int x1), .val (.int x2)] [(.int x1), (.int (cs.getD (i_ + 1) 0))])) _
    refine XS.icmpNo X102.here hx rfl (hb hby d31_28) rfl (teq e1_).2 ?_
    show Steps p.tables e below (T102.setTop (mkF m 31 #[.val (.ref y), .val (.int j), .val (.int (2 : Int32)), .val (.int x0), .val (.int x1), .val (.int x2)] [])) _
    refine XS.iloadN X102.here hx rfl (hb hby d31_31) rfl ?_
    show Steps p.tables e below (T102.setTop (mkF m 32 #[.val (.ref y), .val (.int j), .val (.int (2 : Int32)), .val (.int x0), .val (.int x1), .val (.int x2)] [(.int (2 : Int32))])) _
    refine XS.iconst X102.here hx rfl (hb hby d31_32) ?_
    show Steps p.tables e below (T102.setTop (mkF m 33 #[.val (.ref y), .val (.int j), .val (.int (2 : Int32)), .val (.int x0), .val (.int x1), .val (.int x2)] [(.int (3 : Int32)), (.int (2 : Int32))])) _
    refine XS.icmpYes X102.here hx rfl (pc0 := 33) (pc' := 48) rfl (hb hby d31_33) rfl (tlt (by decide : (2 : Int32) < (3 : Int32))).1 (by decide) (by decide) ?_
    show Steps p.tables e below (T102.setTop (mkF m 48 #[.val (.ref y), .val (.int j), .val (.int (2 : Int32)), .val (.int x0), .val (.int x1), .val (.int x2)] [])) _
    refine XS.iconst X102.here hx rfl (hb hby d31_48) ?_
    show Steps p.tables e below (T102.setTop (mkF m 49 #[.val (.ref y), .val (.int j), .val (.int (2 : Int32)), .val (.int x0), .val (.int x1), .val (.int x2)] [(.int (1 : Int32))])) _
    refine XS.goto X102.here hx rfl (pc0 := 49) (pc' := 53) rfl (hb hby d31_49) (by decide) (by decide) ?_
    show Steps p.tables e below (T102.setTop (mkF m 53 #[.val (.ref y), .val (.int j), .val (.int (2 : Int32)), .val (.int x0), .val (.int x1), .val (.int x2)] [(.int (1 : Int32))])) _
    exact retN X102 hx (t := .boolean) Bd.returns (by simp) (hb hby d31_53) hr
  · show QP (.int (1 : Int32)) h0 n0 _ T102.heap _
    rw [e102]
    exact ⟨rfl, N102, rfl⟩
set_option maxRecDepth 65536 in
set_option maxHeartbeats 40000000 in
theorem rmC_3 (l : Launch) (Z : State) (a0 : Array Value) (hw : ∀ d ∈ tables_1, d.before a0 Z = true) (ws : List Jvm.Cond) (y : Addr) (j x0 x1 x2 G1 : Int32) (G3 : Value) (i_ : Nat) (cs : List Int32) (h0 : Heap) (n0 : Nat) (O0 : Old Z n0 h0) (S_CS : Sta Z Z.heap "java/lang/String" "COMPACT_STRINGS" "Z" (.int G1)) (hG1 : ¬ (G1 = (0 : Int32))) (S_SF : Sta Z Z.heap "jdk/internal/util/Preconditions" "SIOOBE_FORMATTER" "Ljava/util/function/BiFunction;" G3) (rG3 : G3.isRef = true) (T : Str Z h0 y cs) (l0_ : i_ < cs.length) (j0_ : j = Int32.ofNat i_) (e0_ : cs.getD i_ 0 = x0) (l1_ : (i_ + 1) < cs.length) (j1_ : (j + (1 : Int32)) = Int32.ofNat (i_ + 1)) (e1_ : cs.getD (i_ + 1) 0 = x1) (l2_ : (i_ + 2) < cs.length) (j2_ : (j + (2 : Int32)) = Int32.ofNat (i_ + 2)) (e2_ : cs.getD (i_ + 2) 0 = x2) :
    MetFree l (⟨"com/example/postback/postback/aurpay/AurpaySignatureSignedStringPinLaw", "chk", "(Ljava/lang/String;IICCC)Z"⟩ : MethodName) (head1 (Jvm.Cond.code (⟨"com/example/postback/postback/aurpay/AurpaySignatureSignedStringPinLaw", "chk", "(Ljava/lang/String;IICCC)Z"⟩ : MethodName) method_4_code 6 (some .boolean) :: ws) ({ frames := 4, cells := 0, slots := 0, locals := 53 } : Room)) (fun a_ U => a_ = #[(.ref y), (.int j), (.int (3 : Int32)), (.int x0), (.int x1), (.int x2)] ∧ Z.Warmed39 U.vm ∧ U.heap = h0) (fun _ _ _ _ _ => True) (fun _ U o U' => ∃ v L, o = .returned v ∧ QP (.int (1 : Int32)) h0 n0 v U'.heap L ∧ FrameEnd U o U' L ({ frames := 4, cells := 0, slots := 0, locals := 53 } : Room).cells ({ frames := 4, cells := 0, slots := 0, locals := 53 } : Room).slots) := by
  refine MetFree.of_bodySF (plainFor_of_name pn_6) hisR ?_
  intro p e s m args below meth c s₁ Bd hml0 hP hK
  obtain ⟨rfl, hZ, hh⟩ := hP
  have hx := Bd.exec
  have hby := Bd.bytes
  have hml : c.maxLocals = 6 := hml0
  have hown : s.vm.findClass "com/example/postback/postback/aurpay/AurpaySignatureSignedStringPinLaw" = some m.cls := findClass_of_methodNamed Bd.named
  have hnm := (name_of_methodNamed Bd.named Bd.method).1
  have X0 : Stand p l e ({ frames := 4, cells := 0, slots := 0, locals := 53 } : Room) s m #[(.ref y), (.int j), (.int (3 : Int32)), (.int x0), (.int x1), (.int x2)] below meth c s₁ [] 0 0 := Stand.of_body Bd
  have e0 : s₁.heap = h0 := by rw [← hh, Bd.state]; rfl
  have N0 := Fr.nil n0
  have pre0 : ∀ tg, Steps p.tables e below (s₁.setTop (mkF m 0 #[.val (.ref y), .val (.int j), .val (.int (3 : Int32)), .val (.int x0), .val (.int x1), .val (.int x2)] [])) tg → Steps p.tables e below (s₁.setTop (entryFrame m #[(.ref y), (.int j), (.int (3 : Int32)), (.int x0), (.int x1), (.int x2)] 6)) tg := fun tg kq => castTop (ef_RIIIII_6 m y j (3 : Int32) x0 x1 x2) kq
  obtain ⟨ty, kby, Ny, vsy, sEy, sVy, sCy, sKy, scdy, shpy, shly⟩ := id T
  obtain ⟨cq101, kq101, q101a, q101b, q101c⟩ := isOf hZ e0 sEy
  obtain ⟨_, _, ⟨T101, L101, k101, n101⟩, -, X101, ⟨Lc101, hQ101, l101, y101, z101⟩, st101⟩ := X0.virtualBack hx (y := (⟨"java/lang/String", "charAt", "(I)C"⟩ : MethodName)) (z := (⟨"java/lang/String", "charAt", "(I)C"⟩ : MethodName)) hown (mvT hZ (wi hw 163 rfl)) (mvT hZ (wi hw 164 rfl)) (notFace_of_selects (args := #[]) (mvT hZ (wi hw 166 rfl))) (mvT hZ (wi hw 166 rfl)) (mvT hZ (wi hw 165 rfl)) (by decide) (StrChars.Road.chN (W := 0) hZ (fun d hd => hw d (own_w_chN d hd)) (kI := 4) (wi hw 5 rfl) sEy sVy sCy sKy scdy (own_up _ shpy) (S_CS.ext O0.2) hG1 (S_SF.ext O0.2) rG3 shly (i := i_) l0_ (j := j) j0_ (by decide) (by decide)) q101a q101c (g := (mkF m 7 #[.val (.ref y), .val (.int j), .val (.int (3 : Int32)), .val (.int x0), .val (.int x1), .val (.int x2)] [(.int j), (.ref y)])) rfl (by rw [hml]; rfl) (Steps.refl _) (argsL := [(.int j)]) (rest := []) (lenOf pd_20 rfl) rfl (by show 2 * 0 + _ ≤ _; exact Nat.le_of_eq rfl) (hb hby d31_7) (fun _ _ => ⟨rfl, e0, (by decide : 0 + 0 ≤ _), (by decide : 0 + 0 ≤ _)⟩)
  dsimp only [Pt.U, Pt.locs, Pt.cells, Pt.slots] at X101 l101 y101 z101 st101 hQ101
  subst l101 y101 z101
  obtain ⟨rfl, rfl, hh101⟩ := hQ101
  have N101q : Fr n0 ([] : List Loc) := Fr.nil n0
  have e101 : T101.heap = h0 := hh101
  have N101 := Fr.app N0 N101q
  obtain ⟨cq102, kq102, q102a, q102b, q102c⟩ := isOf hZ e101 sEy
  obtain ⟨_, _, ⟨T102, L102, k102, n102⟩, -, X102, ⟨Lc102, hQ102, l102, y102, z102⟩, st102⟩ := X101.virtualBack hx (y := (⟨"java/lang/String", "charAt", "(I)C"⟩ : MethodName)) (z := (⟨"java/lang/String", "charAt", "(I)C"⟩ : MethodName)) hown (mvT hZ (wi hw 163 rfl)) (mvT hZ (wi hw 164 rfl)) (notFace_of_selects (args := #[]) (mvT hZ (wi hw 166 rfl))) (mvT hZ (wi hw 166 rfl)) (mvT hZ (wi hw 165 rfl)) (by decide) (StrChars.Road.chN (W := 0) hZ (fun d hd => hw d (own_w_chN d hd)) (kI := 4) (wi hw 5 rfl) sEy sVy sCy sKy scdy (own_up _ shpy) (S_CS.ext O0.2) hG1 (S_SF.ext O0.2) rG3 shly (i := (i_ + 1)) l1_ (j := (j + (1 : Int32))) j1_ (by decide) (by decide)) q102a q102c (g := (mkF m 23 #[.val (.ref y), .val (.int j), .val (.int (3 : Int32)), .val (.int x0), .val (.int x1), .val (.int x2)] [(.int (j + (1 : Int32))), (.ref y)])) rfl (by rw [hml]; rfl) (Steps.refl _) (argsL := [(.int (j + (1 : Int32)))]) (rest := []) (lenOf pd_20 rfl) rfl (by show 2 * 0 + _ ≤ _; exact Nat.le_of_eq rfl) (hb hby d31_23) (fun _ _ => ⟨rfl, e101, (by decide : 0 + 0 ≤ _), (by decide : 0 + 0 ≤ _)⟩)
  dsimp only [Pt.U, Pt.locs, Pt.cells, Pt.slots] at X102 l102 y102 z102 st102 hQ102
  subst l102 y102 z102
  obtain ⟨rfl, rfl, hh102⟩ := hQ102
  have N102q : Fr n0 ([] : List Loc) := Fr.nil n0
  have e102 : T102.heap = h0 := hh102
  have N102 := Fr.app N101 N102q
  obtain ⟨cq103, kq103, q103a, q103b, q103c⟩ := isOf hZ e102 sEy
  obtain ⟨_, _, ⟨T103, L103, k103, n103⟩, -, X103, ⟨Lc103, hQ103, l103, y103, z103⟩, st103⟩ := X102.virtualBack hx (y := (⟨"java/lang/String", "charAt", "(I)C"⟩ : MethodName)) (z := (⟨"java/lang/String", "charAt", "(I)C"⟩ : MethodName)) hown (mvT hZ (wi hw 163 rfl)) (mvT hZ (wi hw 164 rfl)) (notFace_of_selects (args := #[]) (mvT hZ (wi hw 166 rfl))) (mvT hZ (wi hw 166 rfl)) (mvT hZ (wi hw 165 rfl)) (by decide) (StrChars.Road.chN (W := 0) hZ (fun d hd => hw d (own_w_chN d hd)) (kI := 4) (wi hw 5 rfl) sEy sVy sCy sKy scdy (own_up _ shpy) (S_CS.ext O0.2) hG1 (S_SF.ext O0.2) rG3 shly (i := (i_ + 2)) l2_ (j := (j + (2 : Int32))) j2_ (by decide) (by decide)) q103a q103c (g := (mkF m 40 #[.val (.ref y), .val (.int j), .val (.int (3 : Int32)), .val (.int x0), .val (.int x1), .val (.int x2)] [(.int (j + (2 : Int32))), (.ref y)])) rfl (by rw [hml]; rfl) (Steps.refl _) (argsL := [(.int (j + (2 : Int32)))]) (rest := []) (lenOf pd_20 rfl) rfl (by show 2 * 0 + _ ≤ _; exact Nat.le_of_eq rfl) (hb hby d31_40) (fun _ _ => ⟨rfl, e102, (by decide : 0 + 0 ≤ _), (by decide : 0 + 0 ≤ _)⟩)
  dsimp only [Pt.U, Pt.locs, Pt.cells, Pt.slots] at X103 l103 y103 z103 st103 hQ103
  subst l103 y103 z103
  obtain ⟨rfl, rfl, hh103⟩ := hQ103
  have N103q : Fr n0 ([] : List Loc) := Fr.nil n0
  have e103 : T103.heap = h0 := hh103
  have N103 := Fr.app N102 N103q
  obtain ⟨fs, hr, hrun, hended, hW, hsame⟩ := X103.leave (v := some (.int (1 : Int32))) (fun h => by rw [Bd.returns] at h; cases h)
  refine ⟨_, _, pre0 _ ?_, hrun, hended, _, _, rfl, ?_, ⟨_, rfl⟩, hW, hsame.mono (by decide) (by decide)⟩
  · show Steps p.tables e below (s₁.setTop (mkF m 0 #[.val (.ref y), .val (.int j), .val (.int (3 : Int32)), .val (.int x0), .val (.int x1), .val (.int x2)] [])) _
    refine XS.iloadN X0.here hx rfl (hb hby d31_0) rfl ?_
    show Steps p.tables e below (s₁.setTop (mkF m 1 #[.val (.ref y), .val (.int j), .val (.int (3 : Int32)), .val (.int x0), .val (.int x1), .val (.int x2)] [(.int (3 : Int32))])) _
    refine XS.iconst X0.here hx rfl (hb hby d31_1) ?_
    show Steps p.tables e below (s₁.setTop (mkF m 2 #[.val (.ref y), .val (.int j), .val (.int (3 : Int32)), .val (.int x0), .val (.int x1), .val (.int x2)] [(.int (1 : Int32)), (.int (3 : Int32))])) _
    refine XS.icmpNo X0.here hx rfl (hb hby d31_2) rfl (flt (by decide : ¬ ((3 : Int32) < (1 : Int32)))).1 ?_
    show Steps p.tables e below (s₁.setTop (mkF m 5 #[.val (.ref y), .val (.int j), .val (.int (3 : Int32)), .val (.int x0), .val (.int x1), .val (.int x2)] [])) _
    refine XS.aloadN X0.here hx rfl (hb hby d31_5) rfl rfl ?_
    show Steps p.tables e below (s₁.setTop (mkF m 6 #[.val (.ref y), .val (.int j), .val (.int (3 : Int32)), .val (.int x0), .val (.int x1), .val (.int x2)] [(.ref y)])) _
    refine XS.iloadN X0.here hx rfl (hb hby d31_6) rfl ?_
    show Steps p.tables e below (s₁.setTop (mkF m 7 #[.val (.ref y), .val (.int j), .val (.int (3 : Int32)), .val (.int x0), .val (.int x1), .val (.int x2)] [(.int j), (.ref y)])) _
    refine st101.trans ?_
    show Steps p.tables e below (T101.setTop (mkF m 10 #[.val (.ref y), .val (.int j), .val (.int (3 : Int32)), .val (.int x0), .val (.int x1), .val (.int x2)] [(.int (cs.getD i_ 0))])) _
    refine XS.iloadN X101.here hx rfl (hb hby d31_10) rfl ?_
    show Steps p.tables e below (T101.setTop (mkF m 11 #[.val (.ref y), .val (.int j), .val (.int (3 : Int32)), .val (.int x0), .val (.int x1), .val (.int x2)] [(.int x0), (.int (cs.getD i_ 0))])) _
    refine XS.icmpNo X101.here hx rfl (hb hby d31_11) rfl (teq e0_).2 ?_
    show Steps p.tables e below (T101.setTop (mkF m 14 #[.val (.ref y), .val (.int j), .val (.int (3 : Int32)), .val (.int x0), .val (.int x1), .val (.int x2)] [])) _
    refine XS.iloadN X101.here hx rfl (hb hby d31_14) rfl ?_
    show Steps p.tables e below (T101.setTop (mkF m 15 #[.val (.ref y), .val (.int j), .val (.int (3 : Int32)), .val (.int x0), .val (.int x1), .val (.int x2)] [(.int (3 : Int32))])) _
    refine XS.iconst X101.here hx rfl (hb hby d31_15) ?_
    show Steps p.tables e below (T101.setTop (mkF m 16 #[.val (.ref y), .val (.int j), .val (.int (3 : Int32)), .val (.int x0), .val (.int x1), .val (.int x2)] [(.int (2 : Int32)), (.int (3 : Int32))])) _
    refine XS.icmpNo X101.here hx rfl (hb hby d31_16) rfl (flt (by decide : ¬ ((3 : Int32) < (2 : Int32)))).1 ?_
    show Steps p.tables e below (T101.setTop (mkF m 19 #[.val (.ref y), .val (.int j), .val (.int (3 : Int32)), .val (.int x0), .val (.int x1), .val (.int x2)] [])) _
    refine XS.aloadN X101.here hx rfl (hb hby d31_19) rfl rfl ?_
    show Steps p.tables e below (T101.setTop (mkF m 20 #[.val (.ref y), .val (.int j), .val (.int (3 : Int32)), .val (.int x0), .val (.int x1), .val (.int x2)] [(.ref y)])) _
    refine XS.iloadN X101.here hx rfl (hb hby d31_20) rfl ?_
    show Steps p.tables e below (T101.setTop (mkF m 21 #[.val (.ref y), .val (.int j), .val (.int (3 : Int32)), .val (.int x0), .val (.int x1), .val (.int x2)] [(.int j), (.ref y)])) _
    refine XS.iconst X101.here hx rfl (hb hby d31_21) ?_
    show Steps p.tables e below (T101.setTop (mkF m 22 #[.val (.ref y), .val (.int j), .val (.int (3 : Int32)), .val (.int x0), .val (.int x1), .val (.int x2)] [(.int (1 : Int32)), (.int j), (.ref y)])) _
    refine XS.iadd X101.here hx rfl (hb hby d31_22) rfl ?_
    show Steps p.tables e below (T101.setTop (mkF m 23 #[.val (.ref y), .val (.int j), .val (.int (3 : Int32)), .val (.int x0), .val (.int x1), .val (.int x2)] [(.int (j + (1 : Int32))), (.ref y)])) _
    refine st102.trans ?_
    show Steps p.tables e below (T102.setTop (mkF m 26 #[.val (.ref y), .val (.int j), .val (.int (3 : Int32)), .val (.int x0), .val (.int x1), .val (.int x2)] [(.int (cs.getD (i_ + 1) 0))])) _
    refine XS.iload X102.here hx rfl (hb hby d31_26) rfl ?_
    show Steps p.tables e below (T102.setTop (mkF m 28 #[.val (.ref y), .val (.int j), .val (.int (3 : Int32)), .val (.int x0), .val (.int x1), .val (.int x2)] [(.int x1), (.int (cs.getD (i_ + 1) 0))])) _
    refine XS.icmpNo X102.here hx rfl (hb hby d31_28) rfl (teq e1_).2 ?_
    show Steps p.tables e below (T102.setTop (mkF m 31 #[.val (.ref y), .val (.int j), .val (.int (3 : Int32)), .val (.int x0), .val (.int x1), .val (.int x2)] [])) _
    refine XS.iloadN X102.here hx rfl (hb hby d31_31) rfl ?_
    show Steps p.tables e below (T102.setTop (mkF m 32 #[.val (.ref y), .val (.int j), .val (.int (3 : Int32)), .val (.int x0), .val (.int x1), .val (.int x2)] [(.int (3 : Int32))])) _
    refine XS.iconst X102.here hx rfl (hb hby d31_32) ?_
    show Steps p.tables e below (T102.setTop (mkF m 33 #[.val (.ref y), .val (.int j), .val (.int (3 : Int32)), .val (.int x0), .val (.int x1), .val (.int x2)] [(.int (3 : Int32)), (.int (3 : Int32))])) _
    refine XS.icmpNo X102.here hx rfl (hb hby d31_33) rfl (flt (by decide : ¬ ((3 : Int32) < (3 : Int32)))).1 ?_
    show Steps p.tables e below (T102.setTop (mkF m 36 #[.val (.ref y), .val (.int j), .val (.int (3 : Int32)), .val (.int x0), .val (.int x1), .val (.int x2)] [])) _
    refine XS.aloadN X102.here hx rfl (hb hby d31_36) rfl rfl ?_
    show Steps p.tables e below (T102.setTop (mkF m 37 #[.val (.ref y), .val (.int j), .val (.int (3 : Int32)), .val (.int x0), .val (.int x1), .val (.int x2)] [(.ref y)])) _
    refine XS.iloadN X102.here hx rfl (hb hby d31_37) rfl ?_
    show Steps p.tables e below (T102.setTop (mkF m 38 #[.val (.ref y), .val (.int j), .val (.int (3 : Int32)), .val (.int x0), .val (.int x1), .val (.int x2)] [(.int j), (.ref y)])) _
    refine XS.iconst X102.here hx rfl (hb hby d31_38) ?_
    show Steps p.tables e below (T102.setTop (mkF m 39 #[.val (.ref y), .val (.int j), .val (.int (3 : Int32)), .val (.int x0), .val (.int x1), .val (.int x2)] [(.int (2 : Int32)), (.int j), (.ref y)])) _
    refine XS.iadd X102.here hx rfl (hb hby d31_39) rfl ?_
    show Steps p.tables e below (T102.setTop (mkF m 40 #[.val (.ref y), .val (.int j), .val (.int (3 : Int32)), .val (.int x0), .val (.int x1), .val (.int x2)] [(.int (j + (2 : Int32))), (.ref y)])) _
    refine st103.trans ?_
    show Steps p.tables e below (T103.setTop (mkF m 43 #[.val (.ref y), .val (.int j), .val (.int (3 : Int32)), .val (.int x0), .val (.int x1), .val (.int x2)] [(.int (cs.getD (i_ + 2) 0))])) _
    refine XS.iload X103.here hx rfl (hb hby d31_43) rfl ?_
    show Steps p.tables e below (T103.setTop (mkF m 45 #[.val (.ref y), .val (.int j), .val (.int (3 : Int32)), .val (.int x0), .val (.int x1), .val (.int x2)] [(.int x2), (.int (cs.getD (i_ + 2) 0))])) _
    refine XS.icmpNo X103.here hx rfl (hb hby d31_45) rfl (teq e2_).2 ?_
    show Steps p.tables e below (T103.setTop (mkF m 48 #[.val (.ref y), .val (.int j), .val (.int (3 : Int32)), .val (.int x0), .val (.int x1), .val (.int x2)] [])) _
    refine XS.iconst X103.here hx rfl (hb hby d31_48) ?_
    show Steps p.tables e below (T103.setTop (mkF m 49 #[.val (.ref y), .val (.int j), .val (.int (3 : Int32)), .val (.int x0), .val (.int x1), .val (.int x2)] [(.int (1 : Int32))])) _
    refine XS.goto X103.here hx rfl (pc0 := 49) (pc' := 53) rfl (hb hby d31_49) (by decide) (by decide) ?_
    show Steps p.tables e below (T103.setTop (mkF m 53 #[.val (.ref y), .val (.int j), .val (.int (3 : Int32)), .val (.int x0), .val (.int x1), .val (.int x2)] [(.int (1 : Int32))])) _
    exact retN X103 hx (t := .boolean) Bd.returns (by simp) (hb hby d31_53) hr
  · show QP (.int (1 : Int32)) h0 n0 _ T103.heap _
    rw [e103]
    exact ⟨rfl, N103, rfl⟩
def ChOK (cs : List Int32) (i_ : Nat) (j k x0 x1 x2 : Int32) : Prop := (k = 0) ∨ (k = 1 ∧ (i_ < cs.length ∧ j = Int32.ofNat i_ ∧ cs.getD i_ 0 = x0)) ∨ (k = 2 ∧ (i_ < cs.length ∧ j = Int32.ofNat i_ ∧ cs.getD i_ 0 = x0) ∧ ((i_ + 1) < cs.length ∧ (j + (1 : Int32)) = Int32.ofNat (i_ + 1) ∧ cs.getD (i_ + 1) 0 = x1)) ∨ (k = 3 ∧ (i_ < cs.length ∧ j = Int32.ofNat i_ ∧ cs.getD i_ 0 = x0) ∧ ((i_ + 1) < cs.length ∧ (j + (1 : Int32)) = Int32.ofNat (i_ + 1) ∧ cs.getD (i_ + 1) 0 = x1) ∧ ((i_ + 2) < cs.length ∧ (j + (2 : Int32)) = Int32.ofNat (i_ + 2) ∧ cs.getD (i_ + 2) 0 = x2))
theorem rmC (l : Launch) (Z : State) (a0 : Array Value) (hw : ∀ d ∈ tables_1, d.before a0 Z = true) (ws : List Jvm.Cond) (y : Addr) (j k x0 x1 x2 G1 : Int32) (G3 : Value) (i_ : Nat) (cs : List Int32) (h0 : Heap) (n0 : Nat) (O0 : Old Z n0 h0) (S_CS : Sta Z Z.heap "java/lang/String" "COMPACT_STRINGS" "Z" (.int G1)) (hG1 : ¬ (G1 = (0 : Int32))) (S_SF : Sta Z Z.heap "jdk/internal/util/Preconditions" "SIOOBE_FORMATTER" "Ljava/util/function/BiFunction;" G3) (rG3 : G3.isRef = true) (T : Str Z h0 y cs) (hk : ChOK cs i_ j k x0 x1 x2) :
    MetFree l (⟨"com/example/postback/postback/aurpay/AurpaySignatureSignedStringPinLaw", "chk", "(Ljava/lang/String;IICCC)Z"⟩ : MethodName) (head1 (Jvm.Cond.code (⟨"com/example/postback/postback/aurpay/AurpaySignatureSignedStringPinLaw", "chk", "(Ljava/lang/String;IICCC)Z"⟩ : MethodName) method_4_code 6 (some .boolean) :: ws) ({ frames := 4, cells := 0, slots := 0, locals := 53 } : Room)) (fun a_ U => a_ = #[(.ref y), (.int j), (.int k), (.int x0), (.int x1), (.int x2)] ∧ Z.Warmed39 U.vm ∧ U.heap = h0) (fun _ _ _ _ _ => True) (fun _ U o U' => ∃ v L, o = .returned v ∧ QP (.int (1 : Int32)) h0 n0 v U'.heap L ∧ FrameEnd U o U' L ({ frames := 4, cells := 0, slots := 0, locals := 53 } : Room).cells ({ frames := 4, cells := 0, slots := 0, locals := 53 } : Room).slots) := by
  rcases hk with rfl | ⟨rfl, u0, u1, u2⟩ | ⟨rfl, ⟨u0, u1, u2⟩, v0, v1, v2⟩ | ⟨rfl, ⟨u0, u1, u2⟩, ⟨v0, v1, v2⟩, z0, z1, z2⟩
  · exact rmC_0 l Z a0 hw ws y j x0 x1 x2 G1 G3 i_ cs h0 n0 O0 S_CS hG1 S_SF rG3 T
  · exact rmC_1 l Z a0 hw ws y j x0 x1 x2 G1 G3 i_ cs h0 n0 O0 S_CS hG1 S_SF rG3 T u0 u1 u2
  · exact rmC_2 l Z a0 hw ws y j x0 x1 x2 G1 G3 i_ cs h0 n0 O0 S_CS hG1 S_SF rG3 T u0 u1 u2 v0 v1 v2
  · exact rmC_3 l Z a0 hw ws y j x0 x1 x2 G1 G3 i_ cs h0 n0 O0 S_CS hG1 S_SF rG3 T u0 u1 u2 v0 v1 v2 z0 z1 z2
def Q0 (h0 : Heap) (n0 : Nat) (v : Option Value) (h : Heap) (L : List Loc) : Prop := v = some (.int (1 : Int32)) ∧ Fr n0 L
theorem pd_21 : parseMethodDescriptor "(ICCC)Ljava/lang/String;" = some ⟨[.int, .char, .char, .char], some (.object "java/lang/String")⟩ := by decide +kernel
theorem pd_22 : parseMethodDescriptor "(Ljava/lang/String;Ljava/lang/String;)Ljava/lang/String;" = some ⟨[(.object "java/lang/String"), (.object "java/lang/String")], some (.object "java/lang/String")⟩ := by decide +kernel
theorem pd_23 : parseMethodDescriptor "(Ljava/lang/String;IICCC)Z" = some ⟨[(.object "java/lang/String"), .int, .int, .char, .char, .char], some .boolean⟩ := by decide +kernel
theorem ef_III_14m (m : MethodId) (x0 : Int32) (x1 : Int32) (x2 : Int32) : entryFrame m #[(.int x0), (.int x1), (.int x2)] maxLocals = mkF m 0 #[.val (.int x0), .val (.int x1), .val (.int x2), .unset, .unset, .unset, .unset, .unset, .unset, .unset, .unset, .unset, .unset, .unset] [] := by first | (simp [entryFrame, mkF, argsToLocals, Value.category, maxLocals]; done) | rfl
set_option maxRecDepth 65536 in
set_option maxHeartbeats 40000000 in
theorem rm0 (l : Launch) (Z : State) (a0 : Array Value) (hw : ∀ d ∈ tables_1, d.before a0 Z = true) (ws : List Jvm.Cond) (p1 p2 p3 a b c0 c1 c2 c3 c4 c5 G1 n1 n2 n3 : Int32) (G3 : Value) (m_ ib i_ : Nat) (ca cb cs : List Int32) (v1 v2 v3 : List Value) (h0 : Heap) (n0 : Nat) (O0 : Old Z n0 h0) (S_CS : Sta Z Z.heap "java/lang/String" "COMPACT_STRINGS" "Z" (.int G1)) (hG1 : ¬ (G1 = (0 : Int32))) (S_SF : Sta Z Z.heap "jdk/internal/util/Preconditions" "SIOOBE_FORMATTER" "Ljava/util/function/BiFunction;" G3) (rG3 : G3.isRef = true) (hr0 : ¬ c0 < 0 ∧ ¬ (255 : Int32) < c0) (hr1 : ¬ c1 < 0 ∧ ¬ (255 : Int32) < c1) (hr2 : ¬ c2 < 0 ∧ ¬ (255 : Int32) < c2) (hr3 : ¬ c3 < 0 ∧ ¬ (255 : Int32) < c3) (hr4 : ¬ c4 < 0 ∧ ¬ (255 : Int32) < c4) (hr5 : ¬ c5 < 0 ∧ ¬ (255 : Int32) < c5) (hma : MkOK a c0 c1 c2 ca) (hmb : MkOK b c3 c4 c5 cb) (hca : CpOK (0 : Int32) ca.length (ca.map (fun c => Value.int (StrChars.lo8 c))) [.int (0 : Int32), .int (0 : Int32), .int (0 : Int32), .int (0 : Int32), .int (0 : Int32), .int (0 : Int32), .int (0 : Int32), .int (0 : Int32), .int (0 : Int32), .int (0 : Int32), .int (0 : Int32), .int (0 : Int32), .int (0 : Int32), .int (0 : Int32), .int (0 : Int32), .int (0 : Int32)] v1) (hea : ¬ ((0 : Int32) < (((0 : Int32) + (Int32.ofNat ca.length)) - ((16 : Int32) >>> ((0 : Int32) &&& 31))))) (hna : (0 : Int32) + (Int32.ofNat ca.length) = n1) (hcb : CpOK n1 ([(32 : Int32), (124 : Int32), (32 : Int32)] : List Int32).length (([(32 : Int32), (124 : Int32), (32 : Int32)] : List Int32).map (fun c => Value.int (StrChars.lo8 c))) v1 v2) (heb : ¬ ((0 : Int32) < ((n1 + (Int32.ofNat ([(32 : Int32), (124 : Int32), (32 : Int32)] : List Int32).length)) - ((16 : Int32) >>> ((0 : Int32) &&& 31))))) (hnb : n1 + (Int32.ofNat ([(32 : Int32), (124 : Int32), (32 : Int32)] : List Int32).length) = n2) (hcc : CpOK n2 cb.length (cb.map (fun c => Value.int (StrChars.lo8 c))) v2 v3) (hec : ¬ ((0 : Int32) < ((n2 + (Int32.ofNat cb.length)) - ((16 : Int32) >>> ((0 : Int32) &&& 31))))) (hnc : n2 + (Int32.ofNat cb.length) = n3) (hcr : CrOK n3 m_ v3 (cs.map (fun c => Value.int (StrChars.lo8 c)))) (hk : n3 = Int32.ofNat cs.length) (hpc : ∀ c ∈ cs, ¬ c < 0 ∧ ¬ (255 : Int32) < c) (hlc : cs.length ≤ 4000) (hlen : Int32.ofNat cs.length = ((a + (3 : Int32)) + b)) (hka : ChOK cs 0 (0 : Int32) a c0 c1 c2) (hkb : ChOK cs ib ((a + (3 : Int32))) b c3 c4 c5) (l0_ : i_ < cs.length) (l1_ : (i_ + 1) < cs.length) (l2_ : (i_ + 2) < cs.length) (j0_ : a = Int32.ofNat i_) (j1_ : (a + (1 : Int32)) = Int32.ofNat (i_ + 1)) (j2_ : (a + (2 : Int32)) = Int32.ofNat (i_ + 2)) (e0_ : cs.getD i_ 0 = (32 : Int32)) (e1_ : cs.getD (i_ + 1) 0 = (124 : Int32)) (e2_ : cs.getD (i_ + 2) 0 = (32 : Int32)) (ha_ : (p3 &&& (3 : Int32)) = a) (hb_ : (((p3.toUInt32 >>> ((2 : Int32) &&& 31).toUInt32).toInt32) &&& (3 : Int32)) = b) (hd0 : ((p1 &&& (255 : Int32)).toUInt32.toUInt16.toUInt32.toInt32) = c0) (hd1 : ((((p1.toUInt32 >>> ((8 : Int32) &&& 31).toUInt32).toInt32) &&& (255 : Int32)).toUInt32.toUInt16.toUInt32.toInt32) = c1) (hd2 : ((((p1.toUInt32 >>> ((16 : Int32) &&& 31).toUInt32).toInt32) &&& (255 : Int32)).toUInt32.toUInt16.toUInt32.toInt32) = c2) (hd3 : ((p2 &&& (255 : Int32)).toUInt32.toUInt16.toUInt32.toInt32) = c3) (hd4 : ((((p2.toUInt32 >>> ((8 : Int32) &&& 31).toUInt32).toInt32) &&& (255 : Int32)).toUInt32.toUInt16.toUInt32.toInt32) = c4) (hd5 : ((((p2.toUInt32 >>> ((16 : Int32) &&& 31).toUInt32).toInt32) &&& (255 : Int32)).toUInt32.toUInt16.toUInt32.toInt32) = c5) :
    MetFree l x (head1 (Jvm.Cond.code x code maxLocals ret :: ws) room_1) (fun a_ U => a_ = #[(.int p1), (.int p2), (.int p3)] ∧ Z.Warmed39 U.vm ∧ U.heap = h0 ∧ CHv Z consts_1 U.vm h0) (fun _ _ _ _ _ => True) (fun _ U o U' => ∃ v L, o = .returned v ∧ Q0 h0 n0 v U'.heap L ∧ CHr Z consts_1 U.vm U.heap U'.vm U'.heap ∧ ReturnedEndW U o U' L room_1.cells room_1.slots) := by
  refine MetFree.of_bodySF (plainFor_of_name pn_6) hisR ?_
  intro p e s m args below meth c s₁ Bd hml0 hP hK
  obtain ⟨rfl, hZ, hh, hC⟩ := hP
  have hx := Bd.exec
  have hby := Bd.bytes
  have hml : c.maxLocals = 14 := hml0
  have hown : s.vm.findClass "com/example/postback/postback/aurpay/AurpaySignatureSignedStringPinLaw" = some m.cls := findClass_of_methodNamed Bd.named
  have hnm := (name_of_methodNamed Bd.named Bd.method).1
  have X0 : Stand p l e room_1 (s.setVm s.vm) m #[(.int p1), (.int p2), (.int p3)] below meth c s₁ [] 0 0 := Stand.of_body Bd
  have e0 : s₁.heap = h0 := by rw [← hh, Bd.state]; rfl
  have N0 := Fr.nil n0
  have pre0 : ∀ tg, Steps p.tables e below (s₁.setTop (mkF m 0 #[.val (.int p1), .val (.int p2), .val (.int p3), .unset, .unset, .unset, .unset, .unset, .unset, .unset, .unset, .unset, .unset, .unset] [])) tg → Steps p.tables e below (s₁.setTop (entryFrame m #[(.int p1), (.int p2), (.int p3)] maxLocals)) tg := fun tg kq => castTop (ef_III_14m m p1 p2 p3) kq
  have hS0 : s.Since s.vm h0.size := (State.WarmedH.refl s).since _
  have hk0 : h0.size ≤ h0.size := Nat.le_refl _
  have CR0 : CHr Z consts_1 s.vm h0 s.vm h0 := CHr.refl hC
  obtain ⟨_, _, ⟨T101, L101, k101, n101⟩, -, Xr101, hSr101, gr101, ⟨Lc101, hQ101, l101, y101, z101, CSr101⟩, st101⟩ := Jvm.RoadKit.callSS X0 hx (y := (⟨"com/example/postback/postback/aurpay/AurpaySignatureSignedStringPinLaw", "make", "(ICCC)Ljava/lang/String;"⟩ : MethodName)) hown (mvT hZ (wi hw 0 rfl)) (mvT hZ (wi hw 1 rfl)) (mvT hZ (wi hw 2 rfl)) (mvT hZ (wi hw 3 rfl)) (by decide) (backOfSH (W := 0) (rmM l Z a0 hw [] a c0 c1 c2 G1 ca h0 n0 O0 S_CS hG1 hr0 hr1 hr2 hma) hZ (wi hw 3 rfl) (wi hw 2 rfl) (by decide) (by decide) (own_EW hw) CR0.1) (g := (mkF m 78 #[.val (.int p1), .val (.int p2), .val (.int p3), .val (.int a), .val (.int b), .val (.int c0), .val (.int c1), .val (.int c2), .val (.int c3), .val (.int c4), .val (.int c5), .unset, .unset, .unset] [(.int c2), (.int c1), (.int c0), (.int a)])) rfl (by rw [hml]; rfl) (argsL := [(.int a), (.int c0), (.int c1), (.int c2)]) (rest := []) (lenOf pd_21 rfl) rfl (by show 2 * 0 + _ ≤ _; exact Nat.le_of_eq rfl) (hb hby at_78) (fun _ _ => ⟨rfl, e0, (by decide : 0 + 6 ≤ _), (by decide : 0 + 12 ≤ _)⟩)
  dsimp only [Pt.U, Pt.locs, Pt.cells, Pt.slots] at Xr101 l101 y101 z101 st101 hQ101 hSr101 gr101 CSr101
  subst l101 y101 z101
  obtain ⟨X101, hS101, hZ101, hown101⟩ := rebS hS0 (by rw [e0]; exact hk0) Xr101 hSr101 gr101 hZ hown
  obtain ⟨y101, rfl, N101q, K101, sz101q, T101q⟩ := hQ101
  obtain ⟨h101, e101⟩ : ∃ z, T101.heap = z := ⟨_, rfl⟩
  rw [e101] at K101 T101q
  obtain ⟨tma, kbma, Nma, vsma, sEma, sVma, sCma, sKma, scdma, shpma, shlma⟩ := id T101q
  have g_y101 : n0 ≤ y101 := Nat.le_trans (O0.1 ▸ O0.2.1) sz101q
  have sz_y101 : h0.size ≤ y101 := Nat.le_trans (Nat.le_refl _) sz101q
  rw [e101] at CSr101
  have O101 := O0.keep K101 all0
  have CS101 := CSr101
  have CR101 := CR0.trans CS101
  have KK101 : Keep h0 h101 [] := (Keep.refl h0 []).trans K101 all0
  rw [e101] at hS101
  have N101 := Fr.app N0 N101q
  obtain ⟨_, _, ⟨T102, L102, k102, n102⟩, -, Xr102, hSr102, gr102, ⟨Lc102, hQ102, l102, y102, z102, CSr102⟩, st102⟩ := Jvm.RoadKit.callSS X101 hx (y := (⟨"com/example/postback/postback/aurpay/AurpaySignatureSignedStringPinLaw", "make", "(ICCC)Ljava/lang/String;"⟩ : MethodName)) hown101 (mvT hZ101 (wi hw 0 rfl)) (mvT hZ101 (wi hw 1 rfl)) (mvT hZ101 (wi hw 2 rfl)) (mvT hZ101 (wi hw 3 rfl)) (by decide) (backOfSH (W := 0) (rmM l Z a0 hw [] b c3 c4 c5 G1 cb h101 n0 O101 S_CS hG1 hr3 hr4 hr5 hmb) hZ101 (wi hw 3 rfl) (wi hw 2 rfl) (by decide) (by decide) (own_EW hw) CR101.1) (g := (mkF m 91 #[.val (.int p1), .val (.int p2), .val (.int p3), .val (.int a), .val (.int b), .val (.int c0), .val (.int c1), .val (.int c2), .val (.int c3), .val (.int c4), .val (.int c5), .val (.ref y101), .unset, .unset] [(.int c5), (.int c4), (.int c3), (.int b)])) rfl (by rw [hml]; rfl) (argsL := [(.int b), (.int c3), (.int c4), (.int c5)]) (rest := []) (lenOf pd_21 rfl) rfl (by show 2 * 0 + _ ≤ _; exact Nat.le_of_eq rfl) (hb hby at_91) (fun _ _ => ⟨rfl, e101, (by decide : 6 + 6 ≤ _), (by decide : 12 + 12 ≤ _)⟩)
  dsimp only [Pt.U, Pt.locs, Pt.cells, Pt.slots] at Xr102 l102 y102 z102 st102 hQ102 hSr102 gr102 CSr102
  subst l102 y102 z102
  obtain ⟨X102, hS102, hZ102, hown102⟩ := rebS hS101 (by rw [e101]; exact (Nat.le_refl _)) Xr102 hSr102 gr102 hZ101 hown101
  obtain ⟨y102, rfl, N102q, K102, sz102q, T102q⟩ := hQ102
  obtain ⟨h102, e102⟩ : ∃ z, T102.heap = z := ⟨_, rfl⟩
  rw [e102] at K102 T102q
  obtain ⟨tmb, kbmb, Nmb, vsmb, sEmb, sVmb, sCmb, sKmb, scdmb, shpmb, shlmb⟩ := id T102q
  have g_y102 : n0 ≤ y102 := Nat.le_trans (O101.1 ▸ O101.2.1) sz102q
  have sz_y102 : h0.size ≤ y102 := Nat.le_trans KK101.1 sz102q
  rw [e102] at CSr102
  have O102 := O101.keep K102 all0
  have CS102 := CSr102
  have CR102 := CR101.trans CS102
  have KK102 : Keep h0 h102 [] := KK101.trans K102 all0
  rw [e102] at hS102
  have N102 := Fr.app N101 N102q
  have fE_y101_2_103 := (sEma.keep K102)
  have fString_value_2_104 := (sVma.keep K102 nin0)
  have fString_coder_2_105 := (sCma.keep K102 nin0)
  have fV_tma_2_106 := (sKma.keep K102 nin0)
  obtain ⟨_, _, ⟨T107, L107, k107, n107⟩, -, Xr107, hSr107, gr107, ⟨Lc107, hQ107, l107, y107, z107, CSr107⟩, st107⟩ := Jvm.RoadKit.callSS X102 hx (y := (⟨"com/example/postback/postback/aurpay/AurpaySignature", "signedString", "(Ljava/lang/String;Ljava/lang/String;)Ljava/lang/String;"⟩ : MethodName)) hown102 (mvT hZ102 (wi hw 37 rfl)) (mvT hZ102 (wi hw 38 rfl)) (mvT hZ102 (wi hw 39 rfl)) (mvT hZ102 (wi hw 40 rfl)) (by decide) (backOfSH (W := 0) (rmSG l Z a0 hw [] y101 y102 G1 n1 n2 n3 m_ ca cb cs v1 v2 v3 h102 n0 O102 S_CS hG1 ⟨_, _, _, _, fE_y101_2_103, fString_value_2_104, fString_coder_2_105, fV_tma_2_106, scdma, shpma, shlma⟩ ⟨_, _, _, _, sEmb, sVmb, sCmb, sKmb, scdmb, shpmb, shlmb⟩ hca hea hna hcb heb hnb hcc hec hnc hcr hk hpc hlc) hZ102 (wi hw 40 rfl) (wi hw 39 rfl) (by decide) (by decide) (own_EW hw) CR102.1) (g := (mkF m 100 #[.val (.int p1), .val (.int p2), .val (.int p3), .val (.int a), .val (.int b), .val (.int c0), .val (.int c1), .val (.int c2), .val (.int c3), .val (.int c4), .val (.int c5), .val (.ref y101), .val (.ref y102), .unset] [(.ref y102), (.ref y101)])) rfl (by rw [hml]; rfl) (argsL := [(.ref y101), (.ref y102)]) (rest := []) (lenOf pd_22 rfl) rfl (by show 2 * 0 + _ ≤ _; exact Nat.le_of_eq rfl) (hb hby at_100) (fun _ _ => ⟨rfl, e102, (by decide : 12 + 10 ≤ _), (by decide : 24 + 92 ≤ _)⟩)
  dsimp only [Pt.U, Pt.locs, Pt.cells, Pt.slots] at Xr107 l107 y107 z107 st107 hQ107 hSr107 gr107 CSr107
  subst l107 y107 z107
  obtain ⟨X107, hS107, hZ107, hown107⟩ := rebS hS102 (by rw [e102]; exact (Nat.le_refl _)) Xr107 hSr107 gr107 hZ102 hown102
  obtain ⟨y107, rfl, N107q, K107, sz107q, T107q⟩ := hQ107
  obtain ⟨h107, e107⟩ : ∃ z, T107.heap = z := ⟨_, rfl⟩
  rw [e107] at K107 T107q
  obtain ⟨tmr, kbmr, Nmr, vsmr, sEmr, sVmr, sCmr, sKmr, scdmr, shpmr, shlmr⟩ := id T107q
  have g_y107 : n0 ≤ y107 := Nat.le_trans (O102.1 ▸ O102.2.1) sz107q
  have sz_y107 : h0.size ≤ y107 := Nat.le_trans KK102.1 sz107q
  rw [e107] at CSr107
  have O107 := O102.keep K107 all0
  have CS107 := CSr107
  have CR107 := CR102.trans CS107
  have KK107 : Keep h0 h107 [] := KK102.trans K107 all0
  rw [e107] at hS107
  have N107 := Fr.app N102 N107q
  obtain ⟨cq108, kq108, q108a, q108b, q108c⟩ := isOf hZ107 e107 sEmr
  obtain ⟨_, _, ⟨T108, L108, k108, n108⟩, -, X108, ⟨Lc108, hQ108, l108, y108, z108⟩, st108⟩ := X107.virtualBack hx (y := (⟨"java/lang/String", "length", "()I"⟩ : MethodName)) (z := (⟨"java/lang/String", "length", "()I"⟩ : MethodName)) hown107 (mvT hZ107 (wi hw 159 rfl)) (mvT hZ107 (wi hw 76 rfl)) (notFace_of_selects (args := #[]) (mvT hZ107 (wi hw 78 rfl))) (mvT hZ107 (wi hw 78 rfl)) (mvT hZ107 (wi hw 77 rfl)) (by decide) (StrChars.Road.lenW (W := 0) hZ107 (fun d hd => hw d (own_w_lenW d hd)) (kI := 4) (wi hw 5 rfl) sEmr sVmr sCmr sKmr scdmr (own_up _ shpmr) (S_CS.ext O107.2) hG1 shlmr (by decide) (by decide)) q108a q108c (g := (mkF m 114 #[.val (.int p1), .val (.int p2), .val (.int p3), .val (.int a), .val (.int b), .val (.int c0), .val (.int c1), .val (.int c2), .val (.int c3), .val (.int c4), .val (.int c5), .val (.ref y101), .val (.ref y102), .val (.ref y107)] [(.ref y107)])) rfl (by rw [hml]; rfl) (Steps.refl _) (argsL := []) (rest := []) (lenOf pd_3 rfl) rfl (by show 2 * 0 + _ ≤ _; exact Nat.le_of_eq rfl) (hb hby at_114) (fun _ _ => ⟨rfl, e107, (by decide : 22 + 0 ≤ _), (by decide : 116 + 0 ≤ _)⟩)
  dsimp only [Pt.U, Pt.locs, Pt.cells, Pt.slots] at X108 l108 y108 z108 st108 hQ108
  subst l108 y108 z108
  obtain ⟨rfl, rfl, hh108⟩ := hQ108
  have N108q : Fr n0 ([] : List Loc) := Fr.nil n0
  have e108 : T108.heap = h107 := hh108
  have N108 := Fr.app N107 N108q
  obtain ⟨_, _, ⟨T109, L109, k109, n109⟩, -, X109, ⟨Lc109, hQ109, l109, y109, z109⟩, st109⟩ := Jvm.LawKit.callS X108 hx (y := (⟨"com/example/postback/postback/aurpay/AurpaySignatureSignedStringPinLaw", "chk", "(Ljava/lang/String;IICCC)Z"⟩ : MethodName)) hown107 (mvT hZ107 (wi hw 160 rfl)) (mvT hZ107 (wi hw 161 rfl)) (mvT hZ107 (wi hw 2 rfl)) (mvT hZ107 (wi hw 162 rfl)) (by decide) (backOf (W := 0) (rmC l Z a0 hw [] y107 (0 : Int32) a c0 c1 c2 G1 G3 0 cs h107 n0 O107 S_CS hG1 S_SF rG3 ⟨_, _, _, _, sEmr, sVmr, sCmr, sKmr, scdmr, shpmr, shlmr⟩ hka) hZ107 (wi hw 162 rfl) (wi hw 2 rfl) (by decide) (by decide)) (g := (mkF m 138 #[.val (.int p1), .val (.int p2), .val (.int p3), .val (.int a), .val (.int b), .val (.int c0), .val (.int c1), .val (.int c2), .val (.int c3), .val (.int c4), .val (.int c5), .val (.ref y101), .val (.ref y102), .val (.ref y107)] [(.int c2), (.int c1), (.int c0), (.int a), (.int (0 : Int32)), (.ref y107)])) rfl (by rw [hml]; rfl) (argsL := [(.ref y107), (.int (0 : Int32)), (.int a), (.int c0), (.int c1), (.int c2)]) (rest := []) (lenOf pd_23 rfl) rfl (by show 2 * 0 + _ ≤ _; exact Nat.le_of_eq rfl) (hb hby at_138) (fun _ _ => ⟨rfl, e108, (by decide : 22 + 0 ≤ _), (by decide : 116 + 0 ≤ _)⟩)
  dsimp only [Pt.U, Pt.locs, Pt.cells, Pt.slots] at X109 l109 y109 z109 st109 hQ109
  subst l109 y109 z109
  obtain ⟨rfl, N109q, hh109⟩ := hQ109
  have e109 : T109.heap = h107 := hh109
  have N109 := Fr.app N108 N109q
  obtain ⟨cq110, kq110, q110a, q110b, q110c⟩ := isOf hZ107 e109 sEmr
  obtain ⟨_, _, ⟨T110, L110, k110, n110⟩, -, X110, ⟨Lc110, hQ110, l110, y110, z110⟩, st110⟩ := X109.virtualBack hx (y := (⟨"java/lang/String", "charAt", "(I)C"⟩ : MethodName)) (z := (⟨"java/lang/String", "charAt", "(I)C"⟩ : MethodName)) hown107 (mvT hZ107 (wi hw 163 rfl)) (mvT hZ107 (wi hw 164 rfl)) (notFace_of_selects (args := #[]) (mvT hZ107 (wi hw 166 rfl))) (mvT hZ107 (wi hw 166 rfl)) (mvT hZ107 (wi hw 165 rfl)) (by decide) (StrChars.Road.chN (W := 0) hZ107 (fun d hd => hw d (own_w_chN d hd)) (kI := 4) (wi hw 5 rfl) sEmr sVmr sCmr sKmr scdmr (own_up _ shpmr) (S_CS.ext O107.2) hG1 (S_SF.ext O107.2) rG3 shlmr (i := i_) l0_ (j := a) j0_ (by decide) (by decide)) q110a q110c (g := (mkF m 147 #[.val (.int p1), .val (.int p2), .val (.int p3), .val (.int a), .val (.int b), .val (.int c0), .val (.int c1), .val (.int c2), .val (.int c3), .val (.int c4), .val (.int c5), .val (.ref y101), .val (.ref y102), .val (.ref y107)] [(.int a), (.ref y107)])) rfl (by rw [hml]; rfl) (Steps.refl _) (argsL := [(.int a)]) (rest := []) (lenOf pd_20 rfl) rfl (by show 2 * 0 + _ ≤ _; exact Nat.le_of_eq rfl) (hb hby at_147) (fun _ _ => ⟨rfl, e109, (by decide : 22 + 0 ≤ _), (by decide : 116 + 0 ≤ _)⟩)
  dsimp only [Pt.U, Pt.locs, Pt.cells, Pt.slots] at X110 l110 y110 z110 st110 hQ110
  subst l110 y110 z110
  obtain ⟨rfl, rfl, hh110⟩ := hQ110
  have N110q : Fr n0 ([] : List Loc) := Fr.nil n0
  have e110 : T110.heap = h107 := hh110
  have N110 := Fr.app N109 N110q
  obtain ⟨cq111, kq111, q111a, q111b, q111c⟩ := isOf hZ107 e110 sEmr
  obtain ⟨_, _, ⟨T111, L111, k111, n111⟩, -, X111, ⟨Lc111, hQ111, l111, y111, z111⟩, st111⟩ := X110.virtualBack hx (y := (⟨"java/lang/String", "charAt", "(I)C"⟩ : MethodName)) (z := (⟨"java/lang/String", "charAt", "(I)C"⟩ : MethodName)) hown107 (mvT hZ107 (wi hw 163 rfl)) (mvT hZ107 (wi hw 164 rfl)) (notFace_of_selects (args := #[]) (mvT hZ107 (wi hw 166 rfl))) (mvT hZ107 (wi hw 166 rfl)) (mvT hZ107 (wi hw 165 rfl)) (by decide) (StrChars.Road.chN (W := 0) hZ107 (fun d hd => hw d (own_w_chN d hd)) (kI := 4) (wi hw 5 rfl) sEmr sVmr sCmr sKmr scdmr (own_up _ shpmr) (S_CS.ext O107.2) hG1 (S_SF.ext O107.2) rG3 shlmr (i := (i_ + 1)) l1_ (j := (a + (1 : Int32))) j1_ (by decide) (by decide)) q111a q111c (g := (mkF m 160 #[.val (.int p1), .val (.int p2), .val (.int p3), .val (.int a), .val (.int b), .val (.int c0), .val (.int c1), .val (.int c2), .val (.int c3), .val (.int c4), .val (.int c5), .val (.ref y101), .val (.ref y102), .val (.ref y107)] [(.int (a + (1 : Int32))), (.ref y107)])) rfl (by rw [hml]; rfl) (Steps.refl _) (argsL := [(.int (a + (1 : Int32)))]) (rest := []) (lenOf pd_20 rfl) rfl (by show 2 * 0 + _ ≤ _; exact Nat.le_of_eq rfl) (hb hby at_160) (fun _ _ => ⟨rfl, e110, (by decide : 22 + 0 ≤ _), (by decide : 116 + 0 ≤ _)⟩)
  dsimp only [Pt.U, Pt.locs, Pt.cells, Pt.slots] at X111 l111 y111 z111 st111 hQ111
  subst l111 y111 z111
  obtain ⟨rfl, rfl, hh111⟩ := hQ111
  have N111q : Fr n0 ([] : List Loc) := Fr.nil n0
  have e111 : T111.heap = h107 := hh111
  have N111 := Fr.app N110 N111q
  obtain ⟨cq112, kq112, q112a, q112b, q112c⟩ := isOf hZ107 e111 sEmr
  obtain ⟨_, _, ⟨T112, L112, k112, n112⟩, -, X112, ⟨Lc112, hQ112, l112, y112, z112⟩, st112⟩ := X111.virtualBack hx (y := (⟨"java/lang/String", "charAt", "(I)C"⟩ : MethodName)) (z := (⟨"java/lang/String", "charAt", "(I)C"⟩ : MethodName)) hown107 (mvT hZ107 (wi hw 163 rfl)) (mvT hZ107 (wi hw 164 rfl)) (notFace_of_selects (args := #[]) (mvT hZ107 (wi hw 166 rfl))) (mvT hZ107 (wi hw 166 rfl)) (mvT hZ107 (wi hw 165 rfl)) (by decide) (StrChars.Road.chN (W := 0) hZ107 (fun d hd => hw d (own_w_chN d hd)) (kI := 4) (wi hw 5 rfl) sEmr sVmr sCmr sKmr scdmr (own_up _ shpmr) (S_CS.ext O107.2) hG1 (S_SF.ext O107.2) rG3 shlmr (i := (i_ + 2)) l2_ (j := (a + (2 : Int32))) j2_ (by decide) (by decide)) q112a q112c (g := (mkF m 173 #[.val (.int p1), .val (.int p2), .val (.int p3), .val (.int a), .val (.int b), .val (.int c0), .val (.int c1), .val (.int c2), .val (.int c3), .val (.int c4), .val (.int c5), .val (.ref y101), .val (.ref y102), .val (.ref y107)] [(.int (a + (2 : Int32))), (.ref y107)])) rfl (by rw [hml]; rfl) (Steps.refl _) (argsL := [(.int (a + (2 : Int32)))]) (rest := []) (lenOf pd_20 rfl) rfl (by show 2 * 0 + _ ≤ _; exact Nat.le_of_eq rfl) (hb hby at_173) (fun _ _ => ⟨rfl, e111, (by decide : 22 + 0 ≤ _), (by decide : 116 + 0 ≤ _)⟩)
  dsimp only [Pt.U, Pt.locs, Pt.cells, Pt.slots] at X112 l112 y112 z112 st112 hQ112
  subst l112 y112 z112
  obtain ⟨rfl, rfl, hh112⟩ := hQ112
  have N112q : Fr n0 ([] : List Loc) := Fr.nil n0
  have e112 : T112.heap = h107 := hh112
  have N112 := Fr.app N111 N112q
  obtain ⟨_, _, ⟨T113, L113, k113, n113⟩, -, X113, ⟨Lc113, hQ113, l113, y113, z113⟩, st113⟩ := Jvm.LawKit.callS X112 hx (y := (⟨"com/example/postback/postback/aurpay/AurpaySignatureSignedStringPinLaw", "chk", "(Ljava/lang/String;IICCC)Z"⟩ : MethodName)) hown107 (mvT hZ107 (wi hw 160 rfl)) (mvT hZ107 (wi hw 161 rfl)) (mvT hZ107 (wi hw 2 rfl)) (mvT hZ107 (wi hw 162 rfl)) (by decide) (backOf (W := 0) (rmC l Z a0 hw [] y107 (a + (3 : Int32)) b c3 c4 c5 G1 G3 ib cs h107 n0 O107 S_CS hG1 S_SF rG3 ⟨_, _, _, _, sEmr, sVmr, sCmr, sKmr, scdmr, shpmr, shlmr⟩ hkb) hZ107 (wi hw 162 rfl) (wi hw 2 rfl) (by decide) (by decide)) (g := (mkF m 194 #[.val (.int p1), .val (.int p2), .val (.int p3), .val (.int a), .val (.int b), .val (.int c0), .val (.int c1), .val (.int c2), .val (.int c3), .val (.int c4), .val (.int c5), .val (.ref y101), .val (.ref y102), .val (.ref y107)] [(.int c5), (.int c4), (.int c3), (.int b), (.int (a + (3 : Int32))), (.ref y107)])) rfl (by rw [hml]; rfl) (argsL := [(.ref y107), (.int (a + (3 : Int32))), (.int b), (.int c3), (.int c4), (.int c5)]) (rest := []) (lenOf pd_23 rfl) rfl (by show 2 * 0 + _ ≤ _; exact Nat.le_of_eq rfl) (hb hby at_194) (fun _ _ => ⟨rfl, e112, (by decide : 22 + 0 ≤ _), (by decide : 116 + 0 ≤ _)⟩)
  dsimp only [Pt.U, Pt.locs, Pt.cells, Pt.slots] at X113 l113 y113 z113 st113 hQ113
  subst l113 y113 z113
  obtain ⟨rfl, N113q, hh113⟩ := hQ113
  have e113 : T113.heap = h107 := hh113
  have N113 := Fr.app N112 N113q
  obtain ⟨fs, hr, hrun, hended, hREW⟩ := X113.leaveW hS107 (by rw [e113]; exact (Nat.le_refl _)) (v := some (.int (1 : Int32))) (fun h => by rw [Bd.returns] at h; cases h)
  refine ⟨_, _, pre0 _ ?_, hrun, hended, _, _, rfl, ?_, (by rw [hh]; show CHr Z consts_1 s.vm h0 T113.vm T113.heap; rw [e113]; exact CR107.trans (CHv.at X113 hZ107 (own_EW hw) CR107.1)), hREW.1, hREW.2.1, hREW.2.2.1, hREW.2.2.2.mono (by decide) (by decide)⟩
  · show Steps p.tables e below (s₁.setTop (mkF m 0 #[.val (.int p1), .val (.int p2), .val (.int p3), .unset, .unset, .unset, .unset, .unset, .unset, .unset, .unset, .unset, .unset, .unset] [])) _
    refine XS.iloadN X0.here hx rfl (hb hby at_0) rfl ?_
    show Steps p.tables e below (s₁.setTop (mkF m 1 #[.val (.int p1), .val (.int p2), .val (.int p3), .unset, .unset, .unset, .unset, .unset, .unset, .unset, .unset, .unset, .unset, .unset] [(.int p3)])) _
    refine XS.iconst X0.here hx rfl (hb hby at_1) ?_
    show Steps p.tables e below (s₁.setTop (mkF m 2 #[.val (.int p1), .val (.int p2), .val (.int p3), .unset, .unset, .unset, .unset, .unset, .unset, .unset, .unset, .unset, .unset, .unset] [(.int (3 : Int32)), (.int p3)])) _
    refine XS.iand X0.here hx rfl (hb hby at_2) rfl ?_
    show Steps p.tables e below (s₁.setTop (mkF m 3 #[.val (.int p1), .val (.int p2), .val (.int p3), .unset, .unset, .unset, .unset, .unset, .unset, .unset, .unset, .unset, .unset, .unset] [(.int (p3 &&& (3 : Int32)))])) _
    rw [ha_]
    show Steps p.tables e below (s₁.setTop (mkF m 3 #[.val (.int p1), .val (.int p2), .val (.int p3), .unset, .unset, .unset, .unset, .unset, .unset, .unset, .unset, .unset, .unset, .unset] [(.int a)])) _
    refine XS.istoreN X0.here hx rfl (hb hby at_3) rfl (l' := #[.val (.int p1), .val (.int p2), .val (.int p3), .val (.int a), .unset, .unset, .unset, .unset, .unset, .unset, .unset, .unset, .unset, .unset]) rfl ?_
    show Steps p.tables e below (s₁.setTop (mkF m 4 #[.val (.int p1), .val (.int p2), .val (.int p3), .val (.int a), .unset, .unset, .unset, .unset, .unset, .unset, .unset, .unset, .unset, .unset] [])) _
    refine XS.iloadN X0.here hx rfl (hb hby at_4) rfl ?_
    show Steps p.tables e below (s₁.setTop (mkF m 5 #[.val (.int p1), .val (.int p2), .val (.int p3), .val (.int a), .unset, .unset, .unset, .unset, .unset, .unset, .unset, .unset, .unset, .unset] [(.int p3)])) _
    refine XS.iconst X0.here hx rfl (hb hby at_5) ?_
    show Steps p.tables e below (s₁.setTop (mkF m 6 #[.val (.int p1), .val (.int p2), .val (.int p3), .val (.int a), .unset, .unset, .unset, .unset, .unset, .unset, .unset, .unset, .unset, .unset] [(.int (2 : Int32)), (.int p3)])) _
    refine XS.iushr X0.here hx rfl (hb hby at_6) rfl ?_
    show Steps p.tables e below (s₁.setTop (mkF m 7 #[.val (.int p1), .val (.int p2), .val (.int p3), .val (.int a), .unset, .unset, .unset, .unset, .unset, .unset, .unset, .unset, .unset, .unset] [(.int ((p3.toUInt32 >>> ((2 : Int32) &&& 31).toUInt32).toInt32))])) _
    refine XS.iconst X0.here hx rfl (hb hby at_7) ?_
    show Steps p.tables e below (s₁.setTop (mkF m 8 #[.val (.int p1), .val (.int p2), .val (.int p3), .val (.int a), .unset, .unset, .unset, .unset, .unset, .unset, .unset, .unset, .unset, .unset] [(.int (3 : Int32)), (.int ((p3.toUInt32 >>> ((2 : Int32) &&& 31).toUInt32).toInt32))])) _
    refine XS.iand X0.here hx rfl (hb hby at_8) rfl ?_
    show Steps p.tables e below (s₁.setTop (mkF m 9 #[.val (.int p1), .val (.int p2), .val (.int p3), .val (.int a), .unset, .unset, .unset, .unset, .unset, .unset, .unset, .unset, .unset, .unset] [(.int (((p3.toUInt32 >>> ((2 : Int32) &&& 31).toUInt32).toInt32) &&& (3 : Int32)))])) _
    rw [hb_]
    show Steps p.tables e below (s₁.setTop (mkF m 9 #[.val (.int p1), .val (.int p2), .val (.int p3), .val (.int a), .unset, .unset, .unset, .unset, .unset, .unset, .unset, .unset, .unset, .unset] [(.int b)])) _
    refine XS.istore X0.here hx rfl (hb hby at_9) rfl (l' := #[.val (.int p1), .val (.int p2), .val (.int p3), .val (.int a), .val (.int b), .unset, .unset, .unset, .unset, .unset, .unset, .unset, .unset, .unset]) rfl ?_
    show Steps p.tables e below (s₁.setTop (mkF m 11 #[.val (.int p1), .val (.int p2), .val (.int p3), .val (.int a), .val (.int b), .unset, .unset, .unset, .unset, .unset, .unset, .unset, .unset, .unset] [])) _
    refine XS.iloadN X0.here hx rfl (hb hby at_11) rfl ?_
    show Steps p.tables e below (s₁.setTop (mkF m 12 #[.val (.int p1), .val (.int p2), .val (.int p3), .val (.int a), .val (.int b), .unset, .unset, .unset, .unset, .unset, .unset, .unset, .unset, .unset] [(.int p1)])) _
    refine XS.sipush X0.here hx rfl (hb hby at_12) ?_
    show Steps p.tables e below (s₁.setTop (mkF m 15 #[.val (.int p1), .val (.int p2), .val (.int p3), .val (.int a), .val (.int b), .unset, .unset, .unset, .unset, .unset, .unset, .unset, .unset, .unset] [(.int (255 : Int32)), (.int p1)])) _
    refine XS.iand X0.here hx rfl (hb hby at_15) rfl ?_
    show Steps p.tables e below (s₁.setTop (mkF m 16 #[.val (.int p1), .val (.int p2), .val (.int p3), .val (.int a), .val (.int b), .unset, .unset, .unset, .unset, .unset, .unset, .unset, .unset, .unset] [(.int (p1 &&& (255 : Int32)))])) _
    refine XS.i2c X0.here hx rfl (hb hby at_16) rfl ?_
    show Steps p.tables e below (s₁.setTop (mkF m 17 #[.val (.int p1), .val (.int p2), .val (.int p3), .val (.int a), .val (.int b), .unset, .unset, .unset, .unset, .unset, .unset, .unset, .unset, .unset] [(.int ((p1 &&& (255 : Int32)).toUInt32.toUInt16.toUInt32.toInt32))])) _
    rw [hd0]
    show Steps p.tables e below (s₁.setTop (mkF m 17 #[.val (.int p1), .val (.int p2), .val (.int p3), .val (.int a), .val (.int b), .unset, .unset, .unset, .unset, .unset, .unset, .unset, .unset, .unset] [(.int c0)])) _
    refine XS.istore X0.here hx rfl (hb hby at_17) rfl (l' := #[.val (.int p1), .val (.int p2), .val (.int p3), .val (.int a), .val (.int b), .val (.int c0), .unset, .unset, .unset, .unset, .unset, .unset, .unset, .unset]) rfl ?_
    show Steps p.tables e below (s₁.setTop (mkF m 19 #[.val (.int p1), .val (.int p2), .val (.int p3), .val (.int a), .val (.int b), .val (.int c0), .unset, .unset, .unset, .unset, .unset, .unset, .unset, .unset] [])) _
    refine XS.iloadN X0.here hx rfl (hb hby at_19) rfl ?_
    show Steps p.tables e below (s₁.setTop (mkF m 20 #[.val (.int p1), .val (.int p2), .val (.int p3), .val (.int a), .val (.int b), .val (.int c0), .unset, .unset, .unset, .unset, .unset, .unset, .unset, .unset] [(.int p1)])) _
    refine XS.bipush X0.here hx rfl (hb hby at_20) ?_
    show Steps p.tables e below (s₁.setTop (mkF m 22 #[.val (.int p1), .val (.int p2), .val (.int p3), .val (.int a), .val (.int b), .val (.int c0), .unset, .unset, .unset, .unset, .unset, .unset, .unset, .unset] [(.int (8 : Int32)), (.int p1)])) _
    refine XS.iushr X0.here hx rfl (hb hby at_22) rfl ?_
    show Steps p.tables e below (s₁.setTop (mkF m 23 #[.val (.int p1), .val (.int p2), .val (.int p3), .val (.int a), .val (.int b), .val (.int c0), .unset, .unset, .unset, .unset, .unset, .unset, .unset, .unset] [(.int ((p1.toUInt32 >>> ((8 : Int32) &&& 31).toUInt32).toInt32))])) _
    refine XS.sipush X0.here hx rfl (hb hby at_23) ?_
    show Steps p.tables e below (s₁.setTop (mkF m 26 #[.val (.int p1), .val (.int p2), .val (.int p3), .val (.int a), .val (.int b), .val (.int c0), .unset, .unset, .unset, .unset, .unset, .unset, .unset, .unset] [(.int (255 : Int32)), (.int ((p1.toUInt32 >>> ((8 : Int32) &&& 31).toUInt32).toInt32))])) _
    refine XS.iand X0.here hx rfl (hb hby at_26) rfl ?_
    show Steps p.tables e below (s₁.setTop (mkF m 27 #[.val (.int p1), .val (.int p2), .val (.int p3), .val (.int a), .val (.int b), .val (.int c0), .unset, .unset, .unset, .unset, .unset, .unset, .unset, .unset] [(.int (((p1.toUInt32 >>> ((8 : Int32) &&& 31).toUInt32).toInt32) &&& (255 : Int32)))])) _
    refine XS.i2c X0.here hx rfl (hb hby at_27) rfl ?_
    show Steps p.tables e below (s₁.setTop (mkF m 28 #[.val (.int p1), .val (.int p2), .val (.int p3), .val (.int a), .val (.int b), .val (.int c0), .unset, .unset, .unset, .unset, .unset, .unset, .unset, .unset] [(.int ((((p1.toUInt32 >>> ((8 : Int32) &&& 31).toUInt32).toInt32) &&& (255 : Int32)).toUInt32.toUInt16.toUInt32.toInt32))])) _
    rw [hd1]
    show Steps p.tables e below (s₁.setTop (mkF m 28 #[.val (.int p1), .val (.int p2), .val (.int p3), .val (.int a), .val (.int b), .val (.int c0), .unset, .unset, .unset, .unset, .unset, .unset, .unset, .unset] [(.int c1)])) _
    refine XS.istore X0.here hx rfl (hb hby at_28) rfl (l' := #[.val (.int p1), .val (.int p2), .val (.int p3), .val (.int a), .val (.int b), .val (.int c0), .val (.int c1), .unset, .unset, .unset, .unset, .unset, .unset, .unset]) rfl ?_
    show Steps p.tables e below (s₁.setTop (mkF m 30 #[.val (.int p1), .val (.int p2), .val (.int p3), .val (.int a), .val (.int b), .val (.int c0), .val (.int c1), .unset, .unset, .unset, .unset, .unset, .unset, .unset] [])) _
    refine XS.iloadN X0.here hx rfl (hb hby at_30) rfl ?_
    show Steps p.tables e below (s₁.setTop (mkF m 31 #[.val (.int p1), .val (.int p2), .val (.int p3), .val (.int a), .val (.int b), .val (.int c0), .val (.int c1), .unset, .unset, .unset, .unset, .unset, .unset, .unset] [(.int p1)])) _
    refine XS.bipush X0.here hx rfl (hb hby at_31) ?_
    show Steps p.tables e below (s₁.setTop (mkF m 33 #[.val (.int p1), .val (.int p2), .val (.int p3), .val (.int a), .val (.int b), .val (.int c0), .val (.int c1), .unset, .unset, .unset, .unset, .unset, .unset, .unset] [(.int (16 : Int32)), (.int p1)])) _
    refine XS.iushr X0.here hx rfl (hb hby at_33) rfl ?_
    show Steps p.tables e below (s₁.setTop (mkF m 34 #[.val (.int p1), .val (.int p2), .val (.int p3), .val (.int a), .val (.int b), .val (.int c0), .val (.int c1), .unset, .unset, .unset, .unset, .unset, .unset, .unset] [(.int ((p1.toUInt32 >>> ((16 : Int32) &&& 31).toUInt32).toInt32))])) _
    refine XS.sipush X0.here hx rfl (hb hby at_34) ?_
    show Steps p.tables e below (s₁.setTop (mkF m 37 #[.val (.int p1), .val (.int p2), .val (.int p3), .val (.int a), .val (.int b), .val (.int c0), .val (.int c1), .unset, .unset, .unset, .unset, .unset, .unset, .unset] [(.int (255 : Int32)), (.int ((p1.toUInt32 >>> ((16 : Int32) &&& 31).toUInt32).toInt32))])) _
    refine XS.iand X0.here hx rfl (hb hby at_37) rfl ?_
    show Steps p.tables e below (s₁.setTop (mkF m 38 #[.val (.int p1), .val (.int p2), .val (.int p3), .val (.int a), .val (.int b), .val (.int c0), .val (.int c1), .unset, .unset, .unset, .unset, .unset, .unset, .unset] [(.int (((p1.toUInt32 >>> ((16 : Int32) &&& 31).toUInt32).toInt32) &&& (255 : Int32)))])) _
    refine XS.i2c X0.here hx rfl (hb hby at_38) rfl ?_
    show Steps p.tables e below (s₁.setTop (mkF m 39 #[.val (.int p1), .val (.int p2), .val (.int p3), .val (.int a), .val (.int b), .val (.int c0), .val (.int c1), .unset, .unset, .unset, .unset, .unset, .unset, .unset] [(.int ((((p1.toUInt32 >>> ((16 : Int32) &&& 31).toUInt32).toInt32) &&& (255 : Int32)).toUInt32.toUInt16.toUInt32.toInt32))])) _
    rw [hd2]
    show Steps p.tables e below (s₁.setTop (mkF m 39 #[.val (.int p1), .val (.int p2), .val (.int p3), .val (.int a), .val (.int b), .val (.int c0), .val (.int c1), .unset, .unset, .unset, .unset, .unset, .unset, .unset] [(.int c2)])) _
    refine XS.istore X0.here hx rfl (hb hby at_39) rfl (l' := #[.val (.int p1), .val (.int p2), .val (.int p3), .val (.int a), .val (.int b), .val (.int c0), .val (.int c1), .val (.int c2), .unset, .unset, .unset, .unset, .unset, .unset]) rfl ?_
    show Steps p.tables e below (s₁.setTop (mkF m 41 #[.val (.int p1), .val (.int p2), .val (.int p3), .val (.int a), .val (.int b), .val (.int c0), .val (.int c1), .val (.int c2), .unset, .unset, .unset, .unset, .unset, .unset] [])) _
    refine XS.iloadN X0.here hx rfl (hb hby at_41) rfl ?_
    show Steps p.tables e below (s₁.setTop (mkF m 42 #[.val (.int p1), .val (.int p2), .val (.int p3), .val (.int a), .val (.int b), .val (.int c0), .val (.int c1), .val (.int c2), .unset, .unset, .unset, .unset, .unset, .unset] [(.int p2)])) _
    refine XS.sipush X0.here hx rfl (hb hby at_42) ?_
    show Steps p.tables e below (s₁.setTop (mkF m 45 #[.val (.int p1), .val (.int p2), .val (.int p3), .val (.int a), .val (.int b), .val (.int c0), .val (.int c1), .val (.int c2), .unset, .unset, .unset, .unset, .unset, .unset] [(.int (255 : Int32)), (.int p2)])) _
    refine XS.iand X0.here hx rfl (hb hby at_45) rfl ?_
    show Steps p.tables e below (s₁.setTop (mkF m 46 #[.val (.int p1), .val (.int p2), .val (.int p3), .val (.int a), .val (.int b), .val (.int c0), .val (.int c1), .val (.int c2), .unset, .unset, .unset, .unset, .unset, .unset] [(.int (p2 &&& (255 : Int32)))])) _
    refine XS.i2c X0.here hx rfl (hb hby at_46) rfl ?_
    show Steps p.tables e below (s₁.setTop (mkF m 47 #[.val (.int p1), .val (.int p2), .val (.int p3), .val (.int a), .val (.int b), .val (.int c0), .val (.int c1), .val (.int c2), .unset, .unset, .unset, .unset, .unset, .unset] [(.int ((p2 &&& (255 : Int32)).toUInt32.toUInt16.toUInt32.toInt32))])) _
    rw [hd3]
    show Steps p.tables e below (s₁.setTop (mkF m 47 #[.val (.int p1), .val (.int p2), .val (.int p3), .val (.int a), .val (.int b), .val (.int c0), .val (.int c1), .val (.int c2), .unset, .unset, .unset, .unset, .unset, .unset] [(.int c3)])) _
    refine XS.istore X0.here hx rfl (hb hby at_47) rfl (l' := #[.val (.int p1), .val (.int p2), .val (.int p3), .val (.int a), .val (.int b), .val (.int c0), .val (.int c1), .val (.int c2), .val (.int c3), .unset, .unset, .unset, .unset, .unset]) rfl ?_
    show Steps p.tables e below (s₁.setTop (mkF m 49 #[.val (.int p1), .val (.int p2), .val (.int p3), .val (.int a), .val (.int b), .val (.int c0), .val (.int c1), .val (.int c2), .val (.int c3), .unset, .unset, .unset, .unset, .unset] [])) _
    refine XS.iloadN X0.here hx rfl (hb hby at_49) rfl ?_
    show Steps p.tables e below (s₁.setTop (mkF m 50 #[.val (.int p1), .val (.int p2), .val (.int p3), .val (.int a), .val (.int b), .val (.int c0), .val (.int c1), .val (.int c2), .val (.int c3), .unset, .unset, .unset, .unset, .unset] [(.int p2)])) _
    refine XS.bipush X0.here hx rfl (hb hby at_50) ?_
    show Steps p.tables e below (s₁.setTop (mkF m 52 #[.val (.int p1), .val (.int p2), .val (.int p3), .val (.int a), .val (.int b), .val (.int c0), .val (.int c1), .val (.int c2), .val (.int c3), .unset, .unset, .unset, .unset, .unset] [(.int (8 : Int32)), (.int p2)])) _
    refine XS.iushr X0.here hx rfl (hb hby at_52) rfl ?_
    show Steps p.tables e below (s₁.setTop (mkF m 53 #[.val (.int p1), .val (.int p2), .val (.int p3), .val (.int a), .val (.int b), .val (.int c0), .val (.int c1), .val (.int c2), .val (.int c3), .unset, .unset, .unset, .unset, .unset] [(.int ((p2.toUInt32 >>> ((8 : Int32) &&& 31).toUInt32).toInt32))])) _
    refine XS.sipush X0.here hx rfl (hb hby at_53) ?_
    show Steps p.tables e below (s₁.setTop (mkF m 56 #[.val (.int p1), .val (.int p2), .val (.int p3), .val (.int a), .val (.int b), .val (.int c0), .val (.int c1), .val (.int c2), .val (.int c3), .unset, .unset, .unset, .unset, .unset] [(.int (255 : Int32)), (.int ((p2.toUInt32 >>> ((8 : Int32) &&& 31).toUInt32).toInt32))])) _
    refine XS.iand X0.here hx rfl (hb hby at_56) rfl ?_
    show Steps p.tables e below (s₁.setTop (mkF m 57 #[.val (.int p1), .val (.int p2), .val (.int p3), .val (.int a), .val (.int b), .val (.int c0), .val (.int c1), .val (.int c2), .val (.int c3), .unset, .unset, .unset, .unset, .unset] [(.int (((p2.toUInt32 >>> ((8 : Int32) &&& 31).toUInt32).toInt32) &&& (255 : Int32)))])) _
    refine XS.i2c X0.here hx rfl (hb hby at_57) rfl ?_
    show Steps p.tables e below (s₁.setTop (mkF m 58 #[.val (.int p1), .val (.int p2), .val (.int p3), .val (.int a), .val (.int b), .val (.int c0), .val (.int c1), .val (.int c2), .val (.int c3), .unset, .unset, .unset, .unset, .unset] [(.int ((((p2.toUInt32 >>> ((8 : Int32) &&& 31).toUInt32).toInt32) &&& (255 : Int32)).toUInt32.toUInt16.toUInt32.toInt32))])) _
    rw [hd4]
    show Steps p.tables e below (s₁.setTop (mkF m 58 #[.val (.int p1), .val (.int p2), .val (.int p3), .val (.int a), .val (.int b), .val (.int c0), .val (.int c1), .val (.int c2), .val (.int c3), .unset, .unset, .unset, .unset, .unset] [(.int c4)])) _
    refine XS.istore X0.here hx rfl (hb hby at_58) rfl (l' := #[.val (.int p1), .val (.int p2), .val (.int p3), .val (.int a), .val (.int b), .val (.int c0), .val (.int c1), .val (.int c2), .val (.int c3), .val (.int c4), .unset, .unset, .unset, .unset]) rfl ?_
    show Steps p.tables e below (s₁.setTop (mkF m 60 #[.val (.int p1), .val (.int p2), .val (.int p3), .val (.int a), .val (.int b), .val (.int c0), .val (.int c1), .val (.int c2), .val (.int c3), .val (.int c4), .unset, .unset, .unset, .unset] [])) _
    refine XS.iloadN X0.here hx rfl (hb hby at_60) rfl ?_
    show Steps p.tables e below (s₁.setTop (mkF m 61 #[.val (.int p1), .val (.int p2), .val (.int p3), .val (.int a), .val (.int b), .val (.int c0), .val (.int c1), .val (.int c2), .val (.int c3), .val (.int c4), .unset, .unset, .unset, .unset] [(.int p2)])) _
    refine XS.bipush X0.here hx rfl (hb hby at_61) ?_
    show Steps p.tables e below (s₁.setTop (mkF m 63 #[.val (.int p1), .val (.int p2), .val (.int p3), .val (.int a), .val (.int b), .val (.int c0), .val (.int c1), .val (.int c2), .val (.int c3), .val (.int c4), .unset, .unset, .unset, .unset] [(.int (16 : Int32)), (.int p2)])) _
    refine XS.iushr X0.here hx rfl (hb hby at_63) rfl ?_
    show Steps p.tables e below (s₁.setTop (mkF m 64 #[.val (.int p1), .val (.int p2), .val (.int p3), .val (.int a), .val (.int b), .val (.int c0), .val (.int c1), .val (.int c2), .val (.int c3), .val (.int c4), .unset, .unset, .unset, .unset] [(.int ((p2.toUInt32 >>> ((16 : Int32) &&& 31).toUInt32).toInt32))])) _
    refine XS.sipush X0.here hx rfl (hb hby at_64) ?_
    show Steps p.tables e below (s₁.setTop (mkF m 67 #[.val (.int p1), .val (.int p2), .val (.int p3), .val (.int a), .val (.int b), .val (.int c0), .val (.int c1), .val (.int c2), .val (.int c3), .val (.int c4), .unset, .unset, .unset, .unset] [(.int (255 : Int32)), (.int ((p2.toUInt32 >>> ((16 : Int32) &&& 31).toUInt32).toInt32))])) _
    refine XS.iand X0.here hx rfl (hb hby at_67) rfl ?_
    show Steps p.tables e below (s₁.setTop (mkF m 68 #[.val (.int p1), .val (.int p2), .val (.int p3), .val (.int a), .val (.int b), .val (.int c0), .val (.int c1), .val (.int c2), .val (.int c3), .val (.int c4), .unset, .unset, .unset, .unset] [(.int (((p2.toUInt32 >>> ((16 : Int32) &&& 31).toUInt32).toInt32) &&& (255 : Int32)))])) _
    refine XS.i2c X0.here hx rfl (hb hby at_68) rfl ?_
    show Steps p.tables e below (s₁.setTop (mkF m 69 #[.val (.int p1), .val (.int p2), .val (.int p3), .val (.int a), .val (.int b), .val (.int c0), .val (.int c1), .val (.int c2), .val (.int c3), .val (.int c4), .unset, .unset, .unset, .unset] [(.int ((((p2.toUInt32 >>> ((16 : Int32) &&& 31).toUInt32).toInt32) &&& (255 : Int32)).toUInt32.toUInt16.toUInt32.toInt32))])) _
    rw [hd5]
    show Steps p.tables e below (s₁.setTop (mkF m 69 #[.val (.int p1), .val (.int p2), .val (.int p3), .val (.int a), .val (.int b), .val (.int c0), .val (.int c1), .val (.int c2), .val (.int c3), .val (.int c4), .unset, .unset, .unset, .unset] [(.int c5)])) _
    refine XS.istore X0.here hx rfl (hb hby at_69) rfl (l' := #[.val (.int p1), .val (.int p2), .val (.int p3), .val (.int a), .val (.int b), .val (.int c0), .val (.int c1), .val (.int c2), .val (.int c3), .val (.int c4), .val (.int c5), .unset, .unset, .unset]) rfl ?_
    show Steps p.tables e below (s₁.setTop (mkF m 71 #[.val (.int p1), .val (.int p2), .val (.int p3), .val (.int a), .val (.int b), .val (.int c0), .val (.int c1), .val (.int c2), .val (.int c3), .val (.int c4), .val (.int c5), .unset, .unset, .unset] [])) _
    refine XS.iloadN X0.here hx rfl (hb hby at_71) rfl ?_
    show Steps p.tables e below (s₁.setTop (mkF m 72 #[.val (.int p1), .val (.int p2), .val (.int p3), .val (.int a), .val (.int b), .val (.int c0), .val (.int c1), .val (.int c2), .val (.int c3), .val (.int c4), .val (.int c5), .unset, .unset, .unset] [(.int a)])) _
    refine XS.iload X0.here hx rfl (hb hby at_72) rfl ?_
    show Steps p.tables e below (s₁.setTop (mkF m 74 #[.val (.int p1), .val (.int p2), .val (.int p3), .val (.int a), .val (.int b), .val (.int c0), .val (.int c1), .val (.int c2), .val (.int c3), .val (.int c4), .val (.int c5), .unset, .unset, .unset] [(.int c0), (.int a)])) _
    refine XS.iload X0.here hx rfl (hb hby at_74) rfl ?_
    show Steps p.tables e below (s₁.setTop (mkF m 76 #[.val (.int p1), .val (.int p2), .val (.int p3), .val (.int a), .val (.int b), .val (.int c0), .val (.int c1), .val (.int c2), .val (.int c3), .val (.int c4), .val (.int c5), .unset, .unset, .unset] [(.int c1), (.int c0), (.int a)])) _
    refine XS.iload X0.here hx rfl (hb hby at_76) rfl ?_
    show Steps p.tables e below (s₁.setTop (mkF m 78 #[.val (.int p1), .val (.int p2), .val (.int p3), .val (.int a), .val (.int b), .val (.int c0), .val (.int c1), .val (.int c2), .val (.int c3), .val (.int c4), .val (.int c5), .unset, .unset, .unset] [(.int c2), (.int c1), (.int c0), (.int a)])) _
    refine st101.trans ?_
    show Steps p.tables e below (T101.setTop (mkF m 81 #[.val (.int p1), .val (.int p2), .val (.int p3), .val (.int a), .val (.int b), .val (.int c0), .val (.int c1), .val (.int c2), .val (.int c3), .val (.int c4), .val (.int c5), .unset, .unset, .unset] [(.ref y101)])) _
    refine XS.astore X101.here hx rfl (hb hby at_81) rfl rfl (l' := #[.val (.int p1), .val (.int p2), .val (.int p3), .val (.int a), .val (.int b), .val (.int c0), .val (.int c1), .val (.int c2), .val (.int c3), .val (.int c4), .val (.int c5), .val (.ref y101), .unset, .unset]) rfl ?_
    show Steps p.tables e below (T101.setTop (mkF m 83 #[.val (.int p1), .val (.int p2), .val (.int p3), .val (.int a), .val (.int b), .val (.int c0), .val (.int c1), .val (.int c2), .val (.int c3), .val (.int c4), .val (.int c5), .val (.ref y101), .unset, .unset] [])) _
    refine XS.iload X101.here hx rfl (hb hby at_83) rfl ?_
    show Steps p.tables e below (T101.setTop (mkF m 85 #[.val (.int p1), .val (.int p2), .val (.int p3), .val (.int a), .val (.int b), .val (.int c0), .val (.int c1), .val (.int c2), .val (.int c3), .val (.int c4), .val (.int c5), .val (.ref y101), .unset, .unset] [(.int b)])) _
    refine XS.iload X101.here hx rfl (hb hby at_85) rfl ?_
    show Steps p.tables e below (T101.setTop (mkF m 87 #[.val (.int p1), .val (.int p2), .val (.int p3), .val (.int a), .val (.int b), .val (.int c0), .val (.int c1), .val (.int c2), .val (.int c3), .val (.int c4), .val (.int c5), .val (.ref y101), .unset, .unset] [(.int c3), (.int b)])) _
    refine XS.iload X101.here hx rfl (hb hby at_87) rfl ?_
    show Steps p.tables e below (T101.setTop (mkF m 89 #[.val (.int p1), .val (.int p2), .val (.int p3), .val (.int a), .val (.int b), .val (.int c0), .val (.int c1), .val (.int c2), .val (.int c3), .val (.int c4), .val (.int c5), .val (.ref y101), .unset, .unset] [(.int c4), (.int c3), (.int b)])) _
    refine XS.iload X101.here hx rfl (hb hby at_89) rfl ?_
    show Steps p.tables e below (T101.setTop (mkF m 91 #[.val (.int p1), .val (.int p2), .val (.int p3), .val (.int a), .val (.int b), .val (.int c0), .val (.int c1), .val (.int c2), .val (.int c3), .val (.int c4), .val (.int c5), .val (.ref y101), .unset, .unset] [(.int c5), (.int c4), (.int c3), (.int b)])) _
    refine st102.trans ?_
    show Steps p.tables e below (T102.setTop (mkF m 94 #[.val (.int p1), .val (.int p2), .val (.int p3), .val (.int a), .val (.int b), .val (.int c0), .val (.int c1), .val (.int c2), .val (.int c3), .val (.int c4), .val (.int c5), .val (.ref y101), .unset, .unset] [(.ref y102)])) _
    refine XS.astore X102.here hx rfl (hb hby at_94) rfl rfl (l' := #[.val (.int p1), .val (.int p2), .val (.int p3), .val (.int a), .val (.int b), .val (.int c0), .val (.int c1), .val (.int c2), .val (.int c3), .val (.int c4), .val (.int c5), .val (.ref y101), .val (.ref y102), .unset]) rfl ?_
    show Steps p.tables e below (T102.setTop (mkF m 96 #[.val (.int p1), .val (.int p2), .val (.int p3), .val (.int a), .val (.int b), .val (.int c0), .val (.int c1), .val (.int c2), .val (.int c3), .val (.int c4), .val (.int c5), .val (.ref y101), .val (.ref y102), .unset] [])) _
    refine XS.aload X102.here hx rfl (hb hby at_96) rfl rfl ?_
    show Steps p.tables e below (T102.setTop (mkF m 98 #[.val (.int p1), .val (.int p2), .val (.int p3), .val (.int a), .val (.int b), .val (.int c0), .val (.int c1), .val (.int c2), .val (.int c3), .val (.int c4), .val (.int c5), .val (.ref y101), .val (.ref y102), .unset] [(.ref y101)])) _
    refine XS.aload X102.here hx rfl (hb hby at_98) rfl rfl ?_
    show Steps p.tables e below (T102.setTop (mkF m 100 #[.val (.int p1), .val (.int p2), .val (.int p3), .val (.int a), .val (.int b), .val (.int c0), .val (.int c1), .val (.int c2), .val (.int c3), .val (.int c4), .val (.int c5), .val (.ref y101), .val (.ref y102), .unset] [(.ref y102), (.ref y101)])) _
    refine st107.trans ?_
    show Steps p.tables e below (T107.setTop (mkF m 103 #[.val (.int p1), .val (.int p2), .val (.int p3), .val (.int a), .val (.int b), .val (.int c0), .val (.int c1), .val (.int c2), .val (.int c3), .val (.int c4), .val (.int c5), .val (.ref y101), .val (.ref y102), .unset] [(.ref y107)])) _
    refine XS.astore X107.here hx rfl (hb hby at_103) rfl rfl (l' := #[.val (.int p1), .val (.int p2), .val (.int p3), .val (.int a), .val (.int b), .val (.int c0), .val (.int c1), .val (.int c2), .val (.int c3), .val (.int c4), .val (.int c5), .val (.ref y101), .val (.ref y102), .val (.ref y107)]) rfl ?_
    show Steps p.tables e below (T107.setTop (mkF m 105 #[.val (.int p1), .val (.int p2), .val (.int p3), .val (.int a), .val (.int b), .val (.int c0), .val (.int c1), .val (.int c2), .val (.int c3), .val (.int c4), .val (.int c5), .val (.ref y101), .val (.ref y102), .val (.ref y107)] [])) _
    refine XS.aload X107.here hx rfl (hb hby at_105) rfl rfl ?_
    show Steps p.tables e below (T107.setTop (mkF m 107 #[.val (.int p1), .val (.int p2), .val (.int p3), .val (.int a), .val (.int b), .val (.int c0), .val (.int c1), .val (.int c2), .val (.int c3), .val (.int c4), .val (.int c5), .val (.ref y101), .val (.ref y102), .val (.ref y107)] [(.ref y107)])) _
    refine XS.ifnonnullYes X107.here hx rfl (pc0 := 107) (pc' := 112) rfl (hb hby at_107) rfl (by decide) (by decide) ?_
    show Steps p.tables e below (T107.setTop (mkF m 112 #[.val (.int p1), .val (.int p2), .val (.int p3), .val (.int a), .val (.int b), .val (.int c0), .val (.int c1), .val (.int c2), .val (.int c3), .val (.int c4), .val (.int c5), .val (.ref y101), .val (.ref y102), .val (.ref y107)] [])) _
    refine XS.aload X107.here hx rfl (hb hby at_112) rfl rfl ?_
    show Steps p.tables e below (T107.setTop (mkF m 114 #[.val (.int p1), .val (.int p2), .val (.int p3), .val (.int a), .val (.int b), .val (.int c0), .val (.int c1), .val (.int c2), .val (.int c3), .val (.int c4), .val (.int c5), .val (.ref y101), .val (.ref y102), .val (.ref y107)] [(.ref y107)])) _
    refine st108.trans ?_
    show Steps p.tables e below (T108.setTop (mkF m 117 #[.val (.int p1), .val (.int p2), .val (.int p3), .val (.int a), .val (.int b), .val (.int c0), .val (.int c1), .val (.int c2), .val (.int c3), .val (.int c4), .val (.int c5), .val (.ref y101), .val (.ref y102), .val (.ref y107)] [(.int (Int32.ofNat cs.length))])) _
    refine XS.iloadN X108.here hx rfl (hb hby at_117) rfl ?_
    show Steps p.tables e below (T108.setTop (mkF m 118 #[.val (.int p1), .val (.int p2), .val (.int p3), .val (.int a), .val (.int b), .val (.int c0), .val (.int c1), .val (.int c2), .val (.int c3), .val (.int c4), .val (.int c5), .val (.ref y101), .val (.ref y102), .val (.ref y107)] [(.int a), (.int (Int32.ofNat cs.length))])) _
    refine XS.iconst X108.here hx rfl (hb hby at_118) ?_
    show Steps p.tables e below (T108.setTop (mkF m 119 #[.val (.int p1), .val (.int p2), .val (.int p3), .val (.int a), .val (.int b), .val (.int c0), .val (.int c1), .val (.int c2), .val (.int c3), .val (.int c4), .val (.int c5), .val (.ref y101), .val (.ref y102), .val (.ref y107)] [(.int (3 : Int32)), (.int a), (.int (Int32.ofNat cs.length))])) _
    refine XS.iadd X108.here hx rfl (hb hby at_119) rfl ?_
    show Steps p.tables e below (T108.setTop (mkF m 120 #[.val (.int p1), .val (.int p2), .val (.int p3), .val (.int a), .val (.int b), .val (.int c0), .val (.int c1), .val (.int c2), .val (.int c3), .val (.int c4), .val (.int c5), .val (.ref y101), .val (.ref y102), .val (.ref y107)] [(.int (a + (3 : Int32))), (.int (Int32.ofNat cs.length))])) _
    refine XS.iload X108.here hx rfl (hb hby at_120) rfl ?_
    show Steps p.tables e below (T108.setTop (mkF m 122 #[.val (.int p1), .val (.int p2), .val (.int p3), .val (.int a), .val (.int b), .val (.int c0), .val (.int c1), .val (.int c2), .val (.int c3), .val (.int c4), .val (.int c5), .val (.ref y101), .val (.ref y102), .val (.ref y107)] [(.int b), (.int (a + (3 : Int32))), (.int (Int32.ofNat cs.length))])) _
    refine XS.iadd X108.here hx rfl (hb hby at_122) rfl ?_
    show Steps p.tables e below (T108.setTop (mkF m 123 #[.val (.int p1), .val (.int p2), .val (.int p3), .val (.int a), .val (.int b), .val (.int c0), .val (.int c1), .val (.int c2), .val (.int c3), .val (.int c4), .val (.int c5), .val (.ref y101), .val (.ref y102), .val (.ref y107)] [(.int ((a + (3 : Int32)) + b)), (.int (Int32.ofNat cs.length))])) _
    refine XS.icmpYes X108.here hx rfl (pc0 := 123) (pc' := 128) rfl (hb hby at_123) rfl (teq hlen).1 (by decide) (by decide) ?_
    show Steps p.tables e below (T108.setTop (mkF m 128 #[.val (.int p1), .val (.int p2), .val (.int p3), .val (.int a), .val (.int b), .val (.int c0), .val (.int c1), .val (.int c2), .val (.int c3), .val (.int c4), .val (.int c5), .val (.ref y101), .val (.ref y102), .val (.ref y107)] [])) _
    refine XS.aload X108.here hx rfl (hb hby at_128) rfl rfl ?_
    show Steps p.tables e below (T108.setTop (mkF m 130 #[.val (.int p1), .val (.int p2), .val (.int p3), .val (.int a), .val (.int b), .val (.int c0), .val (.int c1), .val (.int c2), .val (.int c3), .val (.int c4), .val (.int c5), .val (.ref y101), .val (.ref y102), .val (.ref y107)] [(.ref y107)])) _
    refine XS.iconst X108.here hx rfl (hb hby at_130) ?_
    show Steps p.tables e below (T108.setTop (mkF m 131 #[.val (.int p1), .val (.int p2), .val (.int p3), .val (.int a), .val (.int b), .val (.int c0), .val (.int c1), .val (.int c2), .val (.int c3), .val (.int c4), .val (.int c5), .val (.ref y101), .val (.ref y102), .val (.ref y107)] [(.int (0 : Int32)), (.ref y107)])) _
    refine XS.iloadN X108.here hx rfl (hb hby at_131) rfl ?_
    show Steps p.tables e below (T108.setTop (mkF m 132 #[.val (.int p1), .val (.int p2), .val (.int p3), .val (.int a), .val (.int b), .val (.int c0), .val (.int c1), .val (.int c2), .val (.int c3), .val (.int c4), .val (.int c5), .val (.ref y101), .val (.ref y102), .val (.ref y107)] [(.int a), (.int (0 : Int32)), (.ref y107)])) _
    refine XS.iload X108.here hx rfl (hb hby at_132) rfl ?_
    show Steps p.tables e below (T108.setTop (mkF m 134 #[.val (.int p1), .val (.int p2), .val (.int p3), .val (.int a), .val (.int b), .val (.int c0), .val (.int c1), .val (.int c2), .val (.int c3), .val (.int c4), .val (.int c5), .val (.ref y101), .val (.ref y102), .val (.ref y107)] [(.int c0), (.int a), (.int (0 : Int32)), (.ref y107)])) _
    refine XS.iload X108.here hx rfl (hb hby at_134) rfl ?_
    show Steps p.tables e below (T108.setTop (mkF m 136 #[.val (.int p1), .val (.int p2), .val (.int p3), .val (.int a), .val (.int b), .val (.int c0), .val (.int c1), .val (.int c2), .val (.int c3), .val (.int c4), .val (.int c5), .val (.ref y101), .val (.ref y102), .val (.ref y107)] [(.int c1), (.int c0), (.int a), (.int (0 : Int32)), (.ref y107)])) _
    refine XS.iload X108.here hx rfl (hb hby at_136) rfl ?_
    show Steps p.tables e below (T108.setTop (mkF m 138 #[.val (.int p1), .val (.int p2), .val (.int p3), .val (.int a), .val (.int b), .val (.int c0), .val (.int c1), .val (.int c2), .val (.int c3), .val (.int c4), .val (.int c5), .val (.ref y101), .val (.ref y102), .val (.ref y107)] [(.int c2), (.int c1), (.int c0), (.int a), (.int (0 : Int32)), (.ref y107)])) _
    refine st109 _ ?_
    show Steps p.tables e below (T109.setTop (mkF m 141 #[.val (.int p1), .val (.int p2), .val (.int p3), .val (.int a), .val (.int b), .val (.int c0), .val (.int c1), .val (.int c2), .val (.int c3), .val (.int c4), .val (.int c5), .val (.ref y101), .val (.ref y102), .val (.ref y107)] [(.int (1 : Int32))])) _
    refine XS.ifNo X109.here hx rfl (hb hby at_141) rfl ((if0 _ _).trans (feq (by decide : ¬ ((1 : Int32) = (0 : Int32)))).1) ?_
    show Steps p.tables e below (T109.setTop (mkF m 144 #[.val (.int p1), .val (.int p2), .val (.int p3), .val (.int a), .val (.int b), .val (.int c0), .val (.int c1), .val (.int c2), .val (.int c3), .val (.int c4), .val (.int c5), .val (.ref y101), .val (.ref y102), .val (.ref y107)] [])) _
    refine XS.aload X109.here hx rfl (hb hby at_144) rfl rfl ?_
    show Steps p.tables e below (T109.setTop (mkF m 146 #[.val (.int p1), .val (.int p2), .val (.int p3), .val (.int a), .val (.int b), .val (.int c0), .val (.int c1), .val (.int c2), .val (.int c3), .val (.int c4), .val (.int c5), .val (.ref y101), .val (.ref y102), .val (.ref y107)] [(.ref y107)])) _
    refine XS.iloadN X109.here hx rfl (hb hby at_146) rfl ?_
    show Steps p.tables e below (T109.setTop (mkF m 147 #[.val (.int p1), .val (.int p2), .val (.int p3), .val (.int a), .val (.int b), .val (.int c0), .val (.int c1), .val (.int c2), .val (.int c3), .val (.int c4), .val (.int c5), .val (.ref y101), .val (.ref y102), .val (.ref y107)] [(.int a), (.ref y107)])) _
    refine st110.trans ?_
    show Steps p.tables e below (T110.setTop (mkF m 150 #[.val (.int p1), .val (.int p2), .val (.int p3), .val (.int a), .val (.int b), .val (.int c0), .val (.int c1), .val (.int c2), .val (.int c3), .val (.int c4), .val (.int c5), .val (.ref y101), .val (.ref y102), .val (.ref y107)] [(.int (cs.getD i_ 0))])) _
    refine XS.bipush X110.here hx rfl (hb hby at_150) ?_
    show Steps p.tables e below (T110.setTop (mkF m 152 #[.val (.int p1), .val (.int p2), .val (.int p3), .val (.int a), .val (.int b), .val (.int c0), .val (.int c1), .val (.int c2), .val (.int c3), .val (.int c4), .val (.int c5), .val (.ref y101), .val (.ref y102), .val (.ref y107)] [(.int (32 : Int32)), (.int (cs.getD i_ 0))])) _
    refine XS.icmpNo X110.here hx rfl (hb hby at_152) rfl (teq e0_).2 ?_
    show Steps p.tables e below (T110.setTop (mkF m 155 #[.val (.int p1), .val (.int p2), .val (.int p3), .val (.int a), .val (.int b), .val (.int c0), .val (.int c1), .val (.int c2), .val (.int c3), .val (.int c4), .val (.int c5), .val (.ref y101), .val (.ref y102), .val (.ref y107)] [])) _
    refine XS.aload X110.here hx rfl (hb hby at_155) rfl rfl ?_
    show Steps p.tables e below (T110.setTop (mkF m 157 #[.val (.int p1), .val (.int p2), .val (.int p3), .val (.int a), .val (.int b), .val (.int c0), .val (.int c1), .val (.int c2), .val (.int c3), .val (.int c4), .val (.int c5), .val (.ref y101), .val (.ref y102), .val (.ref y107)] [(.ref y107)])) _
    refine XS.iloadN X110.here hx rfl (hb hby at_157) rfl ?_
    show Steps p.tables e below (T110.setTop (mkF m 158 #[.val (.int p1), .val (.int p2), .val (.int p3), .val (.int a), .val (.int b), .val (.int c0), .val (.int c1), .val (.int c2), .val (.int c3), .val (.int c4), .val (.int c5), .val (.ref y101), .val (.ref y102), .val (.ref y107)] [(.int a), (.ref y107)])) _
    refine XS.iconst X110.here hx rfl (hb hby at_158) ?_
    show Steps p.tables e below (T110.setTop (mkF m 159 #[.val (.int p1), .val (.int p2), .val (.int p3), .val (.int a), .val (.int b), .val (.int c0), .val (.int c1), .val (.int c2), .val (.int c3), .val (.int c4), .val (.int c5), .val (.ref y101), .val (.ref y102), .val (.ref y107)] [(.int (1 : Int32)), (.int a), (.ref y107)])) _
    refine XS.iadd X110.here hx rfl (hb hby at_159) rfl ?_
    show Steps p.tables e below (T110.setTop (mkF m 160 #[.val (.int p1), .val (.int p2), .val (.int p3), .val (.int a), .val (.int b), .val (.int c0), .val (.int c1), .val (.int c2), .val (.int c3), .val (.int c4), .val (.int c5), .val (.ref y101), .val (.ref y102), .val (.ref y107)] [(.int (a + (1 : Int32))), (.ref y107)])) _
    refine st111.trans ?_
    show Steps p.tables e below (T111.setTop (mkF m 163 #[.val (.int p1), .val (.int p2), .val (.int p3), .val (.int a), .val (.int b), .val (.int c0), .val (.int c1), .val (.int c2), .val (.int c3), .val (.int c4), .val (.int c5), .val (.ref y101), .val (.ref y102), .val (.ref y107)] [(.int (cs.getD (i_ + 1) 0))])) _
    refine XS.bipush X111.here hx rfl (hb hby at_163) ?_
    show Steps p.tables e below (T111.setTop (mkF m 165 #[.val (.int p1), .val (.int p2), .val (.int p3), .val (.int a), .val (.int b), .val (.int c0), .val (.int c1), .val (.int c2), .val (.int c3), .val (.int c4), .val (.int c5), .val (.ref y101), .val (.ref y102), .val (.ref y107)] [(.int (124 : Int32)), (.int (cs.getD (i_ + 1) 0))])) _
    refine XS.icmpNo X111.here hx rfl (hb hby at_165) rfl (teq e1_).2 ?_
    show Steps p.tables e below (T111.setTop (mkF m 168 #[.val (.int p1), .val (.int p2), .val (.int p3), .val (.int a), .val (.int b), .val (.int c0), .val (.int c1), .val (.int c2), .val (.int c3), .val (.int c4), .val (.int c5), .val (.ref y101), .val (.ref y102), .val (.ref y107)] [])) _
    refine XS.aload X111.here hx rfl (hb hby at_168) rfl rfl ?_
    show Steps p.tables e below (T111.setTop (mkF m 170 #[.val (.int p1), .val (.int p2), .val (.int p3), .val (.int a), .val (.int b), .val (.int c0), .val (.int c1), .val (.int c2), .val (.int c3), .val (.int c4), .val (.int c5), .val (.ref y101), .val (.ref y102), .val (.ref y107)] [(.ref y107)])) _
    refine XS.iloadN X111.here hx rfl (hb hby at_170) rfl ?_
    show Steps p.tables e below (T111.setTop (mkF m 171 #[.val (.int p1), .val (.int p2), .val (.int p3), .val (.int a), .val (.int b), .val (.int c0), .val (.int c1), .val (.int c2), .val (.int c3), .val (.int c4), .val (.int c5), .val (.ref y101), .val (.ref y102), .val (.ref y107)] [(.int a), (.ref y107)])) _
    refine XS.iconst X111.here hx rfl (hb hby at_171) ?_
    show Steps p.tables e below (T111.setTop (mkF m 172 #[.val (.int p1), .val (.int p2), .val (.int p3), .val (.int a), .val (.int b), .val (.int c0), .val (.int c1), .val (.int c2), .val (.int c3), .val (.int c4), .val (.int c5), .val (.ref y101), .val (.ref y102), .val (.ref y107)] [(.int (2 : Int32)), (.int a), (.ref y107)])) _
    refine XS.iadd X111.here hx rfl (hb hby at_172) rfl ?_
    show Steps p.tables e below (T111.setTop (mkF m 173 #[.val (.int p1), .val (.int p2), .val (.int p3), .val (.int a), .val (.int b), .val (.int c0), .val (.int c1), .val (.int c2), .val (.int c3), .val (.int c4), .val (.int c5), .val (.ref y101), .val (.ref y102), .val (.ref y107)] [(.int (a + (2 : Int32))), (.ref y107)])) _
    refine st112.trans ?_
    show Steps p.tables e below (T112.setTop (mkF m 176 #[.val (.int p1), .val (.int p2), .val (.int p3), .val (.int a), .val (.int b), .val (.int c0), .val (.int c1), .val (.int c2), .val (.int c3), .val (.int c4), .val (.int c5), .val (.ref y101), .val (.ref y102), .val (.ref y107)] [(.int (cs.getD (i_ + 2) 0))])) _
    refine XS.bipush X112.here hx rfl (hb hby at_176) ?_
    show Steps p.tables e below (T112.setTop (mkF m 178 #[.val (.int p1), .val (.int p2), .val (.int p3), .val (.int a), .val (.int b), .val (.int c0), .val (.int c1), .val (.int c2), .val (.int c3), .val (.int c4), .val (.int c5), .val (.ref y101), .val (.ref y102), .val (.ref y107)] [(.int (32 : Int32)), (.int (cs.getD (i_ + 2) 0))])) _
    refine XS.icmpNo X112.here hx rfl (hb hby at_178) rfl (teq e2_).2 ?_
    show Steps p.tables e below (T112.setTop (mkF m 181 #[.val (.int p1), .val (.int p2), .val (.int p3), .val (.int a), .val (.int b), .val (.int c0), .val (.int c1), .val (.int c2), .val (.int c3), .val (.int c4), .val (.int c5), .val (.ref y101), .val (.ref y102), .val (.ref y107)] [])) _
    refine XS.aload X112.here hx rfl (hb hby at_181) rfl rfl ?_
    show Steps p.tables e below (T112.setTop (mkF m 183 #[.val (.int p1), .val (.int p2), .val (.int p3), .val (.int a), .val (.int b), .val (.int c0), .val (.int c1), .val (.int c2), .val (.int c3), .val (.int c4), .val (.int c5), .val (.ref y101), .val (.ref y102), .val (.ref y107)] [(.ref y107)])) _
    refine XS.iloadN X112.here hx rfl (hb hby at_183) rfl ?_
    show Steps p.tables e below (T112.setTop (mkF m 184 #[.val (.int p1), .val (.int p2), .val (.int p3), .val (.int a), .val (.int b), .val (.int c0), .val (.int c1), .val (.int c2), .val (.int c3), .val (.int c4), .val (.int c5), .val (.ref y101), .val (.ref y102), .val (.ref y107)] [(.int a), (.ref y107)])) _
    refine XS.iconst X112.here hx rfl (hb hby at_184) ?_
    show Steps p.tables e below (T112.setTop (mkF m 185 #[.val (.int p1), .val (.int p2), .val (.int p3), .val (.int a), .val (.int b), .val (.int c0), .val (.int c1), .val (.int c2), .val (.int c3), .val (.int c4), .val (.int c5), .val (.ref y101), .val (.ref y102), .val (.ref y107)] [(.int (3 : Int32)), (.int a), (.ref y107)])) _
    refine XS.iadd X112.here hx rfl (hb hby at_185) rfl ?_
    show Steps p.tables e below (T112.setTop (mkF m 186 #[.val (.int p1), .val (.int p2), .val (.int p3), .val (.int a), .val (.int b), .val (.int c0), .val (.int c1), .val (.int c2), .val (.int c3), .val (.int c4), .val (.int c5), .val (.ref y101), .val (.ref y102), .val (.ref y107)] [(.int (a + (3 : Int32))), (.ref y107)])) _
    refine XS.iload X112.here hx rfl (hb hby at_186) rfl ?_
    show Steps p.tables e below (T112.setTop (mkF m 188 #[.val (.int p1), .val (.int p2), .val (.int p3), .val (.int a), .val (.int b), .val (.int c0), .val (.int c1), .val (.int c2), .val (.int c3), .val (.int c4), .val (.int c5), .val (.ref y101), .val (.ref y102), .val (.ref y107)] [(.int b), (.int (a + (3 : Int32))), (.ref y107)])) _
    refine XS.iload X112.here hx rfl (hb hby at_188) rfl ?_
    show Steps p.tables e below (T112.setTop (mkF m 190 #[.val (.int p1), .val (.int p2), .val (.int p3), .val (.int a), .val (.int b), .val (.int c0), .val (.int c1), .val (.int c2), .val (.int c3), .val (.int c4), .val (.int c5), .val (.ref y101), .val (.ref y102), .val (.ref y107)] [(.int c3), (.int b), (.int (a + (3 : Int32))), (.ref y107)])) _
    refine XS.iload X112.here hx rfl (hb hby at_190) rfl ?_
    show Steps p.tables e below (T112.setTop (mkF m 192 #[.val (.int p1), .val (.int p2), .val (.int p3), .val (.int a), .val (.int b), .val (.int c0), .val (.int c1), .val (.int c2), .val (.int c3), .val (.int c4), .val (.int c5), .val (.ref y101), .val (.ref y102), .val (.ref y107)] [(.int c4), (.int c3), (.int b), (.int (a + (3 : Int32))), (.ref y107)])) _
    refine XS.iload X112.here hx rfl (hb hby at_192) rfl ?_
    show Steps p.tables e below (T112.setTop (mkF m 194 #[.val (.int p1), .val (.int p2), .val (.int p3), .val (.int a), .val (.int b), .val (.int c0), .val (.int c1), .val (.int c2), .val (.int c3), .val (.int c4), .val (.int c5), .val (.ref y101), .val (.ref y102), .val (.ref y107)] [(.int c5), (.int c4), (.int c3), (.int b), (.int (a + (3 : Int32))), (.ref y107)])) _
    refine st113 _ ?_
    show Steps p.tables e below (T113.setTop (mkF m 197 #[.val (.int p1), .val (.int p2), .val (.int p3), .val (.int a), .val (.int b), .val (.int c0), .val (.int c1), .val (.int c2), .val (.int c3), .val (.int c4), .val (.int c5), .val (.ref y101), .val (.ref y102), .val (.ref y107)] [(.int (1 : Int32))])) _
    refine XS.ifNo X113.here hx rfl (hb hby at_197) rfl ((if0 _ _).trans (feq (by decide : ¬ ((1 : Int32) = (0 : Int32)))).1) ?_
    show Steps p.tables e below (T113.setTop (mkF m 200 #[.val (.int p1), .val (.int p2), .val (.int p3), .val (.int a), .val (.int b), .val (.int c0), .val (.int c1), .val (.int c2), .val (.int c3), .val (.int c4), .val (.int c5), .val (.ref y101), .val (.ref y102), .val (.ref y107)] [])) _
    refine XS.iconst X113.here hx rfl (hb hby at_200) ?_
    show Steps p.tables e below (T113.setTop (mkF m 201 #[.val (.int p1), .val (.int p2), .val (.int p3), .val (.int a), .val (.int b), .val (.int c0), .val (.int c1), .val (.int c2), .val (.int c3), .val (.int c4), .val (.int c5), .val (.ref y101), .val (.ref y102), .val (.ref y107)] [(.int (1 : Int32))])) _
    refine XS.goto X113.here hx rfl (pc0 := 201) (pc' := 205) rfl (hb hby at_201) (by decide) (by decide) ?_
    show Steps p.tables e below (T113.setTop (mkF m 205 #[.val (.int p1), .val (.int p2), .val (.int p3), .val (.int a), .val (.int b), .val (.int c0), .val (.int c1), .val (.int c2), .val (.int c3), .val (.int c4), .val (.int c5), .val (.ref y101), .val (.ref y102), .val (.ref y107)] [(.int (1 : Int32))])) _
    exact retN X113 hx (t := .boolean) Bd.returns (by simp) (hb hby at_205) hr
  · show Q0 h0 n0 _ T113.heap _
    rw [e113]
    exact ⟨rfl, N113⟩
theorem own_and255c (x : Int32) : ¬ ((x &&& (255 : Int32)).toUInt32.toUInt16.toUInt32.toInt32) < 0 ∧ ¬ (255 : Int32) < ((x &&& (255 : Int32)).toUInt32.toUInt16.toUInt32.toInt32) := by
  have t : ∀ k : Fin 256, ¬ ((Int32.ofNat k.val).toUInt32.toUInt16.toUInt32.toInt32) < 0 ∧ ¬ (255 : Int32) < ((Int32.ofNat k.val).toUInt32.toUInt16.toUInt32.toInt32) := by decide +kernel
  have h : (x &&& 255).toBitVec.toNat < 256 := by
    simp only [Int32.toBitVec_and, BitVec.toNat_and]
    exact Nat.lt_succ_of_le Nat.and_le_right
  have e : (x &&& 255) = Int32.ofNat (x &&& 255).toBitVec.toNat := by
    apply Int32.toBitVec_inj.mp
    show _ = BitVec.ofNat 32 _
    rw [BitVec.ofNat_toNat]; simp
  rw [e]
  exact t ⟨_, h⟩
theorem own_and3 (x : Int32) : x &&& (3 : Int32) = 0 ∨ x &&& (3 : Int32) = 1 ∨ x &&& (3 : Int32) = 2 ∨ x &&& (3 : Int32) = 3 := by
  have t : ∀ k : Fin 4, Int32.ofNat k.val = 0 ∨ Int32.ofNat k.val = 1 ∨ Int32.ofNat k.val = 2 ∨ Int32.ofNat k.val = 3 := by decide
  have h : (x &&& 3).toBitVec.toNat < 4 := by
    simp only [Int32.toBitVec_and, BitVec.toNat_and]
    exact Nat.lt_succ_of_le Nat.and_le_right
  have e : (x &&& 3) = Int32.ofNat (x &&& 3).toBitVec.toNat := by
    apply Int32.toBitVec_inj.mp
    show _ = BitVec.ofNat 32 _
    rw [BitVec.ofNat_toNat]; simp
  rw [e]
  exact t ⟨_, h⟩
theorem rm0_00 (l : Launch) (Z : State) (a0 : Array Value) (hw : ∀ d ∈ tables_1, d.before a0 Z = true) (ws : List Jvm.Cond) (p1 p2 p3 c0 c1 c2 c3 c4 c5 G1 : Int32) (G3 : Value) (h0 : Heap) (n0 : Nat) (O0 : Old Z n0 h0) (S_CS : Sta Z Z.heap "java/lang/String" "COMPACT_STRINGS" "Z" (.int G1)) (hG1 : ¬ (G1 = (0 : Int32))) (S_SF : Sta Z Z.heap "jdk/internal/util/Preconditions" "SIOOBE_FORMATTER" "Ljava/util/function/BiFunction;" G3) (rG3 : G3.isRef = true) (hr0 : ¬ c0 < 0 ∧ ¬ (255 : Int32) < c0) (hr1 : ¬ c1 < 0 ∧ ¬ (255 : Int32) < c1) (hr2 : ¬ c2 < 0 ∧ ¬ (255 : Int32) < c2) (hr3 : ¬ c3 < 0 ∧ ¬ (255 : Int32) < c3) (hr4 : ¬ c4 < 0 ∧ ¬ (255 : Int32) < c4) (hr5 : ¬ c5 < 0 ∧ ¬ (255 : Int32) < c5) (ha_ : (p3 &&& (3 : Int32)) = 0) (hb_ : (((p3.toUInt32 >>> ((2 : Int32) &&& 31).toUInt32).toInt32) &&& (3 : Int32)) = 0) (hd0 : ((p1 &&& (255 : Int32)).toUInt32.toUInt16.toUInt32.toInt32) = c0) (hd1 : ((((p1.toUInt32 >>> ((8 : Int32) &&& 31).toUInt32).toInt32) &&& (255 : Int32)).toUInt32.toUInt16.toUInt32.toInt32) = c1) (hd2 : ((((p1.toUInt32 >>> ((16 : Int32) &&& 31).toUInt32).toInt32) &&& (255 : Int32)).toUInt32.toUInt16.toUInt32.toInt32) = c2) (hd3 : ((p2 &&& (255 : Int32)).toUInt32.toUInt16.toUInt32.toInt32) = c3) (hd4 : ((((p2.toUInt32 >>> ((8 : Int32) &&& 31).toUInt32).toInt32) &&& (255 : Int32)).toUInt32.toUInt16.toUInt32.toInt32) = c4) (hd5 : ((((p2.toUInt32 >>> ((16 : Int32) &&& 31).toUInt32).toInt32) &&& (255 : Int32)).toUInt32.toUInt16.toUInt32.toInt32) = c5) :
    MetFree l x (head1 (Jvm.Cond.code x code maxLocals ret :: ws) room_1) (fun a_ U => a_ = #[(.int p1), (.int p2), (.int p3)] ∧ Z.Warmed39 U.vm ∧ U.heap = h0 ∧ CHv Z consts_1 U.vm h0) (fun _ _ _ _ _ => True) (fun _ U o U' => ∃ v L, o = .returned v ∧ Q0 h0 n0 v U'.heap L ∧ CHr Z consts_1 U.vm U.heap U'.vm U'.heap ∧ ReturnedEndW U o U' L room_1.cells room_1.slots) := by
  exact rm0 l Z a0 hw ws p1 p2 p3 0 0 c0 c1 c2 c3 c4 c5 G1 0 3 3 G3 3 3 0 ([] : List Int32) ([] : List Int32) ([(32 : Int32), (124 : Int32), (32 : Int32)] : List Int32) ([.int (0 : Int32), .int (0 : Int32), .int (0 : Int32), .int (0 : Int32), .int (0 : Int32), .int (0 : Int32), .int (0 : Int32), .int (0 : Int32), .int (0 : Int32), .int (0 : Int32), .int (0 : Int32), .int (0 : Int32), .int (0 : Int32), .int (0 : Int32), .int (0 : Int32), .int (0 : Int32)] : List Value) ([.int (StrChars.lo8 (32 : Int32)), .int (StrChars.lo8 (124 : Int32)), .int (StrChars.lo8 (32 : Int32)), .int (0 : Int32), .int (0 : Int32), .int (0 : Int32), .int (0 : Int32), .int (0 : Int32), .int (0 : Int32), .int (0 : Int32), .int (0 : Int32), .int (0 : Int32), .int (0 : Int32), .int (0 : Int32), .int (0 : Int32), .int (0 : Int32)] : List Value) ([.int (StrChars.lo8 (32 : Int32)), .int (StrChars.lo8 (124 : Int32)), .int (StrChars.lo8 (32 : Int32)), .int (0 : Int32), .int (0 : Int32), .int (0 : Int32), .int (0 : Int32), .int (0 : Int32), .int (0 : Int32), .int (0 : Int32), .int (0 : Int32), .int (0 : Int32), .int (0 : Int32), .int (0 : Int32), .int (0 : Int32), .int (0 : Int32)] : List Value) h0 n0 O0 S_CS hG1 S_SF rG3 hr0 hr1 hr2 hr3 hr4 hr5 (Or.inl ⟨rfl, rfl⟩) (Or.inl ⟨rfl, rfl⟩) ⟨0, by decide, (show ¬ Int32.ofNat 0 < 0 by decide), by decide, (show (Int32.ofNat 0).toNatClampNeg = 0 by decide), (show 0 + 0 ≤ 16 by decide), rfl, (show 0 + 0 ≤ 16 by decide), rfl⟩ (show ¬ ((0 : Int32) < (((0 : Int32) + (Int32.ofNat 0)) - ((16 : Int32) >>> ((0 : Int32) &&& 31)))) by decide) (show (0 : Int32) + (Int32.ofNat 0) = 0 by decide) ⟨0, by decide, (show ¬ Int32.ofNat 3 < 0 by decide), by decide, (show (Int32.ofNat 3).toNatClampNeg = 3 by decide), (show 0 + 3 ≤ 16 by decide), rfl, (show 0 + 3 ≤ 16 by decide), rfl⟩ (show ¬ ((0 : Int32) < (((0 : Int32) + (Int32.ofNat 3)) - ((16 : Int32) >>> ((0 : Int32) &&& 31)))) by decide) (show (0 : Int32) + (Int32.ofNat 3) = 3 by decide) ⟨3, by decide, (show ¬ Int32.ofNat 0 < 0 by decide), by decide, (show (Int32.ofNat 0).toNatClampNeg = 0 by decide), (show 3 + 0 ≤ 16 by decide), rfl, (show 3 + 0 ≤ 16 by decide), rfl⟩ (show ¬ ((0 : Int32) < (((3 : Int32) + (Int32.ofNat 0)) - ((16 : Int32) >>> ((0 : Int32) &&& 31)))) by decide) (show (3 : Int32) + (Int32.ofNat 0) = 3 by decide) ⟨by decide, by decide, by decide, by decide, by decide, rfl⟩ rfl (own_memS (by decide) (own_memS (by decide) (own_memS (by decide) own_mem0))) (show 3 ≤ 4000 by decide) (show Int32.ofNat 3 = _ by decide) (Or.inl rfl) (Or.inl rfl) (Nat.le_of_ble_eq_true rfl) (Nat.le_of_ble_eq_true rfl) (Nat.le_of_ble_eq_true rfl) (by decide) (by decide) (by decide) rfl rfl rfl ha_ hb_ hd0 hd1 hd2 hd3 hd4 hd5
theorem rm0_01 (l : Launch) (Z : State) (a0 : Array Value) (hw : ∀ d ∈ tables_1, d.before a0 Z = true) (ws : List Jvm.Cond) (p1 p2 p3 c0 c1 c2 c3 c4 c5 G1 : Int32) (G3 : Value) (h0 : Heap) (n0 : Nat) (O0 : Old Z n0 h0) (S_CS : Sta Z Z.heap "java/lang/String" "COMPACT_STRINGS" "Z" (.int G1)) (hG1 : ¬ (G1 = (0 : Int32))) (S_SF : Sta Z Z.heap "jdk/internal/util/Preconditions" "SIOOBE_FORMATTER" "Ljava/util/function/BiFunction;" G3) (rG3 : G3.isRef = true) (hr0 : ¬ c0 < 0 ∧ ¬ (255 : Int32) < c0) (hr1 : ¬ c1 < 0 ∧ ¬ (255 : Int32) < c1) (hr2 : ¬ c2 < 0 ∧ ¬ (255 : Int32) < c2) (hr3 : ¬ c3 < 0 ∧ ¬ (255 : Int32) < c3) (hr4 : ¬ c4 < 0 ∧ ¬ (255 : Int32) < c4) (hr5 : ¬ c5 < 0 ∧ ¬ (255 : Int32) < c5) (ha_ : (p3 &&& (3 : Int32)) = 0) (hb_ : (((p3.toUInt32 >>> ((2 : Int32) &&& 31).toUInt32).toInt32) &&& (3 : Int32)) = 1) (hd0 : ((p1 &&& (255 : Int32)).toUInt32.toUInt16.toUInt32.toInt32) = c0) (hd1 : ((((p1.toUInt32 >>> ((8 : Int32) &&& 31).toUInt32).toInt32) &&& (255 : Int32)).toUInt32.toUInt16.toUInt32.toInt32) = c1) (hd2 : ((((p1.toUInt32 >>> ((16 : Int32) &&& 31).toUInt32).toInt32) &&& (255 : Int32)).toUInt32.toUInt16.toUInt32.toInt32) = c2) (hd3 : ((p2 &&& (255 : Int32)).toUInt32.toUInt16.toUInt32.toInt32) = c3) (hd4 : ((((p2.toUInt32 >>> ((8 : Int32) &&& 31).toUInt32).toInt32) &&& (255 : Int32)).toUInt32.toUInt16.toUInt32.toInt32) = c4) (hd5 : ((((p2.toUInt32 >>> ((16 : Int32) &&& 31).toUInt32).toInt32) &&& (255 : Int32)).toUInt32.toUInt16.toUInt32.toInt32) = c5) :
    MetFree l x (head1 (Jvm.Cond.code x code maxLocals ret :: ws) room_1) (fun a_ U => a_ = #[(.int p1), (.int p2), (.int p3)] ∧ Z.Warmed39 U.vm ∧ U.heap = h0 ∧ CHv Z consts_1 U.vm h0) (fun _ _ _ _ _ => True) (fun _ U o U' => ∃ v L, o = .returned v ∧ Q0 h0 n0 v U'.heap L ∧ CHr Z consts_1 U.vm U.heap U'.vm U'.heap ∧ ReturnedEndW U o U' L room_1.cells room_1.slots) := by
  exact rm0 l Z a0 hw ws p1 p2 p3 0 1 c0 c1 c2 c3 c4 c5 G1 0 3 4 G3 4 3 0 ([] : List Int32) ([c3] : List Int32) ([(32 : Int32), (124 : Int32), (32 : Int32), c3] : List Int32) ([.int (0 : Int32), .int (0 : Int32), .int (0 : Int32), .int (0 : Int32), .int (0 : Int32), .int (0 : Int32), .int (0 : Int32), .int (0 : Int32), .int (0 : Int32), .int (0 : Int32), .int (0 : Int32), .int (0 : Int32), .int (0 : Int32), .int (0 : Int32), .int (0 : Int32), .int (0 : Int32)] : List Value) ([.int (StrChars.lo8 (32 : Int32)), .int (StrChars.lo8 (124 : Int32)), .int (StrChars.lo8 (32 : Int32)), .int (0 : Int32), .int (0 : Int32), .int (0 : Int32), .int (0 : Int32), .int (0 : Int32), .int (0 : Int32), .int (0 : Int32), .int (0 : Int32), .int (0 : Int32), .int (0 : Int32), .int (0 : Int32), .int (0 : Int32), .int (0 : Int32)] : List Value) ([.int (StrChars.lo8 (32 : Int32)), .int (StrChars.lo8 (124 : Int32)), .int (StrChars.lo8 (32 : Int32)), .int (StrChars.lo8 c3), .int (0 : Int32), .int (0 : Int32), .int (0 : Int32), .int (0 : Int32), .int (0 : Int32), .int (0 : Int32), .int (0 : Int32), .int (0 : Int32), .int (0 : Int32), .int (0 : Int32), .int (0 : Int32), .int (0 : Int32)] : List Value) h0 n0 O0 S_CS hG1 S_SF rG3 hr0 hr1 hr2 hr3 hr4 hr5 (Or.inl ⟨rfl, rfl⟩) (Or.inr (Or.inl ⟨rfl, rfl⟩)) ⟨0, by decide, (show ¬ Int32.ofNat 0 < 0 by decide), by decide, (show (Int32.ofNat 0).toNatClampNeg = 0 by decide), (show 0 + 0 ≤ 16 by decide), rfl, (show 0 + 0 ≤ 16 by decide), rfl⟩ (show ¬ ((0 : Int32) < (((0 : Int32) + (Int32.ofNat 0)) - ((16 : Int32) >>> ((0 : Int32) &&& 31)))) by decide) (show (0 : Int32) + (Int32.ofNat 0) = 0 by decide) ⟨0, by decide, (show ¬ Int32.ofNat 3 < 0 by decide), by decide, (show (Int32.ofNat 3).toNatClampNeg = 3 by decide), (show 0 + 3 ≤ 16 by decide), rfl, (show 0 + 3 ≤ 16 by decide), rfl⟩ (show ¬ ((0 : Int32) < (((0 : Int32) + (Int32.ofNat 3)) - ((16 : Int32) >>> ((0 : Int32) &&& 31)))) by decide) (show (0 : Int32) + (Int32.ofNat 3) = 3 by decide) ⟨3, by decide, (show ¬ Int32.ofNat 1 < 0 by decide), by decide, (show (Int32.ofNat 1).toNatClampNeg = 1 by decide), (show 3 + 1 ≤ 16 by decide), rfl, (show 3 + 1 ≤ 16 by decide), rfl⟩ (show ¬ ((0 : Int32) < (((3 : Int32) + (Int32.ofNat 1)) - ((16 : Int32) >>> ((0 : Int32) &&& 31)))) by decide) (show (3 : Int32) + (Int32.ofNat 1) = 4 by decide) ⟨by decide, by decide, by decide, by decide, by decide, rfl⟩ rfl (own_memS (by decide) (own_memS (by decide) (own_memS (by decide) (own_memS hr3 own_mem0)))) (show 4 ≤ 4000 by decide) (show Int32.ofNat 4 = _ by decide) (Or.inl rfl) (Or.inr (Or.inl ⟨rfl, ⟨Nat.le_of_ble_eq_true rfl, by decide, rfl⟩⟩)) (Nat.le_of_ble_eq_true rfl) (Nat.le_of_ble_eq_true rfl) (Nat.le_of_ble_eq_true rfl) (by decide) (by decide) (by decide) rfl rfl rfl ha_ hb_ hd0 hd1 hd2 hd3 hd4 hd5
theorem rm0_02 (l : Launch) (Z : State) (a0 : Array Value) (hw : ∀ d ∈ tables_1, d.before a0 Z = true) (ws : List Jvm.Cond) (p1 p2 p3 c0 c1 c2 c3 c4 c5 G1 : Int32) (G3 : Value) (h0 : Heap) (n0 : Nat) (O0 : Old Z n0 h0) (S_CS : Sta Z Z.heap "java/lang/String" "COMPACT_STRINGS" "Z" (.int G1)) (hG1 : ¬ (G1 = (0 : Int32))) (S_SF : Sta Z Z.heap "jdk/internal/util/Preconditions" "SIOOBE_FORMATTER" "Ljava/util/function/BiFunction;" G3) (rG3 : G3.isRef = true) (hr0 : ¬ c0 < 0 ∧ ¬ (255 : Int32) < c0) (hr1 : ¬ c1 < 0 ∧ ¬ (255 : Int32) < c1) (hr2 : ¬ c2 < 0 ∧ ¬ (255 : Int32) < c2) (hr3 : ¬ c3 < 0 ∧ ¬ (255 : Int32) < c3) (hr4 : ¬ c4 < 0 ∧ ¬ (255 : Int32) < c4) (hr5 : ¬ c5 < 0 ∧ ¬ (255 : Int32) < c5) (ha_ : (p3 &&& (3 : Int32)) = 0) (hb_ : (((p3.toUInt32 >>> ((2 : Int32) &&& 31).toUInt32).toInt32) &&& (3 : Int32)) = 2) (hd0 : ((p1 &&& (255 : Int32)).toUInt32.toUInt16.toUInt32.toInt32) = c0) (hd1 : ((((p1.toUInt32 >>> ((8 : Int32) &&& 31).toUInt32).toInt32) &&& (255 : Int32)).toUInt32.toUInt16.toUInt32.toInt32) = c1) (hd2 : ((((p1.toUInt32 >>> ((16 : Int32) &&& 31).toUInt32).toInt32) &&& (255 : Int32)).toUInt32.toUInt16.toUInt32.toInt32) = c2) (hd3 : ((p2 &&& (255 : Int32)).toUInt32.toUInt16.toUInt32.toInt32) = c3) (hd4 : ((((p2.toUInt32 >>> ((8 : Int32) &&& 31).toUInt32).toInt32) &&& (255 : Int32)).toUInt32.toUInt16.toUInt32.toInt32) = c4) (hd5 : ((((p2.toUInt32 >>> ((16 : Int32) &&& 31).toUInt32).toInt32) &&& (255 : Int32)).toUInt32.toUInt16.toUInt32.toInt32) = c5) :
    MetFree l x (head1 (Jvm.Cond.code x code maxLocals ret :: ws) room_1) (fun a_ U => a_ = #[(.int p1), (.int p2), (.int p3)] ∧ Z.Warmed39 U.vm ∧ U.heap = h0 ∧ CHv Z consts_1 U.vm h0) (fun _ _ _ _ _ => True) (fun _ U o U' => ∃ v L, o = .returned v ∧ Q0 h0 n0 v U'.heap L ∧ CHr Z consts_1 U.vm U.heap U'.vm U'.heap ∧ ReturnedEndW U o U' L room_1.cells room_1.slots) := by
  exact rm0 l Z a0 hw ws p1 p2 p3 0 2 c0 c1 c2 c3 c4 c5 G1 0 3 5 G3 5 3 0 ([] : List Int32) ([c3, c4] : List Int32) ([(32 : Int32), (124 : Int32), (32 : Int32), c3, c4] : List Int32) ([.int (0 : Int32), .int (0 : Int32), .int (0 : Int32), .int (0 : Int32), .int (0 : Int32), .int (0 : Int32), .int (0 : Int32), .int (0 : Int32), .int (0 : Int32), .int (0 : Int32), .int (0 : Int32), .int (0 : Int32), .int (0 : Int32), .int (0 : Int32), .int (0 : Int32), .int (0 : Int32)] : List Value) ([.int (StrChars.lo8 (32 : Int32)), .int (StrChars.lo8 (124 : Int32)), .int (StrChars.lo8 (32 : Int32)), .int (0 : Int32), .int (0 : Int32), .int (0 : Int32), .int (0 : Int32), .int (0 : Int32), .int (0 : Int32), .int (0 : Int32), .int (0 : Int32), .int (0 : Int32), .int (0 : Int32), .int (0 : Int32), .int (0 : Int32), .int (0 : Int32)] : List Value) ([.int (StrChars.lo8 (32 : Int32)), .int (StrChars.lo8 (124 : Int32)), .int (StrChars.lo8 (32 : Int32)), .int (StrChars.lo8 c3), .int (StrChars.lo8 c4), .int (0 : Int32), .int (0 : Int32), .int (0 : Int32), .int (0 : Int32), .int (0 : Int32), .int (0 : Int32), .int (0 : Int32), .int (0 : Int32), .int (0 : Int32), .int (0 : Int32), .int (0 : Int32)] : List Value) h0 n0 O0 S_CS hG1 S_SF rG3 hr0 hr1 hr2 hr3 hr4 hr5 (Or.inl ⟨rfl, rfl⟩) (Or.inr (Or.inr (Or.inl ⟨rfl, rfl⟩))) ⟨0, by decide, (show ¬ Int32.ofNat 0 < 0 by decide), by decide, (show (Int32.ofNat 0).toNatClampNeg = 0 by decide), (show 0 + 0 ≤ 16 by decide), rfl, (show 0 + 0 ≤ 16 by decide), rfl⟩ (show ¬ ((0 : Int32) < (((0 : Int32) + (Int32.ofNat 0)) - ((16 : Int32) >>> ((0 : Int32) &&& 31)))) by decide) (show (0 : Int32) + (Int32.ofNat 0) = 0 by decide) ⟨0, by decide, (show ¬ Int32.ofNat 3 < 0 by decide), by decide, (show (Int32.ofNat 3).toNatClampNeg = 3 by decide), (show 0 + 3 ≤ 16 by decide), rfl, (show 0 + 3 ≤ 16 by decide), rfl⟩ (show ¬ ((0 : Int32) < (((0 : Int32) + (Int32.ofNat 3)) - ((16 : Int32) >>> ((0 : Int32) &&& 31)))) by decide) (show (0 : Int32) + (Int32.ofNat 3) = 3 by decide) ⟨3, by decide, (show ¬ Int32.ofNat 2 < 0 by decide), by decide, (show (Int32.ofNat 2).toNatClampNeg = 2 by decide), (show 3 + 2 ≤ 16 by decide), rfl, (show 3 + 2 ≤ 16 by decide), rfl⟩ (show ¬ ((0 : Int32) < (((3 : Int32) + (Int32.ofNat 2)) - ((16 : Int32) >>> ((0 : Int32) &&& 31)))) by decide) (show (3 : Int32) + (Int32.ofNat 2) = 5 by decide) ⟨by decide, by decide, by decide, by decide, by decide, rfl⟩ rfl (own_memS (by decide) (own_memS (by decide) (own_memS (by decide) (own_memS hr3 (own_memS hr4 own_mem0))))) (show 5 ≤ 4000 by decide) (show Int32.ofNat 5 = _ by decide) (Or.inl rfl) (Or.inr (Or.inr (Or.inl ⟨rfl, ⟨Nat.le_of_ble_eq_true rfl, by decide, rfl⟩, ⟨Nat.le_of_ble_eq_true rfl, by decide, rfl⟩⟩))) (Nat.le_of_ble_eq_true rfl) (Nat.le_of_ble_eq_true rfl) (Nat.le_of_ble_eq_true rfl) (by decide) (by decide) (by decide) rfl rfl rfl ha_ hb_ hd0 hd1 hd2 hd3 hd4 hd5
theorem rm0_03 (l : Launch) (Z : State) (a0 : Array Value) (hw : ∀ d ∈ tables_1, d.before a0 Z = true) (ws : List Jvm.Cond) (p1 p2 p3 c0 c1 c2 c3 c4 c5 G1 : Int32) (G3 : Value) (h0 : Heap) (n0 : Nat) (O0 : Old Z n0 h0) (S_CS : Sta Z Z.heap "java/lang/String" "COMPACT_STRINGS" "Z" (.int G1)) (hG1 : ¬ (G1 = (0 : Int32))) (S_SF : Sta Z Z.heap "jdk/internal/util/Preconditions" "SIOOBE_FORMATTER" "Ljava/util/function/BiFunction;" G3) (rG3 : G3.isRef = true) (hr0 : ¬ c0 < 0 ∧ ¬ (255 : Int32) < c0) (hr1 : ¬ c1 < 0 ∧ ¬ (255 : Int32) < c1) (hr2 : ¬ c2 < 0 ∧ ¬ (255 : Int32) < c2) (hr3 : ¬ c3 < 0 ∧ ¬ (255 : Int32) < c3) (hr4 : ¬ c4 < 0 ∧ ¬ (255 : Int32) < c4) (hr5 : ¬ c5 < 0 ∧ ¬ (255 : Int32) < c5) (ha_ : (p3 &&& (3 : Int32)) = 0) (hb_ : (((p3.toUInt32 >>> ((2 : Int32) &&& 31).toUInt32).toInt32) &&& (3 : Int32)) = 3) (hd0 : ((p1 &&& (255 : Int32)).toUInt32.toUInt16.toUInt32.toInt32) = c0) (hd1 : ((((p1.toUInt32 >>> ((8 : Int32) &&& 31).toUInt32).toInt32) &&& (255 : Int32)).toUInt32.toUInt16.toUInt32.toInt32) = c1) (hd2 : ((((p1.toUInt32 >>> ((16 : Int32) &&& 31).toUInt32).toInt32) &&& (255 : Int32)).toUInt32.toUInt16.toUInt32.toInt32) = c2) (hd3 : ((p2 &&& (255 : Int32)).toUInt32.toUInt16.toUInt32.toInt32) = c3) (hd4 : ((((p2.toUInt32 >>> ((8 : Int32) &&& 31).toUInt32).toInt32) &&& (255 : Int32)).toUInt32.toUInt16.toUInt32.toInt32) = c4) (hd5 : ((((p2.toUInt32 >>> ((16 : Int32) &&& 31).toUInt32).toInt32) &&& (255 : Int32)).toUInt32.toUInt16.toUInt32.toInt32) = c5) :
    MetFree l x (head1 (Jvm.Cond.code x code maxLocals ret :: ws) room_1) (fun a_ U => a_ = #[(.int p1), (.int p2), (.int p3)] ∧ Z.Warmed39 U.vm ∧ U.heap = h0 ∧ CHv Z consts_1 U.vm h0) (fun _ _ _ _ _ => True) (fun _ U o U' => ∃ v L, o = .returned v ∧ Q0 h0 n0 v U'.heap L ∧ CHr Z consts_1 U.vm U.heap U'.vm U'.heap ∧ ReturnedEndW U o U' L room_1.cells room_1.slots) := by
  exact rm0 l Z a0 hw ws p1 p2 p3 0 3 c0 c1 c2 c3 c4 c5 G1 0 3 6 G3 6 3 0 ([] : List Int32) ([c3, c4, c5] : List Int32) ([(32 : Int32), (124 : Int32), (32 : Int32), c3, c4, c5] : List Int32) ([.int (0 : Int32), .int (0 : Int32), .int (0 : Int32), .int (0 : Int32), .int (0 : Int32), .int (0 : Int32), .int (0 : Int32), .int (0 : Int32), .int (0 : Int32), .int (0 : Int32), .int (0 : Int32), .int (0 : Int32), .int (0 : Int32), .int (0 : Int32), .int (0 : Int32), .int (0 : Int32)] : List Value) ([.int (StrChars.lo8 (32 : Int32)), .int (StrChars.lo8 (124 : Int32)), .int (StrChars.lo8 (32 : Int32)), .int (0 : Int32), .int (0 : Int32), .int (0 : Int32), .int (0 : Int32), .int (0 : Int32), .int (0 : Int32), .int (0 : Int32), .int (0 : Int32), .int (0 : Int32), .int (0 : Int32), .int (0 : Int32), .int (0 : Int32), .int (0 : Int32)] : List Value) ([.int (StrChars.lo8 (32 : Int32)), .int (StrChars.lo8 (124 : Int32)), .int (StrChars.lo8 (32 : Int32)), .int (StrChars.lo8 c3), .int (StrChars.lo8 c4), .int (StrChars.lo8 c5), .int (0 : Int32), .int (0 : Int32), .int (0 : Int32), .int (0 : Int32), .int (0 : Int32), .int (0 : Int32), .int (0 : Int32), .int (0 : Int32), .int (0 : Int32), .int (0 : Int32)] : List Value) h0 n0 O0 S_CS hG1 S_SF rG3 hr0 hr1 hr2 hr3 hr4 hr5 (Or.inl ⟨rfl, rfl⟩) (Or.inr (Or.inr (Or.inr ⟨rfl, rfl⟩))) ⟨0, by decide, (show ¬ Int32.ofNat 0 < 0 by decide), by decide, (show (Int32.ofNat 0).toNatClampNeg = 0 by decide), (show 0 + 0 ≤ 16 by decide), rfl, (show 0 + 0 ≤ 16 by decide), rfl⟩ (show ¬ ((0 : Int32) < (((0 : Int32) + (Int32.ofNat 0)) - ((16 : Int32) >>> ((0 : Int32) &&& 31)))) by decide) (show (0 : Int32) + (Int32.ofNat 0) = 0 by decide) ⟨0, by decide, (show ¬ Int32.ofNat 3 < 0 by decide), by decide, (show (Int32.ofNat 3).toNatClampNeg = 3 by decide), (show 0 + 3 ≤ 16 by decide), rfl, (show 0 + 3 ≤ 16 by decide), rfl⟩ (show ¬ ((0 : Int32) < (((0 : Int32) + (Int32.ofNat 3)) - ((16 : Int32) >>> ((0 : Int32) &&& 31)))) by decide) (show (0 : Int32) + (Int32.ofNat 3) = 3 by decide) ⟨3, by decide, (show ¬ Int32.ofNat 3 < 0 by decide), by decide, (show (Int32.ofNat 3).toNatClampNeg = 3 by decide), (show 3 + 3 ≤ 16 by decide), rfl, (show 3 + 3 ≤ 16 by decide), rfl⟩ (show ¬ ((0 : Int32) < (((3 : Int32) + (Int32.ofNat 3)) - ((16 : Int32) >>> ((0 : Int32) &&& 31)))) by decide) (show (3 : Int32) + (Int32.ofNat 3) = 6 by decide) ⟨by decide, by decide, by decide, by decide, by decide, rfl⟩ rfl (own_memS (by decide) (own_memS (by decide) (own_memS (by decide) (own_memS hr3 (own_memS hr4 (own_memS hr5 own_mem0)))))) (show 6 ≤ 4000 by decide) (show Int32.ofNat 6 = _ by decide) (Or.inl rfl) (Or.inr (Or.inr (Or.inr (⟨rfl, ⟨Nat.le_of_ble_eq_true rfl, by decide, rfl⟩, ⟨Nat.le_of_ble_eq_true rfl, by decide, rfl⟩, ⟨Nat.le_of_ble_eq_true rfl, by decide, rfl⟩⟩)))) (Nat.le_of_ble_eq_true rfl) (Nat.le_of_ble_eq_true rfl) (Nat.le_of_ble_eq_true rfl) (by decide) (by decide) (by decide) rfl rfl rfl ha_ hb_ hd0 hd1 hd2 hd3 hd4 hd5
theorem rm0_10 (l : Launch) (Z : State) (a0 : Array Value) (hw : ∀ d ∈ tables_1, d.before a0 Z = true) (ws : List Jvm.Cond) (p1 p2 p3 c0 c1 c2 c3 c4 c5 G1 : Int32) (G3 : Value) (h0 : Heap) (n0 : Nat) (O0 : Old Z n0 h0) (S_CS : Sta Z Z.heap "java/lang/String" "COMPACT_STRINGS" "Z" (.int G1)) (hG1 : ¬ (G1 = (0 : Int32))) (S_SF : Sta Z Z.heap "jdk/internal/util/Preconditions" "SIOOBE_FORMATTER" "Ljava/util/function/BiFunction;" G3) (rG3 : G3.isRef = true) (hr0 : ¬ c0 < 0 ∧ ¬ (255 : Int32) < c0) (hr1 : ¬ c1 < 0 ∧ ¬ (255 : Int32) < c1) (hr2 : ¬ c2 < 0 ∧ ¬ (255 : Int32) < c2) (hr3 : ¬ c3 < 0 ∧ ¬ (255 : Int32) < c3) (hr4 : ¬ c4 < 0 ∧ ¬ (255 : Int32) < c4) (hr5 : ¬ c5 < 0 ∧ ¬ (255 : Int32) < c5) (ha_ : (p3 &&& (3 : Int32)) = 1) (hb_ : (((p3.toUInt32 >>> ((2 : Int32) &&& 31).toUInt32).toInt32) &&& (3 : Int32)) = 0) (hd0 : ((p1 &&& (255 : Int32)).toUInt32.toUInt16.toUInt32.toInt32) = c0) (hd1 : ((((p1.toUInt32 >>> ((8 : Int32) &&& 31).toUInt32).toInt32) &&& (255 : Int32)).toUInt32.toUInt16.toUInt32.toInt32) = c1) (hd2 : ((((p1.toUInt32 >>> ((16 : Int32) &&& 31).toUInt32).toInt32) &&& (255 : Int32)).toUInt32.toUInt16.toUInt32.toInt32) = c2) (hd3 : ((p2 &&& (255 : Int32)).toUInt32.toUInt16.toUInt32.toInt32) = c3) (hd4 : ((((p2.toUInt32 >>> ((8 : Int32) &&& 31).toUInt32).toInt32) &&& (255 : Int32)).toUInt32.toUInt16.toUInt32.toInt32) = c4) (hd5 : ((((p2.toUInt32 >>> ((16 : Int32) &&& 31).toUInt32).toInt32) &&& (255 : Int32)).toUInt32.toUInt16.toUInt32.toInt32) = c5) :
    MetFree l x (head1 (Jvm.Cond.code x code maxLocals ret :: ws) room_1) (fun a_ U => a_ = #[(.int p1), (.int p2), (.int p3)] ∧ Z.Warmed39 U.vm ∧ U.heap = h0 ∧ CHv Z consts_1 U.vm h0) (fun _ _ _ _ _ => True) (fun _ U o U' => ∃ v L, o = .returned v ∧ Q0 h0 n0 v U'.heap L ∧ CHr Z consts_1 U.vm U.heap U'.vm U'.heap ∧ ReturnedEndW U o U' L room_1.cells room_1.slots) := by
  exact rm0 l Z a0 hw ws p1 p2 p3 1 0 c0 c1 c2 c3 c4 c5 G1 1 4 4 G3 4 4 1 ([c0] : List Int32) ([] : List Int32) ([c0, (32 : Int32), (124 : Int32), (32 : Int32)] : List Int32) ([.int (StrChars.lo8 c0), .int (0 : Int32), .int (0 : Int32), .int (0 : Int32), .int (0 : Int32), .int (0 : Int32), .int (0 : Int32), .int (0 : Int32), .int (0 : Int32), .int (0 : Int32), .int (0 : Int32), .int (0 : Int32), .int (0 : Int32), .int (0 : Int32), .int (0 : Int32), .int (0 : Int32)] : List Value) ([.int (StrChars.lo8 c0), .int (StrChars.lo8 (32 : Int32)), .int (StrChars.lo8 (124 : Int32)), .int (StrChars.lo8 (32 : Int32)), .int (0 : Int32), .int (0 : Int32), .int (0 : Int32), .int (0 : Int32), .int (0 : Int32), .int (0 : Int32), .int (0 : Int32), .int (0 : Int32), .int (0 : Int32), .int (0 : Int32), .int (0 : Int32), .int (0 : Int32)] : List Value) ([.int (StrChars.lo8 c0), .int (StrChars.lo8 (32 : Int32)), .int (StrChars.lo8 (124 : Int32)), .int (StrChars.lo8 (32 : Int32)), .int (0 : Int32), .int (0 : Int32), .int (0 : Int32), .int (0 : Int32), .int (0 : Int32), .int (0 : Int32), .int (0 : Int32), .int (0 : Int32), .int (0 : Int32), .int (0 : Int32), .int (0 : Int32), .int (0 : Int32)] : List Value) h0 n0 O0 S_CS hG1 S_SF rG3 hr0 hr1 hr2 hr3 hr4 hr5 (Or.inr (Or.inl ⟨rfl, rfl⟩)) (Or.inl ⟨rfl, rfl⟩) ⟨0, by decide, (show ¬ Int32.ofNat 1 < 0 by decide), by decide, (show (Int32.ofNat 1).toNatClampNeg = 1 by decide), (show 0 + 1 ≤ 16 by decide), rfl, (show 0 + 1 ≤ 16 by decide), rfl⟩ (show ¬ ((0 : Int32) < (((0 : Int32) + (Int32.ofNat 1)) - ((16 : Int32) >>> ((0 : Int32) &&& 31)))) by decide) (show (0 : Int32) + (Int32.ofNat 1) = 1 by decide) ⟨1, by decide, (show ¬ Int32.ofNat 3 < 0 by decide), by decide, (show (Int32.ofNat 3).toNatClampNeg = 3 by decide), (show 1 + 3 ≤ 16 by decide), rfl, (show 1 + 3 ≤ 16 by decide), rfl⟩ (show ¬ ((0 : Int32) < (((1 : Int32) + (Int32.ofNat 3)) - ((16 : Int32) >>> ((0 : Int32) &&& 31)))) by decide) (show (1 : Int32) + (Int32.ofNat 3) = 4 by decide) ⟨4, by decide, (show ¬ Int32.ofNat 0 < 0 by decide), by decide, (show (Int32.ofNat 0).toNatClampNeg = 0 by decide), (show 4 + 0 ≤ 16 by decide), rfl, (show 4 + 0 ≤ 16 by decide), rfl⟩ (show ¬ ((0 : Int32) < (((4 : Int32) + (Int32.ofNat 0)) - ((16 : Int32) >>> ((0 : Int32) &&& 31)))) by decide) (show (4 : Int32) + (Int32.ofNat 0) = 4 by decide) ⟨by decide, by decide, by decide, by decide, by decide, rfl⟩ rfl (own_memS hr0 (own_memS (by decide) (own_memS (by decide) (own_memS (by decide) own_mem0)))) (show 4 ≤ 4000 by decide) (show Int32.ofNat 4 = _ by decide) (Or.inr (Or.inl ⟨rfl, ⟨Nat.le_of_ble_eq_true rfl, by decide, rfl⟩⟩)) (Or.inl rfl) (Nat.le_of_ble_eq_true rfl) (Nat.le_of_ble_eq_true rfl) (Nat.le_of_ble_eq_true rfl) (by decide) (by decide) (by decide) rfl rfl rfl ha_ hb_ hd0 hd1 hd2 hd3 hd4 hd5
theorem rm0_11 (l : Launch) (Z : State) (a0 : Array Value) (hw : ∀ d ∈ tables_1, d.before a0 Z = true) (ws : List Jvm.Cond) (p1 p2 p3 c0 c1 c2 c3 c4 c5 G1 : Int32) (G3 : Value) (h0 : Heap) (n0 : Nat) (O0 : Old Z n0 h0) (S_CS : Sta Z Z.heap "java/lang/String" "COMPACT_STRINGS" "Z" (.int G1)) (hG1 : ¬ (G1 = (0 : Int32))) (S_SF : Sta Z Z.heap "jdk/internal/util/Preconditions" "SIOOBE_FORMATTER" "Ljava/util/function/BiFunction;" G3) (rG3 : G3.isRef = true) (hr0 : ¬ c0 < 0 ∧ ¬ (255 : Int32) < c0) (hr1 : ¬ c1 < 0 ∧ ¬ (255 : Int32) < c1) (hr2 : ¬ c2 < 0 ∧ ¬ (255 : Int32) < c2) (hr3 : ¬ c3 < 0 ∧ ¬ (255 : Int32) < c3) (hr4 : ¬ c4 < 0 ∧ ¬ (255 : Int32) < c4) (hr5 : ¬ c5 < 0 ∧ ¬ (255 : Int32) < c5) (ha_ : (p3 &&& (3 : Int32)) = 1) (hb_ : (((p3.toUInt32 >>> ((2 : Int32) &&& 31).toUInt32).toInt32) &&& (3 : Int32)) = 1) (hd0 : ((p1 &&& (255 : Int32)).toUInt32.toUInt16.toUInt32.toInt32) = c0) (hd1 : ((((p1.toUInt32 >>> ((8 : Int32) &&& 31).toUInt32).toInt32) &&& (255 : Int32)).toUInt32.toUInt16.toUInt32.toInt32) = c1) (hd2 : ((((p1.toUInt32 >>> ((16 : Int32) &&& 31).toUInt32).toInt32) &&& (255 : Int32)).toUInt32.toUInt16.toUInt32.toInt32) = c2) (hd3 : ((p2 &&& (255 : Int32)).toUInt32.toUInt16.toUInt32.toInt32) = c3) (hd4 : ((((p2.toUInt32 >>> ((8 : Int32) &&& 31).toUInt32).toInt32) &&& (255 : Int32)).toUInt32.toUInt16.toUInt32.toInt32) = c4) (hd5 : ((((p2.toUInt32 >>> ((16 : Int32) &&& 31).toUInt32).toInt32) &&& (255 : Int32)).toUInt32.toUInt16.toUInt32.toInt32) = c5) :
    MetFree l x (head1 (Jvm.Cond.code x code maxLocals ret :: ws) room_1) (fun a_ U => a_ = #[(.int p1), (.int p2), (.int p3)] ∧ Z.Warmed39 U.vm ∧ U.heap = h0 ∧ CHv Z consts_1 U.vm h0) (fun _ _ _ _ _ => True) (fun _ U o U' => ∃ v L, o = .returned v ∧ Q0 h0 n0 v U'.heap L ∧ CHr Z consts_1 U.vm U.heap U'.vm U'.heap ∧ ReturnedEndW U o U' L room_1.cells room_1.slots) := by
  exact rm0 l Z a0 hw ws p1 p2 p3 1 1 c0 c1 c2 c3 c4 c5 G1 1 4 5 G3 5 4 1 ([c0] : List Int32) ([c3] : List Int32) ([c0, (32 : Int32), (124 : Int32), (32 : Int32), c3] : List Int32) ([.int (StrChars.lo8 c0), .int (0 : Int32), .int (0 : Int32), .int (0 : Int32), .int (0 : Int32), .int (0 : Int32), .int (0 : Int32), .int (0 : Int32), .int (0 : Int32), .int (0 : Int32), .int (0 : Int32), .int (0 : Int32), .int (0 : Int32), .int (0 : Int32), .int (0 : Int32), .int (0 : Int32)] : List Value) ([.int (StrChars.lo8 c0), .int (StrChars.lo8 (32 : Int32)), .int (StrChars.lo8 (124 : Int32)), .int (StrChars.lo8 (32 : Int32)), .int (0 : Int32), .int (0 : Int32), .int (0 : Int32), .int (0 : Int32), .int (0 : Int32), .int (0 : Int32), .int (0 : Int32), .int (0 : Int32), .int (0 : Int32), .int (0 : Int32), .int (0 : Int32), .int (0 : Int32)] : List Value) ([.int (StrChars.lo8 c0), .int (StrChars.lo8 (32 : Int32)), .int (StrChars.lo8 (124 : Int32)), .int (StrChars.lo8 (32 : Int32)), .int (StrChars.lo8 c3), .int (0 : Int32), .int (0 : Int32), .int (0 : Int32), .int (0 : Int32), .int (0 : Int32), .int (0 : Int32), .int (0 : Int32), .int (0 : Int32), .int (0 : Int32), .int (0 : Int32), .int (0 : Int32)] : List Value) h0 n0 O0 S_CS hG1 S_SF rG3 hr0 hr1 hr2 hr3 hr4 hr5 (Or.inr (Or.inl ⟨rfl, rfl⟩)) (Or.inr (Or.inl ⟨rfl, rfl⟩)) ⟨0, by decide, (show ¬ Int32.ofNat 1 < 0 by decide), by decide, (show (Int32.ofNat 1).toNatClampNeg = 1 by decide), (show 0 + 1 ≤ 16 by decide), rfl, (show 0 + 1 ≤ 16 by decide), rfl⟩ (show ¬ ((0 : Int32) < (((0 : Int32) + (Int32.ofNat 1)) - ((16 : Int32) >>> ((0 : Int32) &&& 31)))) by decide) (show (0 : Int32) + (Int32.ofNat 1) = 1 by decide) ⟨1, by decide, (show ¬ Int32.ofNat 3 < 0 by decide), by decide, (show (Int32.ofNat 3).toNatClampNeg = 3 by decide), (show 1 + 3 ≤ 16 by decide), rfl, (show 1 + 3 ≤ 16 by decide), rfl⟩ (show ¬ ((0 : Int32) < (((1 : Int32) + (Int32.ofNat 3)) - ((16 : Int32) >>> ((0 : Int32) &&& 31)))) by decide) (show (1 : Int32) + (Int32.ofNat 3) = 4 by decide) ⟨4, by decide, (show ¬ Int32.ofNat 1 < 0 by decide), by decide, (show (Int32.ofNat 1).toNatClampNeg = 1 by decide), (show 4 + 1 ≤ 16 by decide), rfl, (show 4 + 1 ≤ 16 by decide), rfl⟩ (show ¬ ((0 : Int32) < (((4 : Int32) + (Int32.ofNat 1)) - ((16 : Int32) >>> ((0 : Int32) &&& 31)))) by decide) (show (4 : Int32) + (Int32.ofNat 1) = 5 by decide) ⟨by decide, by decide, by decide, by decide, by decide, rfl⟩ rfl (own_memS hr0 (own_memS (by decide) (own_memS (by decide) (own_memS (by decide) (own_memS hr3 own_mem0))))) (show 5 ≤ 4000 by decide) (show Int32.ofNat 5 = _ by decide) (Or.inr (Or.inl ⟨rfl, ⟨Nat.le_of_ble_eq_true rfl, by decide, rfl⟩⟩)) (Or.inr (Or.inl ⟨rfl, ⟨Nat.le_of_ble_eq_true rfl, by decide, rfl⟩⟩)) (Nat.le_of_ble_eq_true rfl) (Nat.le_of_ble_eq_true rfl) (Nat.le_of_ble_eq_true rfl) (by decide) (by decide) (by decide) rfl rfl rfl ha_ hb_ hd0 hd1 hd2 hd3 hd4 hd5
theorem rm0_12 (l : Launch) (Z : State) (a0 : Array Value) (hw : ∀ d ∈ tables_1, d.before a0 Z = true) (ws : List Jvm.Cond) (p1 p2 p3 c0 c1 c2 c3 c4 c5 G1 : Int32) (G3 : Value) (h0 : Heap) (n0 : Nat) (O0 : Old Z n0 h0) (S_CS : Sta Z Z.heap "java/lang/String" "COMPACT_STRINGS" "Z" (.int G1)) (hG1 : ¬ (G1 = (0 : Int32))) (S_SF : Sta Z Z.heap "jdk/internal/util/Preconditions" "SIOOBE_FORMATTER" "Ljava/util/function/BiFunction;" G3) (rG3 : G3.isRef = true) (hr0 : ¬ c0 < 0 ∧ ¬ (255 : Int32) < c0) (hr1 : ¬ c1 < 0 ∧ ¬ (255 : Int32) < c1) (hr2 : ¬ c2 < 0 ∧ ¬ (255 : Int32) < c2) (hr3 : ¬ c3 < 0 ∧ ¬ (255 : Int32) < c3) (hr4 : ¬ c4 < 0 ∧ ¬ (255 : Int32) < c4) (hr5 : ¬ c5 < 0 ∧ ¬ (255 : Int32) < c5) (ha_ : (p3 &&& (3 : Int32)) = 1) (hb_ : (((p3.toUInt32 >>> ((2 : Int32) &&& 31).toUInt32).toInt32) &&& (3 : Int32)) = 2) (hd0 : ((p1 &&& (255 : Int32)).toUInt32.toUInt16.toUInt32.toInt32) = c0) (hd1 : ((((p1.toUInt32 >>> ((8 : Int32) &&& 31).toUInt32).toInt32) &&& (255 : Int32)).toUInt32.toUInt16.toUInt32.toInt32) = c1) (hd2 : ((((p1.toUInt32 >>> ((16 : Int32) &&& 31).toUInt32).toInt32) &&& (255 : Int32)).toUInt32.toUInt16.toUInt32.toInt32) = c2) (hd3 : ((p2 &&& (255 : Int32)).toUInt32.toUInt16.toUInt32.toInt32) = c3) (hd4 : ((((p2.toUInt32 >>> ((8 : Int32) &&& 31).toUInt32).toInt32) &&& (255 : Int32)).toUInt32.toUInt16.toUInt32.toInt32) = c4) (hd5 : ((((p2.toUInt32 >>> ((16 : Int32) &&& 31).toUInt32).toInt32) &&& (255 : Int32)).toUInt32.toUInt16.toUInt32.toInt32) = c5) :
    MetFree l x (head1 (Jvm.Cond.code x code maxLocals ret :: ws) room_1) (fun a_ U => a_ = #[(.int p1), (.int p2), (.int p3)] ∧ Z.Warmed39 U.vm ∧ U.heap = h0 ∧ CHv Z consts_1 U.vm h0) (fun _ _ _ _ _ => True) (fun _ U o U' => ∃ v L, o = .returned v ∧ Q0 h0 n0 v U'.heap L ∧ CHr Z consts_1 U.vm U.heap U'.vm U'.heap ∧ ReturnedEndW U o U' L room_1.cells room_1.slots) := by
  exact rm0 l Z a0 hw ws p1 p2 p3 1 2 c0 c1 c2 c3 c4 c5 G1 1 4 6 G3 6 4 1 ([c0] : List Int32) ([c3, c4] : List Int32) ([c0, (32 : Int32), (124 : Int32), (32 : Int32), c3, c4] : List Int32) ([.int (StrChars.lo8 c0), .int (0 : Int32), .int (0 : Int32), .int (0 : Int32), .int (0 : Int32), .int (0 : Int32), .int (0 : Int32), .int (0 : Int32), .int (0 : Int32), .int (0 : Int32), .int (0 : Int32), .int (0 : Int32), .int (0 : Int32), .int (0 : Int32), .int (0 : Int32), .int (0 : Int32)] : List Value) ([.int (StrChars.lo8 c0), .int (StrChars.lo8 (32 : Int32)), .int (StrChars.lo8 (124 : Int32)), .int (StrChars.lo8 (32 : Int32)), .int (0 : Int32), .int (0 : Int32), .int (0 : Int32), .int (0 : Int32), .int (0 : Int32), .int (0 : Int32), .int (0 : Int32), .int (0 : Int32), .int (0 : Int32), .int (0 : Int32), .int (0 : Int32), .int (0 : Int32)] : List Value) ([.int (StrChars.lo8 c0), .int (StrChars.lo8 (32 : Int32)), .int (StrChars.lo8 (124 : Int32)), .int (StrChars.lo8 (32 : Int32)), .int (StrChars.lo8 c3), .int (StrChars.lo8 c4), .int (0 : Int32), .int (0 : Int32), .int (0 : Int32), .int (0 : Int32), .int (0 : Int32), .int (0 : Int32), .int (0 : Int32), .int (0 : Int32), .int (0 : Int32), .int (0 : Int32)] : List Value) h0 n0 O0 S_CS hG1 S_SF rG3 hr0 hr1 hr2 hr3 hr4 hr5 (Or.inr (Or.inl ⟨rfl, rfl⟩)) (Or.inr (Or.inr (Or.inl ⟨rfl, rfl⟩))) ⟨0, by decide, (show ¬ Int32.ofNat 1 < 0 by decide), by decide, (show (Int32.ofNat 1).toNatClampNeg = 1 by decide), (show 0 + 1 ≤ 16 by decide), rfl, (show 0 + 1 ≤ 16 by decide), rfl⟩ (show ¬ ((0 : Int32) < (((0 : Int32) + (Int32.ofNat 1)) - ((16 : Int32) >>> ((0 : Int32) &&& 31)))) by decide) (show (0 : Int32) + (Int32.ofNat 1) = 1 by decide) ⟨1, by decide, (show ¬ Int32.ofNat 3 < 0 by decide), by decide, (show (Int32.ofNat 3).toNatClampNeg = 3 by decide), (show 1 + 3 ≤ 16 by decide), rfl, (show 1 + 3 ≤ 16 by decide), rfl⟩ (show ¬ ((0 : Int32) < (((1 : Int32) + (Int32.ofNat 3)) - ((16 : Int32) >>> ((0 : Int32) &&& 31)))) by decide) (show (1 : Int32) + (Int32.ofNat 3) = 4 by decide) ⟨4, by decide, (show ¬ Int32.ofNat 2 < 0 by decide), by decide, (show (Int32.ofNat 2).toNatClampNeg = 2 by decide), (show 4 + 2 ≤ 16 by decide), rfl, (show 4 + 2 ≤ 16 by decide), rfl⟩ (show ¬ ((0 : Int32) < (((4 : Int32) + (Int32.ofNat 2)) - ((16 : Int32) >>> ((0 : Int32) &&& 31)))) by decide) (show (4 : Int32) + (Int32.ofNat 2) = 6 by decide) ⟨by decide, by decide, by decide, by decide, by decide, rfl⟩ rfl (own_memS hr0 (own_memS (by decide) (own_memS (by decide) (own_memS (by decide) (own_memS hr3 (own_memS hr4 own_mem0)))))) (show 6 ≤ 4000 by decide) (show Int32.ofNat 6 = _ by decide) (Or.inr (Or.inl ⟨rfl, ⟨Nat.le_of_ble_eq_true rfl, by decide, rfl⟩⟩)) (Or.inr (Or.inr (Or.inl ⟨rfl, ⟨Nat.le_of_ble_eq_true rfl, by decide, rfl⟩, ⟨Nat.le_of_ble_eq_true rfl, by decide, rfl⟩⟩))) (Nat.le_of_ble_eq_true rfl) (Nat.le_of_ble_eq_true rfl) (Nat.le_of_ble_eq_true rfl) (by decide) (by decide) (by decide) rfl rfl rfl ha_ hb_ hd0 hd1 hd2 hd3 hd4 hd5
theorem rm0_13 (l : Launch) (Z : State) (a0 : Array Value) (hw : ∀ d ∈ tables_1, d.before a0 Z = true) (ws : List Jvm.Cond) (p1 p2 p3 c0 c1 c2 c3 c4 c5 G1 : Int32) (G3 : Value) (h0 : Heap) (n0 : Nat) (O0 : Old Z n0 h0) (S_CS : Sta Z Z.heap "java/lang/String" "COMPACT_STRINGS" "Z" (.int G1)) (hG1 : ¬ (G1 = (0 : Int32))) (S_SF : Sta Z Z.heap "jdk/internal/util/Preconditions" "SIOOBE_FORMATTER" "Ljava/util/function/BiFunction;" G3) (rG3 : G3.isRef = true) (hr0 : ¬ c0 < 0 ∧ ¬ (255 : Int32) < c0) (hr1 : ¬ c1 < 0 ∧ ¬ (255 : Int32) < c1) (hr2 : ¬ c2 < 0 ∧ ¬ (255 : Int32) < c2) (hr3 : ¬ c3 < 0 ∧ ¬ (255 : Int32) < c3) (hr4 : ¬ c4 < 0 ∧ ¬ (255 : Int32) < c4) (hr5 : ¬ c5 < 0 ∧ ¬ (255 : Int32) < c5) (ha_ : (p3 &&& (3 : Int32)) = 1) (hb_ : (((p3.toUInt32 >>> ((2 : Int32) &&& 31).toUInt32).toInt32) &&& (3 : Int32)) = 3) (hd0 : ((p1 &&& (255 : Int32)).toUInt32.toUInt16.toUInt32.toInt32) = c0) (hd1 : ((((p1.toUInt32 >>> ((8 : Int32) &&& 31).toUInt32).toInt32) &&& (255 : Int32)).toUInt32.toUInt16.toUInt32.toInt32) = c1) (hd2 : ((((p1.toUInt32 >>> ((16 : Int32) &&& 31).toUInt32).toInt32) &&& (255 : Int32)).toUInt32.toUInt16.toUInt32.toInt32) = c2) (hd3 : ((p2 &&& (255 : Int32)).toUInt32.toUInt16.toUInt32.toInt32) = c3) (hd4 : ((((p2.toUInt32 >>> ((8 : Int32) &&& 31).toUInt32).toInt32) &&& (255 : Int32)).toUInt32.toUInt16.toUInt32.toInt32) = c4) (hd5 : ((((p2.toUInt32 >>> ((16 : Int32) &&& 31).toUInt32).toInt32) &&& (255 : Int32)).toUInt32.toUInt16.toUInt32.toInt32) = c5) :
    MetFree l x (head1 (Jvm.Cond.code x code maxLocals ret :: ws) room_1) (fun a_ U => a_ = #[(.int p1), (.int p2), (.int p3)] ∧ Z.Warmed39 U.vm ∧ U.heap = h0 ∧ CHv Z consts_1 U.vm h0) (fun _ _ _ _ _ => True) (fun _ U o U' => ∃ v L, o = .returned v ∧ Q0 h0 n0 v U'.heap L ∧ CHr Z consts_1 U.vm U.heap U'.vm U'.heap ∧ ReturnedEndW U o U' L room_1.cells room_1.slots) := by
  exact rm0 l Z a0 hw ws p1 p2 p3 1 3 c0 c1 c2 c3 c4 c5 G1 1 4 7 G3 7 4 1 ([c0] : List Int32) ([c3, c4, c5] : List Int32) ([c0, (32 : Int32), (124 : Int32), (32 : Int32), c3, c4, c5] : List Int32) ([.int (StrChars.lo8 c0), .int (0 : Int32), .int (0 : Int32), .int (0 : Int32), .int (0 : Int32), .int (0 : Int32), .int (0 : Int32), .int (0 : Int32), .int (0 : Int32), .int (0 : Int32), .int (0 : Int32), .int (0 : Int32), .int (0 : Int32), .int (0 : Int32), .int (0 : Int32), .int (0 : Int32)] : List Value) ([.int (StrChars.lo8 c0), .int (StrChars.lo8 (32 : Int32)), .int (StrChars.lo8 (124 : Int32)), .int (StrChars.lo8 (32 : Int32)), .int (0 : Int32), .int (0 : Int32), .int (0 : Int32), .int (0 : Int32), .int (0 : Int32), .int (0 : Int32), .int (0 : Int32), .int (0 : Int32), .int (0 : Int32), .int (0 : Int32), .int (0 : Int32), .int (0 : Int32)] : List Value) ([.int (StrChars.lo8 c0), .int (StrChars.lo8 (32 : Int32)), .int (StrChars.lo8 (124 : Int32)), .int (StrChars.lo8 (32 : Int32)), .int (StrChars.lo8 c3), .int (StrChars.lo8 c4), .int (StrChars.lo8 c5), .int (0 : Int32), .int (0 : Int32), .int (0 : Int32), .int (0 : Int32), .int (0 : Int32), .int (0 : Int32), .int (0 : Int32), .int (0 : Int32), .int (0 : Int32)] : List Value) h0 n0 O0 S_CS hG1 S_SF rG3 hr0 hr1 hr2 hr3 hr4 hr5 (Or.inr (Or.inl ⟨rfl, rfl⟩)) (Or.inr (Or.inr (Or.inr ⟨rfl, rfl⟩))) ⟨0, by decide, (show ¬ Int32.ofNat 1 < 0 by decide), by decide, (show (Int32.ofNat 1).toNatClampNeg = 1 by decide), (show 0 + 1 ≤ 16 by decide), rfl, (show 0 + 1 ≤ 16 by decide), rfl⟩ (show ¬ ((0 : Int32) < (((0 : Int32) + (Int32.ofNat 1)) - ((16 : Int32) >>> ((0 : Int32) &&& 31)))) by decide) (show (0 : Int32) + (Int32.ofNat 1) = 1 by decide) ⟨1, by decide, (show ¬ Int32.ofNat 3 < 0 by decide), by decide, (show (Int32.ofNat 3).toNatClampNeg = 3 by decide), (show 1 + 3 ≤ 16 by decide), rfl, (show 1 + 3 ≤ 16 by decide), rfl⟩ (show ¬ ((0 : Int32) < (((1 : Int32) + (Int32.ofNat 3)) - ((16 : Int32) >>> ((0 : Int32) &&& 31)))) by decide) (show (1 : Int32) + (Int32.ofNat 3) = 4 by decide) ⟨4, by decide, (show ¬ Int32.ofNat 3 < 0 by decide), by decide, (show (Int32.ofNat 3).toNatClampNeg = 3 by decide), (show 4 + 3 ≤ 16 by decide), rfl, (show 4 + 3 ≤ 16 by decide), rfl⟩ (show ¬ ((0 : Int32) < (((4 : Int32) + (Int32.ofNat 3)) - ((16 : Int32) >>> ((0 : Int32) &&& 31)))) by decide) (show (4 : Int32) + (Int32.ofNat 3) = 7 by decide) ⟨by decide, by decide, by decide, by decide, by decide, rfl⟩ rfl (own_memS hr0 (own_memS (by decide) (own_memS (by decide) (own_memS (by decide) (own_memS hr3 (own_memS hr4 (own_memS hr5 own_mem0))))))) (show 7 ≤ 4000 by decide) (show Int32.ofNat 7 = _ by decide) (Or.inr (Or.inl ⟨rfl, ⟨Nat.le_of_ble_eq_true rfl, by decide, rfl⟩⟩)) (Or.inr (Or.inr (Or.inr (⟨rfl, ⟨Nat.le_of_ble_eq_true rfl, by decide, rfl⟩, ⟨Nat.le_of_ble_eq_true rfl, by decide, rfl⟩, ⟨Nat.le_of_ble_eq_true rfl, by decide, rfl⟩⟩)))) (Nat.le_of_ble_eq_true rfl) (Nat.le_of_ble_eq_true rfl) (Nat.le_of_ble_eq_true rfl) (by decide) (by decide) (by decide) rfl rfl rfl ha_ hb_ hd0 hd1 hd2 hd3 hd4 hd5
theorem rm0_20 (l : Launch) (Z : State) (a0 : Array Value) (hw : ∀ d ∈ tables_1, d.before a0 Z = true) (ws : List Jvm.Cond) (p1 p2 p3 c0 c1 c2 c3 c4 c5 G1 : Int32) (G3 : Value) (h0 : Heap) (n0 : Nat) (O0 : Old Z n0 h0) (S_CS : Sta Z Z.heap "java/lang/String" "COMPACT_STRINGS" "Z" (.int G1)) (hG1 : ¬ (G1 = (0 : Int32))) (S_SF : Sta Z Z.heap "jdk/internal/util/Preconditions" "SIOOBE_FORMATTER" "Ljava/util/function/BiFunction;" G3) (rG3 : G3.isRef = true) (hr0 : ¬ c0 < 0 ∧ ¬ (255 : Int32) < c0) (hr1 : ¬ c1 < 0 ∧ ¬ (255 : Int32) < c1) (hr2 : ¬ c2 < 0 ∧ ¬ (255 : Int32) < c2) (hr3 : ¬ c3 < 0 ∧ ¬ (255 : Int32) < c3) (hr4 : ¬ c4 < 0 ∧ ¬ (255 : Int32) < c4) (hr5 : ¬ c5 < 0 ∧ ¬ (255 : Int32) < c5) (ha_ : (p3 &&& (3 : Int32)) = 2) (hb_ : (((p3.toUInt32 >>> ((2 : Int32) &&& 31).toUInt32).toInt32) &&& (3 : Int32)) = 0) (hd0 : ((p1 &&& (255 : Int32)).toUInt32.toUInt16.toUInt32.toInt32) = c0) (hd1 : ((((p1.toUInt32 >>> ((8 : Int32) &&& 31).toUInt32).toInt32) &&& (255 : Int32)).toUInt32.toUInt16.toUInt32.toInt32) = c1) (hd2 : ((((p1.toUInt32 >>> ((16 : Int32) &&& 31).toUInt32).toInt32) &&& (255 : Int32)).toUInt32.toUInt16.toUInt32.toInt32) = c2) (hd3 : ((p2 &&& (255 : Int32)).toUInt32.toUInt16.toUInt32.toInt32) = c3) (hd4 : ((((p2.toUInt32 >>> ((8 : Int32) &&& 31).toUInt32).toInt32) &&& (255 : Int32)).toUInt32.toUInt16.toUInt32.toInt32) = c4) (hd5 : ((((p2.toUInt32 >>> ((16 : Int32) &&& 31).toUInt32).toInt32) &&& (255 : Int32)).toUInt32.toUInt16.toUInt32.toInt32) = c5) :
    MetFree l x (head1 (Jvm.Cond.code x code maxLocals ret :: ws) room_1) (fun a_ U => a_ = #[(.int p1), (.int p2), (.int p3)] ∧ Z.Warmed39 U.vm ∧ U.heap = h0 ∧ CHv Z consts_1 U.vm h0) (fun _ _ _ _ _ => True) (fun _ U o U' => ∃ v L, o = .returned v ∧ Q0 h0 n0 v U'.heap L ∧ CHr Z consts_1 U.vm U.heap U'.vm U'.heap ∧ ReturnedEndW U o U' L room_1.cells room_1.slots) := by
  exact rm0 l Z a0 hw ws p1 p2 p3 2 0 c0 c1 c2 c3 c4 c5 G1 2 5 5 G3 5 5 2 ([c0, c1] : List Int32) ([] : List Int32) ([c0, c1, (32 : Int32), (124 : Int32), (32 : Int32)] : List Int32) ([.int (StrChars.lo8 c0), .int (StrChars.lo8 c1), .int (0 : Int32), .int (0 : Int32), .int (0 : Int32), .int (0 : Int32), .int (0 : Int32), .int (0 : Int32), .int (0 : Int32), .int (0 : Int32), .int (0 : Int32), .int (0 : Int32), .int (0 : Int32), .int (0 : Int32), .int (0 : Int32), .int (0 : Int32)] : List Value) ([.int (StrChars.lo8 c0), .int (StrChars.lo8 c1), .int (StrChars.lo8 (32 : Int32)), .int (StrChars.lo8 (124 : Int32)), .int (StrChars.lo8 (32 : Int32)), .int (0 : Int32), .int (0 : Int32), .int (0 : Int32), .int (0 : Int32), .int (0 : Int32), .int (0 : Int32), .int (0 : Int32), .int (0 : Int32), .int (0 : Int32), .int (0 : Int32), .int (0 : Int32)] : List Value) ([.int (StrChars.lo8 c0), .int (StrChars.lo8 c1), .int (StrChars.lo8 (32 : Int32)), .int (StrChars.lo8 (124 : Int32)), .int (StrChars.lo8 (32 : Int32)), .int (0 : Int32), .int (0 : Int32), .int (0 : Int32), .int (0 : Int32), .int (0 : Int32), .int (0 : Int32), .int (0 : Int32), .int (0 : Int32), .int (0 : Int32), .int (0 : Int32), .int (0 : Int32)] : List Value) h0 n0 O0 S_CS hG1 S_SF rG3 hr0 hr1 hr2 hr3 hr4 hr5 (Or.inr (Or.inr (Or.inl ⟨rfl, rfl⟩))) (Or.inl ⟨rfl, rfl⟩) ⟨0, by decide, (show ¬ Int32.ofNat 2 < 0 by decide), by decide, (show (Int32.ofNat 2).toNatClampNeg = 2 by decide), (show 0 + 2 ≤ 16 by decide), rfl, (show 0 + 2 ≤ 16 by decide), rfl⟩ (show ¬ ((0 : Int32) < (((0 : Int32) + (Int32.ofNat 2)) - ((16 : Int32) >>> ((0 : Int32) &&& 31)))) by decide) (show (0 : Int32) + (Int32.ofNat 2) = 2 by decide) ⟨2, by decide, (show ¬ Int32.ofNat 3 < 0 by decide), by decide, (show (Int32.ofNat 3).toNatClampNeg = 3 by decide), (show 2 + 3 ≤ 16 by decide), rfl, (show 2 + 3 ≤ 16 by decide), rfl⟩ (show ¬ ((0 : Int32) < (((2 : Int32) + (Int32.ofNat 3)) - ((16 : Int32) >>> ((0 : Int32) &&& 31)))) by decide) (show (2 : Int32) + (Int32.ofNat 3) = 5 by decide) ⟨5, by decide, (show ¬ Int32.ofNat 0 < 0 by decide), by decide, (show (Int32.ofNat 0).toNatClampNeg = 0 by decide), (show 5 + 0 ≤ 16 by decide), rfl, (show 5 + 0 ≤ 16 by decide), rfl⟩ (show ¬ ((0 : Int32) < (((5 : Int32) + (Int32.ofNat 0)) - ((16 : Int32) >>> ((0 : Int32) &&& 31)))) by decide) (show (5 : Int32) + (Int32.ofNat 0) = 5 by decide) ⟨by decide, by decide, by decide, by decide, by decide, rfl⟩ rfl (own_memS hr0 (own_memS hr1 (own_memS (by decide) (own_memS (by decide) (own_memS (by decide) own_mem0))))) (show 5 ≤ 4000 by decide) (show Int32.ofNat 5 = _ by decide) (Or.inr (Or.inr (Or.inl ⟨rfl, ⟨Nat.le_of_ble_eq_true rfl, by decide, rfl⟩, ⟨Nat.le_of_ble_eq_true rfl, by decide, rfl⟩⟩))) (Or.inl rfl) (Nat.le_of_ble_eq_true rfl) (Nat.le_of_ble_eq_true rfl) (Nat.le_of_ble_eq_true rfl) (by decide) (by decide) (by decide) rfl rfl rfl ha_ hb_ hd0 hd1 hd2 hd3 hd4 hd5
theorem rm0_21 (l : Launch) (Z : State) (a0 : Array Value) (hw : ∀ d ∈ tables_1, d.before a0 Z = true) (ws : List Jvm.Cond) (p1 p2 p3 c0 c1 c2 c3 c4 c5 G1 : Int32) (G3 : Value) (h0 : Heap) (n0 : Nat) (O0 : Old Z n0 h0) (S_CS : Sta Z Z.heap "java/lang/String" "COMPACT_STRINGS" "Z" (.int G1)) (hG1 : ¬ (G1 = (0 : Int32))) (S_SF : Sta Z Z.heap "jdk/internal/util/Preconditions" "SIOOBE_FORMATTER" "Ljava/util/function/BiFunction;" G3) (rG3 : G3.isRef = true) (hr0 : ¬ c0 < 0 ∧ ¬ (255 : Int32) < c0) (hr1 : ¬ c1 < 0 ∧ ¬ (255 : Int32) < c1) (hr2 : ¬ c2 < 0 ∧ ¬ (255 : Int32) < c2) (hr3 : ¬ c3 < 0 ∧ ¬ (255 : Int32) < c3) (hr4 : ¬ c4 < 0 ∧ ¬ (255 : Int32) < c4) (hr5 : ¬ c5 < 0 ∧ ¬ (255 : Int32) < c5) (ha_ : (p3 &&& (3 : Int32)) = 2) (hb_ : (((p3.toUInt32 >>> ((2 : Int32) &&& 31).toUInt32).toInt32) &&& (3 : Int32)) = 1) (hd0 : ((p1 &&& (255 : Int32)).toUInt32.toUInt16.toUInt32.toInt32) = c0) (hd1 : ((((p1.toUInt32 >>> ((8 : Int32) &&& 31).toUInt32).toInt32) &&& (255 : Int32)).toUInt32.toUInt16.toUInt32.toInt32) = c1) (hd2 : ((((p1.toUInt32 >>> ((16 : Int32) &&& 31).toUInt32).toInt32) &&& (255 : Int32)).toUInt32.toUInt16.toUInt32.toInt32) = c2) (hd3 : ((p2 &&& (255 : Int32)).toUInt32.toUInt16.toUInt32.toInt32) = c3) (hd4 : ((((p2.toUInt32 >>> ((8 : Int32) &&& 31).toUInt32).toInt32) &&& (255 : Int32)).toUInt32.toUInt16.toUInt32.toInt32) = c4) (hd5 : ((((p2.toUInt32 >>> ((16 : Int32) &&& 31).toUInt32).toInt32) &&& (255 : Int32)).toUInt32.toUInt16.toUInt32.toInt32) = c5) :
    MetFree l x (head1 (Jvm.Cond.code x code maxLocals ret :: ws) room_1) (fun a_ U => a_ = #[(.int p1), (.int p2), (.int p3)] ∧ Z.Warmed39 U.vm ∧ U.heap = h0 ∧ CHv Z consts_1 U.vm h0) (fun _ _ _ _ _ => True) (fun _ U o U' => ∃ v L, o = .returned v ∧ Q0 h0 n0 v U'.heap L ∧ CHr Z consts_1 U.vm U.heap U'.vm U'.heap ∧ ReturnedEndW U o U' L room_1.cells room_1.slots) := by
  exact rm0 l Z a0 hw ws p1 p2 p3 2 1 c0 c1 c2 c3 c4 c5 G1 2 5 6 G3 6 5 2 ([c0, c1] : List Int32) ([c3] : List Int32) ([c0, c1, (32 : Int32), (124 : Int32), (32 : Int32), c3] : List Int32) ([.int (StrChars.lo8 c0), .int (StrChars.lo8 c1), .int (0 : Int32), .int (0 : Int32), .int (0 : Int32), .int (0 : Int32), .int (0 : Int32), .int (0 : Int32), .int (0 : Int32), .int (0 : Int32), .int (0 : Int32), .int (0 : Int32), .int (0 : Int32), .int (0 : Int32), .int (0 : Int32), .int (0 : Int32)] : List Value) ([.int (StrChars.lo8 c0), .int (StrChars.lo8 c1), .int (StrChars.lo8 (32 : Int32)), .int (StrChars.lo8 (124 : Int32)), .int (StrChars.lo8 (32 : Int32)), .int (0 : Int32), .int (0 : Int32), .int (0 : Int32), .int (0 : Int32), .int (0 : Int32), .int (0 : Int32), .int (0 : Int32), .int (0 : Int32), .int (0 : Int32), .int (0 : Int32), .int (0 : Int32)] : List Value) ([.int (StrChars.lo8 c0), .int (StrChars.lo8 c1), .int (StrChars.lo8 (32 : Int32)), .int (StrChars.lo8 (124 : Int32)), .int (StrChars.lo8 (32 : Int32)), .int (StrChars.lo8 c3), .int (0 : Int32), .int (0 : Int32), .int (0 : Int32), .int (0 : Int32), .int (0 : Int32), .int (0 : Int32), .int (0 : Int32), .int (0 : Int32), .int (0 : Int32), .int (0 : Int32)] : List Value) h0 n0 O0 S_CS hG1 S_SF rG3 hr0 hr1 hr2 hr3 hr4 hr5 (Or.inr (Or.inr (Or.inl ⟨rfl, rfl⟩))) (Or.inr (Or.inl ⟨rfl, rfl⟩)) ⟨0, by decide, (show ¬ Int32.ofNat 2 < 0 by decide), by decide, (show (Int32.ofNat 2).toNatClampNeg = 2 by decide), (show 0 + 2 ≤ 16 by decide), rfl, (show 0 + 2 ≤ 16 by decide), rfl⟩ (show ¬ ((0 : Int32) < (((0 : Int32) + (Int32.ofNat 2)) - ((16 : Int32) >>> ((0 : Int32) &&& 31)))) by decide) (show (0 : Int32) + (Int32.ofNat 2) = 2 by decide) ⟨2, by decide, (show ¬ Int32.ofNat 3 < 0 by decide), by decide, (show (Int32.ofNat 3).toNatClampNeg = 3 by decide), (show 2 + 3 ≤ 16 by decide), rfl, (show 2 + 3 ≤ 16 by decide), rfl⟩ (show ¬ ((0 : Int32) < (((2 : Int32) + (Int32.ofNat 3)) - ((16 : Int32) >>> ((0 : Int32) &&& 31)))) by decide) (show (2 : Int32) + (Int32.ofNat 3) = 5 by decide) ⟨5, by decide, (show ¬ Int32.ofNat 1 < 0 by decide), by decide, (show (Int32.ofNat 1).toNatClampNeg = 1 by decide), (show 5 + 1 ≤ 16 by decide), rfl, (show 5 + 1 ≤ 16 by decide), rfl⟩ (show ¬ ((0 : Int32) < (((5 : Int32) + (Int32.ofNat 1)) - ((16 : Int32) >>> ((0 : Int32) &&& 31)))) by decide) (show (5 : Int32) + (Int32.ofNat 1) = 6 by decide) ⟨by decide, by decide, by decide, by decide, by decide, rfl⟩ rfl (own_memS hr0 (own_memS hr1 (own_memS (by decide) (own_memS (by decide) (own_memS (by decide) (own_memS hr3 own_mem0)))))) (show 6 ≤ 4000 by decide) (show Int32.ofNat 6 = _ by decide) (Or.inr (Or.inr (Or.inl ⟨rfl, ⟨Nat.le_of_ble_eq_true rfl, by decide, rfl⟩, ⟨Nat.le_of_ble_eq_true rfl, by decide, rfl⟩⟩))) (Or.inr (Or.inl ⟨rfl, ⟨Nat.le_of_ble_eq_true rfl, by decide, rfl⟩⟩)) (Nat.le_of_ble_eq_true rfl) (Nat.le_of_ble_eq_true rfl) (Nat.le_of_ble_eq_true rfl) (by decide) (by decide) (by decide) rfl rfl rfl ha_ hb_ hd0 hd1 hd2 hd3 hd4 hd5
theorem rm0_22 (l : Launch) (Z : State) (a0 : Array Value) (hw : ∀ d ∈ tables_1, d.before a0 Z = true) (ws : List Jvm.Cond) (p1 p2 p3 c0 c1 c2 c3 c4 c5 G1 : Int32) (G3 : Value) (h0 : Heap) (n0 : Nat) (O0 : Old Z n0 h0) (S_CS : Sta Z Z.heap "java/lang/String" "COMPACT_STRINGS" "Z" (.int G1)) (hG1 : ¬ (G1 = (0 : Int32))) (S_SF : Sta Z Z.heap "jdk/internal/util/Preconditions" "SIOOBE_FORMATTER" "Ljava/util/function/BiFunction;" G3) (rG3 : G3.isRef = true) (hr0 : ¬ c0 < 0 ∧ ¬ (255 : Int32) < c0) (hr1 : ¬ c1 < 0 ∧ ¬ (255 : Int32) < c1) (hr2 : ¬ c2 < 0 ∧ ¬ (255 : Int32) < c2) (hr3 : ¬ c3 < 0 ∧ ¬ (255 : Int32) < c3) (hr4 : ¬ c4 < 0 ∧ ¬ (255 : Int32) < c4) (hr5 : ¬ c5 < 0 ∧ ¬ (255 : Int32) < c5) (ha_ : (p3 &&& (3 : Int32)) = 2) (hb_ : (((p3.toUInt32 >>> ((2 : Int32) &&& 31).toUInt32).toInt32) &&& (3 : Int32)) = 2) (hd0 : ((p1 &&& (255 : Int32)).toUInt32.toUInt16.toUInt32.toInt32) = c0) (hd1 : ((((p1.toUInt32 >>> ((8 : Int32) &&& 31).toUInt32).toInt32) &&& (255 : Int32)).toUInt32.toUInt16.toUInt32.toInt32) = c1) (hd2 : ((((p1.toUInt32 >>> ((16 : Int32) &&& 31).toUInt32).toInt32) &&& (255 : Int32)).toUInt32.toUInt16.toUInt32.toInt32) = c2) (hd3 : ((p2 &&& (255 : Int32)).toUInt32.toUInt16.toUInt32.toInt32) = c3) (hd4 : ((((p2.toUInt32 >>> ((8 : Int32) &&& 31).toUInt32).toInt32) &&& (255 : Int32)).toUInt32.toUInt16.toUInt32.toInt32) = c4) (hd5 : ((((p2.toUInt32 >>> ((16 : Int32) &&& 31).toUInt32).toInt32) &&& (255 : Int32)).toUInt32.toUInt16.toUInt32.toInt32) = c5) :
    MetFree l x (head1 (Jvm.Cond.code x code maxLocals ret :: ws) room_1) (fun a_ U => a_ = #[(.int p1), (.int p2), (.int p3)] ∧ Z.Warmed39 U.vm ∧ U.heap = h0 ∧ CHv Z consts_1 U.vm h0) (fun _ _ _ _ _ => True) (fun _ U o U' => ∃ v L, o = .returned v ∧ Q0 h0 n0 v U'.heap L ∧ CHr Z consts_1 U.vm U.heap U'.vm U'.heap ∧ ReturnedEndW U o U' L room_1.cells room_1.slots) := by
  exact rm0 l Z a0 hw ws p1 p2 p3 2 2 c0 c1 c2 c3 c4 c5 G1 2 5 7 G3 7 5 2 ([c0, c1] : List Int32) ([c3, c4] : List Int32) ([c0, c1, (32 : Int32), (124 : Int32), (32 : Int32), c3, c4] : List Int32) ([.int (StrChars.lo8 c0), .int (StrChars.lo8 c1), .int (0 : Int32), .int (0 : Int32), .int (0 : Int32), .int (0 : Int32), .int (0 : Int32), .int (0 : Int32), .int (0 : Int32), .int (0 : Int32), .int (0 : Int32), .int (0 : Int32), .int (0 : Int32), .int (0 : Int32), .int (0 : Int32), .int (0 : Int32)] : List Value) ([.int (StrChars.lo8 c0), .int (StrChars.lo8 c1), .int (StrChars.lo8 (32 : Int32)), .int (StrChars.lo8 (124 : Int32)), .int (StrChars.lo8 (32 : Int32)), .int (0 : Int32), .int (0 : Int32), .int (0 : Int32), .int (0 : Int32), .int (0 : Int32), .int (0 : Int32), .int (0 : Int32), .int (0 : Int32), .int (0 : Int32), .int (0 : Int32), .int (0 : Int32)] : List Value) ([.int (StrChars.lo8 c0), .int (StrChars.lo8 c1), .int (StrChars.lo8 (32 : Int32)), .int (StrChars.lo8 (124 : Int32)), .int (StrChars.lo8 (32 : Int32)), .int (StrChars.lo8 c3), .int (StrChars.lo8 c4), .int (0 : Int32), .int (0 : Int32), .int (0 : Int32), .int (0 : Int32), .int (0 : Int32), .int (0 : Int32), .int (0 : Int32), .int (0 : Int32), .int (0 : Int32)] : List Value) h0 n0 O0 S_CS hG1 S_SF rG3 hr0 hr1 hr2 hr3 hr4 hr5 (Or.inr (Or.inr (Or.inl ⟨rfl, rfl⟩))) (Or.inr (Or.inr (Or.inl ⟨rfl, rfl⟩))) ⟨0, by decide, (show ¬ Int32.ofNat 2 < 0 by decide), by decide, (show (Int32.ofNat 2).toNatClampNeg = 2 by decide), (show 0 + 2 ≤ 16 by decide), rfl, (show 0 + 2 ≤ 16 by decide), rfl⟩ (show ¬ ((0 : Int32) < (((0 : Int32) + (Int32.ofNat 2)) - ((16 : Int32) >>> ((0 : Int32) &&& 31)))) by decide) (show (0 : Int32) + (Int32.ofNat 2) = 2 by decide) ⟨2, by decide, (show ¬ Int32.ofNat 3 < 0 by decide), by decide, (show (Int32.ofNat 3).toNatClampNeg = 3 by decide), (show 2 + 3 ≤ 16 by decide), rfl, (show 2 + 3 ≤ 16 by decide), rfl⟩ (show ¬ ((0 : Int32) < (((2 : Int32) + (Int32.ofNat 3)) - ((16 : Int32) >>> ((0 : Int32) &&& 31)))) by decide) (show (2 : Int32) + (Int32.ofNat 3) = 5 by decide) ⟨5, by decide, (show ¬ Int32.ofNat 2 < 0 by decide), by decide, (show (Int32.ofNat 2).toNatClampNeg = 2 by decide), (show 5 + 2 ≤ 16 by decide), rfl, (show 5 + 2 ≤ 16 by decide), rfl⟩ (show ¬ ((0 : Int32) < (((5 : Int32) + (Int32.ofNat 2)) - ((16 : Int32) >>> ((0 : Int32) &&& 31)))) by decide) (show (5 : Int32) + (Int32.ofNat 2) = 7 by decide) ⟨by decide, by decide, by decide, by decide, by decide, rfl⟩ rfl (own_memS hr0 (own_memS hr1 (own_memS (by decide) (own_memS (by decide) (own_memS (by decide) (own_memS hr3 (own_memS hr4 own_mem0))))))) (show 7 ≤ 4000 by decide) (show Int32.ofNat 7 = _ by decide) (Or.inr (Or.inr (Or.inl ⟨rfl, ⟨Nat.le_of_ble_eq_true rfl, by decide, rfl⟩, ⟨Nat.le_of_ble_eq_true rfl, by decide, rfl⟩⟩))) (Or.inr (Or.inr (Or.inl ⟨rfl, ⟨Nat.le_of_ble_eq_true rfl, by decide, rfl⟩, ⟨Nat.le_of_ble_eq_true rfl, by decide, rfl⟩⟩))) (Nat.le_of_ble_eq_true rfl) (Nat.le_of_ble_eq_true rfl) (Nat.le_of_ble_eq_true rfl) (by decide) (by decide) (by decide) rfl rfl rfl ha_ hb_ hd0 hd1 hd2 hd3 hd4 hd5
theorem rm0_23 (l : Launch) (Z : State) (a0 : Array Value) (hw : ∀ d ∈ tables_1, d.before a0 Z = true) (ws : List Jvm.Cond) (p1 p2 p3 c0 c1 c2 c3 c4 c5 G1 : Int32) (G3 : Value) (h0 : Heap) (n0 : Nat) (O0 : Old Z n0 h0) (S_CS : Sta Z Z.heap "java/lang/String" "COMPACT_STRINGS" "Z" (.int G1)) (hG1 : ¬ (G1 = (0 : Int32))) (S_SF : Sta Z Z.heap "jdk/internal/util/Preconditions" "SIOOBE_FORMATTER" "Ljava/util/function/BiFunction;" G3) (rG3 : G3.isRef = true) (hr0 : ¬ c0 < 0 ∧ ¬ (255 : Int32) < c0) (hr1 : ¬ c1 < 0 ∧ ¬ (255 : Int32) < c1) (hr2 : ¬ c2 < 0 ∧ ¬ (255 : Int32) < c2) (hr3 : ¬ c3 < 0 ∧ ¬ (255 : Int32) < c3) (hr4 : ¬ c4 < 0 ∧ ¬ (255 : Int32) < c4) (hr5 : ¬ c5 < 0 ∧ ¬ (255 : Int32) < c5) (ha_ : (p3 &&& (3 : Int32)) = 2) (hb_ : (((p3.toUInt32 >>> ((2 : Int32) &&& 31).toUInt32).toInt32) &&& (3 : Int32)) = 3) (hd0 : ((p1 &&& (255 : Int32)).toUInt32.toUInt16.toUInt32.toInt32) = c0) (hd1 : ((((p1.toUInt32 >>> ((8 : Int32) &&& 31).toUInt32).toInt32) &&& (255 : Int32)).toUInt32.toUInt16.toUInt32.toInt32) = c1) (hd2 : ((((p1.toUInt32 >>> ((16 : Int32) &&& 31).toUInt32).toInt32) &&& (255 : Int32)).toUInt32.toUInt16.toUInt32.toInt32) = c2) (hd3 : ((p2 &&& (255 : Int32)).toUInt32.toUInt16.toUInt32.toInt32) = c3) (hd4 : ((((p2.toUInt32 >>> ((8 : Int32) &&& 31).toUInt32).toInt32) &&& (255 : Int32)).toUInt32.toUInt16.toUInt32.toInt32) = c4) (hd5 : ((((p2.toUInt32 >>> ((16 : Int32) &&& 31).toUInt32).toInt32) &&& (255 : Int32)).toUInt32.toUInt16.toUInt32.toInt32) = c5) :
    MetFree l x (head1 (Jvm.Cond.code x code maxLocals ret :: ws) room_1) (fun a_ U => a_ = #[(.int p1), (.int p2), (.int p3)] ∧ Z.Warmed39 U.vm ∧ U.heap = h0 ∧ CHv Z consts_1 U.vm h0) (fun _ _ _ _ _ => True) (fun _ U o U' => ∃ v L, o = .returned v ∧ Q0 h0 n0 v U'.heap L ∧ CHr Z consts_1 U.vm U.heap U'.vm U'.heap ∧ ReturnedEndW U o U' L room_1.cells room_1.slots) := by
  exact rm0 l Z a0 hw ws p1 p2 p3 2 3 c0 c1 c2 c3 c4 c5 G1 2 5 8 G3 8 5 2 ([c0, c1] : List Int32) ([c3, c4, c5] : List Int32) ([c0, c1, (32 : Int32), (124 : Int32), (32 : Int32), c3, c4, c5] : List Int32) ([.int (StrChars.lo8 c0), .int (StrChars.lo8 c1), .int (0 : Int32), .int (0 : Int32), .int (0 : Int32), .int (0 : Int32), .int (0 : Int32), .int (0 : Int32), .int (0 : Int32), .int (0 : Int32), .int (0 : Int32), .int (0 : Int32), .int (0 : Int32), .int (0 : Int32), .int (0 : Int32), .int (0 : Int32)] : List Value) ([.int (StrChars.lo8 c0), .int (StrChars.lo8 c1), .int (StrChars.lo8 (32 : Int32)), .int (StrChars.lo8 (124 : Int32)), .int (StrChars.lo8 (32 : Int32)), .int (0 : Int32), .int (0 : Int32), .int (0 : Int32), .int (0 : Int32), .int (0 : Int32), .int (0 : Int32), .int (0 : Int32), .int (0 : Int32), .int (0 : Int32), .int (0 : Int32), .int (0 : Int32)] : List Value) ([.int (StrChars.lo8 c0), .int (StrChars.lo8 c1), .int (StrChars.lo8 (32 : Int32)), .int (StrChars.lo8 (124 : Int32)), .int (StrChars.lo8 (32 : Int32)), .int (StrChars.lo8 c3), .int (StrChars.lo8 c4), .int (StrChars.lo8 c5), .int (0 : Int32), .int (0 : Int32), .int (0 : Int32), .int (0 : Int32), .int (0 : Int32), .int (0 : Int32), .int (0 : Int32), .int (0 : Int32)] : List Value) h0 n0 O0 S_CS hG1 S_SF rG3 hr0 hr1 hr2 hr3 hr4 hr5 (Or.inr (Or.inr (Or.inl ⟨rfl, rfl⟩))) (Or.inr (Or.inr (Or.inr ⟨rfl, rfl⟩))) ⟨0, by decide, (show ¬ Int32.ofNat 2 < 0 by decide), by decide, (show (Int32.ofNat 2).toNatClampNeg = 2 by decide), (show 0 + 2 ≤ 16 by decide), rfl, (show 0 + 2 ≤ 16 by decide), rfl⟩ (show ¬ ((0 : Int32) < (((0 : Int32) + (Int32.ofNat 2)) - ((16 : Int32) >>> ((0 : Int32) &&& 31)))) by decide) (show (0 : Int32) + (Int32.ofNat 2) = 2 by decide) ⟨2, by decide, (show ¬ Int32.ofNat 3 < 0 by decide), by decide, (show (Int32.ofNat 3).toNatClampNeg = 3 by decide), (show 2 + 3 ≤ 16 by decide), rfl, (show 2 + 3 ≤ 16 by decide), rfl⟩ (show ¬ ((0 : Int32) < (((2 : Int32) + (Int32.ofNat 3)) - ((16 : Int32) >>> ((0 : Int32) &&& 31)))) by decide) (show (2 : Int32) + (Int32.ofNat 3) = 5 by decide) ⟨5, by decide, (show ¬ Int32.ofNat 3 < 0 by decide), by decide, (show (Int32.ofNat 3).toNatClampNeg = 3 by decide), (show 5 + 3 ≤ 16 by decide), rfl, (show 5 + 3 ≤ 16 by decide), rfl⟩ (show ¬ ((0 : Int32) < (((5 : Int32) + (Int32.ofNat 3)) - ((16 : Int32) >>> ((0 : Int32) &&& 31)))) by decide) (show (5 : Int32) + (Int32.ofNat 3) = 8 by decide) ⟨by decide, by decide, by decide, by decide, by decide, rfl⟩ rfl (own_memS hr0 (own_memS hr1 (own_memS (by decide) (own_memS (by decide) (own_memS (by decide) (own_memS hr3 (own_memS hr4 (own_memS hr5 own_mem0)))))))) (show 8 ≤ 4000 by decide) (show Int32.ofNat 8 = _ by decide) (Or.inr (Or.inr (Or.inl ⟨rfl, ⟨Nat.le_of_ble_eq_true rfl, by decide, rfl⟩, ⟨Nat.le_of_ble_eq_true rfl, by decide, rfl⟩⟩))) (Or.inr (Or.inr (Or.inr (⟨rfl, ⟨Nat.le_of_ble_eq_true rfl, by decide, rfl⟩, ⟨Nat.le_of_ble_eq_true rfl, by decide, rfl⟩, ⟨Nat.le_of_ble_eq_true rfl, by decide, rfl⟩⟩)))) (Nat.le_of_ble_eq_true rfl) (Nat.le_of_ble_eq_true rfl) (Nat.le_of_ble_eq_true rfl) (by decide) (by decide) (by decide) rfl rfl rfl ha_ hb_ hd0 hd1 hd2 hd3 hd4 hd5
theorem rm0_30 (l : Launch) (Z : State) (a0 : Array Value) (hw : ∀ d ∈ tables_1, d.before a0 Z = true) (ws : List Jvm.Cond) (p1 p2 p3 c0 c1 c2 c3 c4 c5 G1 : Int32) (G3 : Value) (h0 : Heap) (n0 : Nat) (O0 : Old Z n0 h0) (S_CS : Sta Z Z.heap "java/lang/String" "COMPACT_STRINGS" "Z" (.int G1)) (hG1 : ¬ (G1 = (0 : Int32))) (S_SF : Sta Z Z.heap "jdk/internal/util/Preconditions" "SIOOBE_FORMATTER" "Ljava/util/function/BiFunction;" G3) (rG3 : G3.isRef = true) (hr0 : ¬ c0 < 0 ∧ ¬ (255 : Int32) < c0) (hr1 : ¬ c1 < 0 ∧ ¬ (255 : Int32) < c1) (hr2 : ¬ c2 < 0 ∧ ¬ (255 : Int32) < c2) (hr3 : ¬ c3 < 0 ∧ ¬ (255 : Int32) < c3) (hr4 : ¬ c4 < 0 ∧ ¬ (255 : Int32) < c4) (hr5 : ¬ c5 < 0 ∧ ¬ (255 : Int32) < c5) (ha_ : (p3 &&& (3 : Int32)) = 3) (hb_ : (((p3.toUInt32 >>> ((2 : Int32) &&& 31).toUInt32).toInt32) &&& (3 : Int32)) = 0) (hd0 : ((p1 &&& (255 : Int32)).toUInt32.toUInt16.toUInt32.toInt32) = c0) (hd1 : ((((p1.toUInt32 >>> ((8 : Int32) &&& 31).toUInt32).toInt32) &&& (255 : Int32)).toUInt32.toUInt16.toUInt32.toInt32) = c1) (hd2 : ((((p1.toUInt32 >>> ((16 : Int32) &&& 31).toUInt32).toInt32) &&& (255 : Int32)).toUInt32.toUInt16.toUInt32.toInt32) = c2) (hd3 : ((p2 &&& (255 : Int32)).toUInt32.toUInt16.toUInt32.toInt32) = c3) (hd4 : ((((p2.toUInt32 >>> ((8 : Int32) &&& 31).toUInt32).toInt32) &&& (255 : Int32)).toUInt32.toUInt16.toUInt32.toInt32) = c4) (hd5 : ((((p2.toUInt32 >>> ((16 : Int32) &&& 31).toUInt32).toInt32) &&& (255 : Int32)).toUInt32.toUInt16.toUInt32.toInt32) = c5) :
    MetFree l x (head1 (Jvm.Cond.code x code maxLocals ret :: ws) room_1) (fun a_ U => a_ = #[(.int p1), (.int p2), (.int p3)] ∧ Z.Warmed39 U.vm ∧ U.heap = h0 ∧ CHv Z consts_1 U.vm h0) (fun _ _ _ _ _ => True) (fun _ U o U' => ∃ v L, o = .returned v ∧ Q0 h0 n0 v U'.heap L ∧ CHr Z consts_1 U.vm U.heap U'.vm U'.heap ∧ ReturnedEndW U o U' L room_1.cells room_1.slots) := by
  exact rm0 l Z a0 hw ws p1 p2 p3 3 0 c0 c1 c2 c3 c4 c5 G1 3 6 6 G3 6 6 3 ([c0, c1, c2] : List Int32) ([] : List Int32) ([c0, c1, c2, (32 : Int32), (124 : Int32), (32 : Int32)] : List Int32) ([.int (StrChars.lo8 c0), .int (StrChars.lo8 c1), .int (StrChars.lo8 c2), .int (0 : Int32), .int (0 : Int32), .int (0 : Int32), .int (0 : Int32), .int (0 : Int32), .int (0 : Int32), .int (0 : Int32), .int (0 : Int32), .int (0 : Int32), .int (0 : Int32), .int (0 : Int32), .int (0 : Int32), .int (0 : Int32)] : List Value) ([.int (StrChars.lo8 c0), .int (StrChars.lo8 c1), .int (StrChars.lo8 c2), .int (StrChars.lo8 (32 : Int32)), .int (StrChars.lo8 (124 : Int32)), .int (StrChars.lo8 (32 : Int32)), .int (0 : Int32), .int (0 : Int32), .int (0 : Int32), .int (0 : Int32), .int (0 : Int32), .int (0 : Int32), .int (0 : Int32), .int (0 : Int32), .int (0 : Int32), .int (0 : Int32)] : List Value) ([.int (StrChars.lo8 c0), .int (StrChars.lo8 c1), .int (StrChars.lo8 c2), .int (StrChars.lo8 (32 : Int32)), .int (StrChars.lo8 (124 : Int32)), .int (StrChars.lo8 (32 : Int32)), .int (0 : Int32), .int (0 : Int32), .int (0 : Int32), .int (0 : Int32), .int (0 : Int32), .int (0 : Int32), .int (0 : Int32), .int (0 : Int32), .int (0 : Int32), .int (0 : Int32)] : List Value) h0 n0 O0 S_CS hG1 S_SF rG3 hr0 hr1 hr2 hr3 hr4 hr5 (Or.inr (Or.inr (Or.inr ⟨rfl, rfl⟩))) (Or.inl ⟨rfl, rfl⟩) ⟨0, by decide, (show ¬ Int32.ofNat 3 < 0 by decide), by decide, (show (Int32.ofNat 3).toNatClampNeg = 3 by decide), (show 0 + 3 ≤ 16 by decide), rfl, (show 0 + 3 ≤ 16 by decide), rfl⟩ (show ¬ ((0 : Int32) < (((0 : Int32) + (Int32.ofNat 3)) - ((16 : Int32) >>> ((0 : Int32) &&& 31)))) by decide) (show (0 : Int32) + (Int32.ofNat 3) = 3 by decide) ⟨3, by decide, (show ¬ Int32.ofNat 3 < 0 by decide), by decide, (show (Int32.ofNat 3).toNatClampNeg = 3 by decide), (show 3 + 3 ≤ 16 by decide), rfl, (show 3 + 3 ≤ 16 by decide), rfl⟩ (show ¬ ((0 : Int32) < (((3 : Int32) + (Int32.ofNat 3)) - ((16 : Int32) >>> ((0 : Int32) &&& 31)))) by decide) (show (3 : Int32) + (Int32.ofNat 3) = 6 by decide) ⟨6, by decide, (show ¬ Int32.ofNat 0 < 0 by decide), by decide, (show (Int32.ofNat 0).toNatClampNeg = 0 by decide), (show 6 + 0 ≤ 16 by decide), rfl, (show 6 + 0 ≤ 16 by decide), rfl⟩ (show ¬ ((0 : Int32) < (((6 : Int32) + (Int32.ofNat 0)) - ((16 : Int32) >>> ((0 : Int32) &&& 31)))) by decide) (show (6 : Int32) + (Int32.ofNat 0) = 6 by decide) ⟨by decide, by decide, by decide, by decide, by decide, rfl⟩ rfl (own_memS hr0 (own_memS hr1 (own_memS hr2 (own_memS (by decide) (own_memS (by decide) (own_memS (by decide) own_mem0)))))) (show 6 ≤ 4000 by decide) (show Int32.ofNat 6 = _ by decide) (Or.inr (Or.inr (Or.inr (⟨rfl, ⟨Nat.le_of_ble_eq_true rfl, by decide, rfl⟩, ⟨Nat.le_of_ble_eq_true rfl, by decide, rfl⟩, ⟨Nat.le_of_ble_eq_true rfl, by decide, rfl⟩⟩)))) (Or.inl rfl) (Nat.le_of_ble_eq_true rfl) (Nat.le_of_ble_eq_true rfl) (Nat.le_of_ble_eq_true rfl) (by decide) (by decide) (by decide) rfl rfl rfl ha_ hb_ hd0 hd1 hd2 hd3 hd4 hd5
theorem rm0_31 (l : Launch) (Z : State) (a0 : Array Value) (hw : ∀ d ∈ tables_1, d.before a0 Z = true) (ws : List Jvm.Cond) (p1 p2 p3 c0 c1 c2 c3 c4 c5 G1 : Int32) (G3 : Value) (h0 : Heap) (n0 : Nat) (O0 : Old Z n0 h0) (S_CS : Sta Z Z.heap "java/lang/String" "COMPACT_STRINGS" "Z" (.int G1)) (hG1 : ¬ (G1 = (0 : Int32))) (S_SF : Sta Z Z.heap "jdk/internal/util/Preconditions" "SIOOBE_FORMATTER" "Ljava/util/function/BiFunction;" G3) (rG3 : G3.isRef = true) (hr0 : ¬ c0 < 0 ∧ ¬ (255 : Int32) < c0) (hr1 : ¬ c1 < 0 ∧ ¬ (255 : Int32) < c1) (hr2 : ¬ c2 < 0 ∧ ¬ (255 : Int32) < c2) (hr3 : ¬ c3 < 0 ∧ ¬ (255 : Int32) < c3) (hr4 : ¬ c4 < 0 ∧ ¬ (255 : Int32) < c4) (hr5 : ¬ c5 < 0 ∧ ¬ (255 : Int32) < c5) (ha_ : (p3 &&& (3 : Int32)) = 3) (hb_ : (((p3.toUInt32 >>> ((2 : Int32) &&& 31).toUInt32).toInt32) &&& (3 : Int32)) = 1) (hd0 : ((p1 &&& (255 : Int32)).toUInt32.toUInt16.toUInt32.toInt32) = c0) (hd1 : ((((p1.toUInt32 >>> ((8 : Int32) &&& 31).toUInt32).toInt32) &&& (255 : Int32)).toUInt32.toUInt16.toUInt32.toInt32) = c1) (hd2 : ((((p1.toUInt32 >>> ((16 : Int32) &&& 31).toUInt32).toInt32) &&& (255 : Int32)).toUInt32.toUInt16.toUInt32.toInt32) = c2) (hd3 : ((p2 &&& (255 : Int32)).toUInt32.toUInt16.toUInt32.toInt32) = c3) (hd4 : ((((p2.toUInt32 >>> ((8 : Int32) &&& 31).toUInt32).toInt32) &&& (255 : Int32)).toUInt32.toUInt16.toUInt32.toInt32) = c4) (hd5 : ((((p2.toUInt32 >>> ((16 : Int32) &&& 31).toUInt32).toInt32) &&& (255 : Int32)).toUInt32.toUInt16.toUInt32.toInt32) = c5) :
    MetFree l x (head1 (Jvm.Cond.code x code maxLocals ret :: ws) room_1) (fun a_ U => a_ = #[(.int p1), (.int p2), (.int p3)] ∧ Z.Warmed39 U.vm ∧ U.heap = h0 ∧ CHv Z consts_1 U.vm h0) (fun _ _ _ _ _ => True) (fun _ U o U' => ∃ v L, o = .returned v ∧ Q0 h0 n0 v U'.heap L ∧ CHr Z consts_1 U.vm U.heap U'.vm U'.heap ∧ ReturnedEndW U o U' L room_1.cells room_1.slots) := by
  exact rm0 l Z a0 hw ws p1 p2 p3 3 1 c0 c1 c2 c3 c4 c5 G1 3 6 7 G3 7 6 3 ([c0, c1, c2] : List Int32) ([c3] : List Int32) ([c0, c1, c2, (32 : Int32), (124 : Int32), (32 : Int32), c3] : List Int32) ([.int (StrChars.lo8 c0), .int (StrChars.lo8 c1), .int (StrChars.lo8 c2), .int (0 : Int32), .int (0 : Int32), .int (0 : Int32), .int (0 : Int32), .int (0 : Int32), .int (0 : Int32), .int (0 : Int32), .int (0 : Int32), .int (0 : Int32), .int (0 : Int32), .int (0 : Int32), .int (0 : Int32), .int (0 : Int32)] : List Value) ([.int (StrChars.lo8 c0), .int (StrChars.lo8 c1), .int (StrChars.lo8 c2), .int (StrChars.lo8 (32 : Int32)), .int (StrChars.lo8 (124 : Int32)), .int (StrChars.lo8 (32 : Int32)), .int (0 : Int32), .int (0 : Int32), .int (0 : Int32), .int (0 : Int32), .int (0 : Int32), .int (0 : Int32), .int (0 : Int32), .int (0 : Int32), .int (0 : Int32), .int (0 : Int32)] : List Value) ([.int (StrChars.lo8 c0), .int (StrChars.lo8 c1), .int (StrChars.lo8 c2), .int (StrChars.lo8 (32 : Int32)), .int (StrChars.lo8 (124 : Int32)), .int (StrChars.lo8 (32 : Int32)), .int (StrChars.lo8 c3), .int (0 : Int32), .int (0 : Int32), .int (0 : Int32), .int (0 : Int32), .int (0 : Int32), .int (0 : Int32), .int (0 : Int32), .int (0 : Int32), .int (0 : Int32)] : List Value) h0 n0 O0 S_CS hG1 S_SF rG3 hr0 hr1 hr2 hr3 hr4 hr5 (Or.inr (Or.inr (Or.inr ⟨rfl, rfl⟩))) (Or.inr (Or.inl ⟨rfl, rfl⟩)) ⟨0, by decide, (show ¬ Int32.ofNat 3 < 0 by decide), by decide, (show (Int32.ofNat 3).toNatClampNeg = 3 by decide), (show 0 + 3 ≤ 16 by decide), rfl, (show 0 + 3 ≤ 16 by decide), rfl⟩ (show ¬ ((0 : Int32) < (((0 : Int32) + (Int32.ofNat 3)) - ((16 : Int32) >>> ((0 : Int32) &&& 31)))) by decide) (show (0 : Int32) + (Int32.ofNat 3) = 3 by decide) ⟨3, by decide, (show ¬ Int32.ofNat 3 < 0 by decide), by decide, (show (Int32.ofNat 3).toNatClampNeg = 3 by decide), (show 3 + 3 ≤ 16 by decide), rfl, (show 3 + 3 ≤ 16 by decide), rfl⟩ (show ¬ ((0 : Int32) < (((3 : Int32) + (Int32.ofNat 3)) - ((16 : Int32) >>> ((0 : Int32) &&& 31)))) by decide) (show (3 : Int32) + (Int32.ofNat 3) = 6 by decide) ⟨6, by decide, (show ¬ Int32.ofNat 1 < 0 by decide), by decide, (show (Int32.ofNat 1).toNatClampNeg = 1 by decide), (show 6 + 1 ≤ 16 by decide), rfl, (show 6 + 1 ≤ 16 by decide), rfl⟩ (show ¬ ((0 : Int32) < (((6 : Int32) + (Int32.ofNat 1)) - ((16 : Int32) >>> ((0 : Int32) &&& 31)))) by decide) (show (6 : Int32) + (Int32.ofNat 1) = 7 by decide) ⟨by decide, by decide, by decide, by decide, by decide, rfl⟩ rfl (own_memS hr0 (own_memS hr1 (own_memS hr2 (own_memS (by decide) (own_memS (by decide) (own_memS (by decide) (own_memS hr3 own_mem0))))))) (show 7 ≤ 4000 by decide) (show Int32.ofNat 7 = _ by decide) (Or.inr (Or.inr (Or.inr (⟨rfl, ⟨Nat.le_of_ble_eq_true rfl, by decide, rfl⟩, ⟨Nat.le_of_ble_eq_true rfl, by decide, rfl⟩, ⟨Nat.le_of_ble_eq_true rfl, by decide, rfl⟩⟩)))) (Or.inr (Or.inl ⟨rfl, ⟨Nat.le_of_ble_eq_true rfl, by decide, rfl⟩⟩)) (Nat.le_of_ble_eq_true rfl) (Nat.le_of_ble_eq_true rfl) (Nat.le_of_ble_eq_true rfl) (by decide) (by decide) (by decide) rfl rfl rfl ha_ hb_ hd0 hd1 hd2 hd3 hd4 hd5
theorem rm0_32 (l : Launch) (Z : State) (a0 : Array Value) (hw : ∀ d ∈ tables_1, d.before a0 Z = true) (ws : List Jvm.Cond) (p1 p2 p3 c0 c1 c2 c3 c4 c5 G1 : Int32) (G3 : Value) (h0 : Heap) (n0 : Nat) (O0 : Old Z n0 h0) (S_CS : Sta Z Z.heap "java/lang/String" "COMPACT_STRINGS" "Z" (.int G1)) (hG1 : ¬ (G1 = (0 : Int32))) (S_SF : Sta Z Z.heap "jdk/internal/util/Preconditions" "SIOOBE_FORMATTER" "Ljava/util/function/BiFunction;" G3) (rG3 : G3.isRef = true) (hr0 : ¬ c0 < 0 ∧ ¬ (255 : Int32) < c0) (hr1 : ¬ c1 < 0 ∧ ¬ (255 : Int32) < c1) (hr2 : ¬ c2 < 0 ∧ ¬ (255 : Int32) < c2) (hr3 : ¬ c3 < 0 ∧ ¬ (255 : Int32) < c3) (hr4 : ¬ c4 < 0 ∧ ¬ (255 : Int32) < c4) (hr5 : ¬ c5 < 0 ∧ ¬ (255 : Int32) < c5) (ha_ : (p3 &&& (3 : Int32)) = 3) (hb_ : (((p3.toUInt32 >>> ((2 : Int32) &&& 31).toUInt32).toInt32) &&& (3 : Int32)) = 2) (hd0 : ((p1 &&& (255 : Int32)).toUInt32.toUInt16.toUInt32.toInt32) = c0) (hd1 : ((((p1.toUInt32 >>> ((8 : Int32) &&& 31).toUInt32).toInt32) &&& (255 : Int32)).toUInt32.toUInt16.toUInt32.toInt32) = c1) (hd2 : ((((p1.toUInt32 >>> ((16 : Int32) &&& 31).toUInt32).toInt32) &&& (255 : Int32)).toUInt32.toUInt16.toUInt32.toInt32) = c2) (hd3 : ((p2 &&& (255 : Int32)).toUInt32.toUInt16.toUInt32.toInt32) = c3) (hd4 : ((((p2.toUInt32 >>> ((8 : Int32) &&& 31).toUInt32).toInt32) &&& (255 : Int32)).toUInt32.toUInt16.toUInt32.toInt32) = c4) (hd5 : ((((p2.toUInt32 >>> ((16 : Int32) &&& 31).toUInt32).toInt32) &&& (255 : Int32)).toUInt32.toUInt16.toUInt32.toInt32) = c5) :
    MetFree l x (head1 (Jvm.Cond.code x code maxLocals ret :: ws) room_1) (fun a_ U => a_ = #[(.int p1), (.int p2), (.int p3)] ∧ Z.Warmed39 U.vm ∧ U.heap = h0 ∧ CHv Z consts_1 U.vm h0) (fun _ _ _ _ _ => True) (fun _ U o U' => ∃ v L, o = .returned v ∧ Q0 h0 n0 v U'.heap L ∧ CHr Z consts_1 U.vm U.heap U'.vm U'.heap ∧ ReturnedEndW U o U' L room_1.cells room_1.slots) := by
  exact rm0 l Z a0 hw ws p1 p2 p3 3 2 c0 c1 c2 c3 c4 c5 G1 3 6 8 G3 8 6 3 ([c0, c1, c2] : List Int32) ([c3, c4] : List Int32) ([c0, c1, c2, (32 : Int32), (124 : Int32), (32 : Int32), c3, c4] : List Int32) ([.int (StrChars.lo8 c0), .int (StrChars.lo8 c1), .int (StrChars.lo8 c2), .int (0 : Int32), .int (0 : Int32), .int (0 : Int32), .int (0 : Int32), .int (0 : Int32), .int (0 : Int32), .int (0 : Int32), .int (0 : Int32), .int (0 : Int32), .int (0 : Int32), .int (0 : Int32), .int (0 : Int32), .int (0 : Int32)] : List Value) ([.int (StrChars.lo8 c0), .int (StrChars.lo8 c1), .int (StrChars.lo8 c2), .int (StrChars.lo8 (32 : Int32)), .int (StrChars.lo8 (124 : Int32)), .int (StrChars.lo8 (32 : Int32)), .int (0 : Int32), .int (0 : Int32), .int (0 : Int32), .int (0 : Int32), .int (0 : Int32), .int (0 : Int32), .int (0 : Int32), .int (0 : Int32), .int (0 : Int32), .int (0 : Int32)] : List Value) ([.int (StrChars.lo8 c0), .int (StrChars.lo8 c1), .int (StrChars.lo8 c2), .int (StrChars.lo8 (32 : Int32)), .int (StrChars.lo8 (124 : Int32)), .int (StrChars.lo8 (32 : Int32)), .int (StrChars.lo8 c3), .int (StrChars.lo8 c4), .int (0 : Int32), .int (0 : Int32), .int (0 : Int32), .int (0 : Int32), .int (0 : Int32), .int (0 : Int32), .int (0 : Int32), .int (0 : Int32)] : List Value) h0 n0 O0 S_CS hG1 S_SF rG3 hr0 hr1 hr2 hr3 hr4 hr5 (Or.inr (Or.inr (Or.inr ⟨rfl, rfl⟩))) (Or.inr (Or.inr (Or.inl ⟨rfl, rfl⟩))) ⟨0, by decide, (show ¬ Int32.ofNat 3 < 0 by decide), by decide, (show (Int32.ofNat 3).toNatClampNeg = 3 by decide), (show 0 + 3 ≤ 16 by decide), rfl, (show 0 + 3 ≤ 16 by decide), rfl⟩ (show ¬ ((0 : Int32) < (((0 : Int32) + (Int32.ofNat 3)) - ((16 : Int32) >>> ((0 : Int32) &&& 31)))) by decide) (show (0 : Int32) + (Int32.ofNat 3) = 3 by decide) ⟨3, by decide, (show ¬ Int32.ofNat 3 < 0 by decide), by decide, (show (Int32.ofNat 3).toNatClampNeg = 3 by decide), (show 3 + 3 ≤ 16 by decide), rfl, (show 3 + 3 ≤ 16 by decide), rfl⟩ (show ¬ ((0 : Int32) < (((3 : Int32) + (Int32.ofNat 3)) - ((16 : Int32) >>> ((0 : Int32) &&& 31)))) by decide) (show (3 : Int32) + (Int32.ofNat 3) = 6 by decide) ⟨6, by decide, (show ¬ Int32.ofNat 2 < 0 by decide), by decide, (show (Int32.ofNat 2).toNatClampNeg = 2 by decide), (show 6 + 2 ≤ 16 by decide), rfl, (show 6 + 2 ≤ 16 by decide), rfl⟩ (show ¬ ((0 : Int32) < (((6 : Int32) + (Int32.ofNat 2)) - ((16 : Int32) >>> ((0 : Int32) &&& 31)))) by decide) (show (6 : Int32) + (Int32.ofNat 2) = 8 by decide) ⟨by decide, by decide, by decide, by decide, by decide, rfl⟩ rfl (own_memS hr0 (own_memS hr1 (own_memS hr2 (own_memS (by decide) (own_memS (by decide) (own_memS (by decide) (own_memS hr3 (own_memS hr4 own_mem0)))))))) (show 8 ≤ 4000 by decide) (show Int32.ofNat 8 = _ by decide) (Or.inr (Or.inr (Or.inr (⟨rfl, ⟨Nat.le_of_ble_eq_true rfl, by decide, rfl⟩, ⟨Nat.le_of_ble_eq_true rfl, by decide, rfl⟩, ⟨Nat.le_of_ble_eq_true rfl, by decide, rfl⟩⟩)))) (Or.inr (Or.inr (Or.inl ⟨rfl, ⟨Nat.le_of_ble_eq_true rfl, by decide, rfl⟩, ⟨Nat.le_of_ble_eq_true rfl, by decide, rfl⟩⟩))) (Nat.le_of_ble_eq_true rfl) (Nat.le_of_ble_eq_true rfl) (Nat.le_of_ble_eq_true rfl) (by decide) (by decide) (by decide) rfl rfl rfl ha_ hb_ hd0 hd1 hd2 hd3 hd4 hd5
theorem rm0_33 (l : Launch) (Z : State) (a0 : Array Value) (hw : ∀ d ∈ tables_1, d.before a0 Z = true) (ws : List Jvm.Cond) (p1 p2 p3 c0 c1 c2 c3 c4 c5 G1 : Int32) (G3 : Value) (h0 : Heap) (n0 : Nat) (O0 : Old Z n0 h0) (S_CS : Sta Z Z.heap "java/lang/String" "COMPACT_STRINGS" "Z" (.int G1)) (hG1 : ¬ (G1 = (0 : Int32))) (S_SF : Sta Z Z.heap "jdk/internal/util/Preconditions" "SIOOBE_FORMATTER" "Ljava/util/function/BiFunction;" G3) (rG3 : G3.isRef = true) (hr0 : ¬ c0 < 0 ∧ ¬ (255 : Int32) < c0) (hr1 : ¬ c1 < 0 ∧ ¬ (255 : Int32) < c1) (hr2 : ¬ c2 < 0 ∧ ¬ (255 : Int32) < c2) (hr3 : ¬ c3 < 0 ∧ ¬ (255 : Int32) < c3) (hr4 : ¬ c4 < 0 ∧ ¬ (255 : Int32) < c4) (hr5 : ¬ c5 < 0 ∧ ¬ (255 : Int32) < c5) (ha_ : (p3 &&& (3 : Int32)) = 3) (hb_ : (((p3.toUInt32 >>> ((2 : Int32) &&& 31).toUInt32).toInt32) &&& (3 : Int32)) = 3) (hd0 : ((p1 &&& (255 : Int32)).toUInt32.toUInt16.toUInt32.toInt32) = c0) (hd1 : ((((p1.toUInt32 >>> ((8 : Int32) &&& 31).toUInt32).toInt32) &&& (255 : Int32)).toUInt32.toUInt16.toUInt32.toInt32) = c1) (hd2 : ((((p1.toUInt32 >>> ((16 : Int32) &&& 31).toUInt32).toInt32) &&& (255 : Int32)).toUInt32.toUInt16.toUInt32.toInt32) = c2) (hd3 : ((p2 &&& (255 : Int32)).toUInt32.toUInt16.toUInt32.toInt32) = c3) (hd4 : ((((p2.toUInt32 >>> ((8 : Int32) &&& 31).toUInt32).toInt32) &&& (255 : Int32)).toUInt32.toUInt16.toUInt32.toInt32) = c4) (hd5 : ((((p2.toUInt32 >>> ((16 : Int32) &&& 31).toUInt32).toInt32) &&& (255 : Int32)).toUInt32.toUInt16.toUInt32.toInt32) = c5) :
    MetFree l x (head1 (Jvm.Cond.code x code maxLocals ret :: ws) room_1) (fun a_ U => a_ = #[(.int p1), (.int p2), (.int p3)] ∧ Z.Warmed39 U.vm ∧ U.heap = h0 ∧ CHv Z consts_1 U.vm h0) (fun _ _ _ _ _ => True) (fun _ U o U' => ∃ v L, o = .returned v ∧ Q0 h0 n0 v U'.heap L ∧ CHr Z consts_1 U.vm U.heap U'.vm U'.heap ∧ ReturnedEndW U o U' L room_1.cells room_1.slots) := by
  exact rm0 l Z a0 hw ws p1 p2 p3 3 3 c0 c1 c2 c3 c4 c5 G1 3 6 9 G3 9 6 3 ([c0, c1, c2] : List Int32) ([c3, c4, c5] : List Int32) ([c0, c1, c2, (32 : Int32), (124 : Int32), (32 : Int32), c3, c4, c5] : List Int32) ([.int (StrChars.lo8 c0), .int (StrChars.lo8 c1), .int (StrChars.lo8 c2), .int (0 : Int32), .int (0 : Int32), .int (0 : Int32), .int (0 : Int32), .int (0 : Int32), .int (0 : Int32), .int (0 : Int32), .int (0 : Int32), .int (0 : Int32), .int (0 : Int32), .int (0 : Int32), .int (0 : Int32), .int (0 : Int32)] : List Value) ([.int (StrChars.lo8 c0), .int (StrChars.lo8 c1), .int (StrChars.lo8 c2), .int (StrChars.lo8 (32 : Int32)), .int (StrChars.lo8 (124 : Int32)), .int (StrChars.lo8 (32 : Int32)), .int (0 : Int32), .int (0 : Int32), .int (0 : Int32), .int (0 : Int32), .int (0 : Int32), .int (0 : Int32), .int (0 : Int32), .int (0 : Int32), .int (0 : Int32), .int (0 : Int32)] : List Value) ([.int (StrChars.lo8 c0), .int (StrChars.lo8 c1), .int (StrChars.lo8 c2), .int (StrChars.lo8 (32 : Int32)), .int (StrChars.lo8 (124 : Int32)), .int (StrChars.lo8 (32 : Int32)), .int (StrChars.lo8 c3), .int (StrChars.lo8 c4), .int (StrChars.lo8 c5), .int (0 : Int32), .int (0 : Int32), .int (0 : Int32), .int (0 : Int32), .int (0 : Int32), .int (0 : Int32), .int (0 : Int32)] : List Value) h0 n0 O0 S_CS hG1 S_SF rG3 hr0 hr1 hr2 hr3 hr4 hr5 (Or.inr (Or.inr (Or.inr ⟨rfl, rfl⟩))) (Or.inr (Or.inr (Or.inr ⟨rfl, rfl⟩))) ⟨0, by decide, (show ¬ Int32.ofNat 3 < 0 by decide), by decide, (show (Int32.ofNat 3).toNatClampNeg = 3 by decide), (show 0 + 3 ≤ 16 by decide), rfl, (show 0 + 3 ≤ 16 by decide), rfl⟩ (show ¬ ((0 : Int32) < (((0 : Int32) + (Int32.ofNat 3)) - ((16 : Int32) >>> ((0 : Int32) &&& 31)))) by decide) (show (0 : Int32) + (Int32.ofNat 3) = 3 by decide) ⟨3, by decide, (show ¬ Int32.ofNat 3 < 0 by decide), by decide, (show (Int32.ofNat 3).toNatClampNeg = 3 by decide), (show 3 + 3 ≤ 16 by decide), rfl, (show 3 + 3 ≤ 16 by decide), rfl⟩ (show ¬ ((0 : Int32) < (((3 : Int32) + (Int32.ofNat 3)) - ((16 : Int32) >>> ((0 : Int32) &&& 31)))) by decide) (show (3 : Int32) + (Int32.ofNat 3) = 6 by decide) ⟨6, by decide, (show ¬ Int32.ofNat 3 < 0 by decide), by decide, (show (Int32.ofNat 3).toNatClampNeg = 3 by decide), (show 6 + 3 ≤ 16 by decide), rfl, (show 6 + 3 ≤ 16 by decide), rfl⟩ (show ¬ ((0 : Int32) < (((6 : Int32) + (Int32.ofNat 3)) - ((16 : Int32) >>> ((0 : Int32) &&& 31)))) by decide) (show (6 : Int32) + (Int32.ofNat 3) = 9 by decide) ⟨by decide, by decide, by decide, by decide, by decide, rfl⟩ rfl (own_memS hr0 (own_memS hr1 (own_memS hr2 (own_memS (by decide) (own_memS (by decide) (own_memS (by decide) (own_memS hr3 (own_memS hr4 (own_memS hr5 own_mem0))))))))) (show 9 ≤ 4000 by decide) (show Int32.ofNat 9 = _ by decide) (Or.inr (Or.inr (Or.inr (⟨rfl, ⟨Nat.le_of_ble_eq_true rfl, by decide, rfl⟩, ⟨Nat.le_of_ble_eq_true rfl, by decide, rfl⟩, ⟨Nat.le_of_ble_eq_true rfl, by decide, rfl⟩⟩)))) (Or.inr (Or.inr (Or.inr (⟨rfl, ⟨Nat.le_of_ble_eq_true rfl, by decide, rfl⟩, ⟨Nat.le_of_ble_eq_true rfl, by decide, rfl⟩, ⟨Nat.le_of_ble_eq_true rfl, by decide, rfl⟩⟩)))) (Nat.le_of_ble_eq_true rfl) (Nat.le_of_ble_eq_true rfl) (Nat.le_of_ble_eq_true rfl) (by decide) (by decide) (by decide) rfl rfl rfl ha_ hb_ hd0 hd1 hd2 hd3 hd4 hd5
set_option maxRecDepth 65536 in
set_option maxHeartbeats 40000000 in
theorem comes_1 {Post : Tables → Env → Array Value → State → Outcome → State → Prop} (hpost : ∀ tb e args s v u, (limb_1_1.after args s (.returned v) u = true ∧ limb_1_2.after args s (.returned v) u = true ∧ True) → ReturnedEndW s (.returned v) u (Jvm.fieldLocs frame_1_writes args s ++ Jvm.arrayLocs frame_1_arrays args s ++ Jvm.staticLocs frame_1_statics s) 40 4288 → Post tb e args s (.returned v) u) :
    ArmFor flags0 classFile x code maxLocals ret World_1 tables_1 room_1 Calls_1 rest_1 Pre_1 Post := by
  intro l hfl _ _ p e ha hc hk s m args below hf hA hF happ hP
  obtain ⟨hcalls, hrest, hpre⟩ := hP
  obtain ⟨-, -, -, hnamed, -, -, -, hat⟩ := (Spec.applies_iff hf).mp happ
  obtain ⟨hg, hn⟩ := and_e (Cond.before_iff.mp (show (Jvm.Cond.and given_1 narrow_1).before args s = true from hpre))
  obtain ⟨hcnt, hi0⟩ := and_e hg
  obtain ⟨ha0, hb0⟩ := and_e hi0
  obtain ⟨ha1, hb1⟩ := and_e hb0
  obtain ⟨w0, w1, w2, rfl⟩ : ∃ w0 w1 w2 : Value, args = #[w0, w1, w2] := by
    have hs : args.size = 3 := by simpa [Cond.value, given_1] using hcnt
    obtain ⟨L⟩ := args
    match L, hs with
    | [w0, w1, w2], _ => exact ⟨w0, w1, w2, rfl⟩
  have hw := fun d (hd : d ∈ tables_1) => atoms_spec (ws := Jvm.Cond.code x code maxLocals ret :: tables_1) hat d (List.mem_cons_of_mem _ hd)
  have hfit : Fit s := fun {y c} hc i hi => by
    obtain ⟨ha, rfl⟩ := Array.getElem?_eq_some_iff.mp hc
    have q := List.all_eq_true.mp ((Array.all_eq_true_iff_forall_mem.mp hF) _ (Array.getElem_mem ha)) i (List.mem_range.mpr hi)
    simpa [Array.getElem?_eq_getElem hi] using q
  obtain ⟨i0, ei0⟩ := is_v ha0
  obtain rfl : w0 = (.int i0) := Option.some.inj ei0
  obtain ⟨i1, ei1⟩ := is_v ha1
  obtain rfl : w1 = (.int i1) := Option.some.inj ei1
  obtain ⟨i2, ei2⟩ := is_v hb1
  obtain rfl : w2 = (.int i2) := Option.some.inj ei2
  obtain ⟨hsets, hown0⟩ := atoms_of _ (rest_1_c_eq ▸ (show rest_1_c.before _ s = true from hrest))
  obtain ⟨i_CS, ev_CS⟩ := is_v (Cond.before_iff.mp (hsets _ (List.mem_of_getElem? (i := 1) rfl)))
  have S_CS : Sta s s.heap "java/lang/String" "COMPACT_STRINGS" "Z" (.int i_CS) := Sta.start ev_CS (Or.inl (hsets _ (List.mem_of_getElem? (i := 0) rfl)))
  have hCS : ¬ (i_CS = (0 : Int32)) := gotF (Cond.eq_ints ev_CS (Term.int_eval (0))) (not_v (Cond.before_iff.mp (hsets _ (List.mem_of_getElem? (i := 2) rfl))))
  obtain ⟨v_SF, ev_SF, r_SF⟩ := isR_v (Cond.before_iff.mp (hsets _ (List.mem_of_getElem? (i := 8) rfl)))
  have S_SF : Sta s s.heap "jdk/internal/util/Preconditions" "SIOOBE_FORMATTER" "Ljava/util/function/BiFunction;" v_SF := Sta.start ev_SF (Or.inl (hsets _ (List.mem_of_getElem? (i := 7) rfl)))
  have hC : CHv s consts_1 s.vm s.heap := CHv.start (own_EW hw) (fun q hq => hcalls.1 q hq) (show Jvm.Lit.compactW.before _ s = true from hsets _ (List.mem_of_getElem? (i := 2) rfl)) (wi hw 23 rfl) (wi hw 5 rfl)
  have key : MetFree l x (head1 (Jvm.Cond.code x code maxLocals ret :: tables_1) room_1) (fun a U => a = #[(.int i0), (.int i1), (.int i2)] ∧ s.Warmed39 U.vm ∧ U.heap = s.heap ∧ CHv s consts_1 U.vm s.heap) (fun _ _ _ _ _ => True) (fun _ U o U' => ∃ v L, o = .returned v ∧ Q0 s.heap s.heap.size v U'.heap L ∧ CHr s consts_1 U.vm U.heap U'.vm U'.heap ∧ ReturnedEndW U o U' L room_1.cells room_1.slots) := by
    rcases own_and3 i2 with ka | ka | ka | ka <;> rcases own_and3 ((i2.toUInt32 >>> ((2 : Int32) &&& 31).toUInt32).toInt32) with kb | kb | kb | kb
    · exact rm0_00 l s _ hw tables_1 i0 i1 i2 (((i0 &&& (255 : Int32)).toUInt32.toUInt16.toUInt32.toInt32)) (((((i0.toUInt32 >>> ((8 : Int32) &&& 31).toUInt32).toInt32) &&& (255 : Int32)).toUInt32.toUInt16.toUInt32.toInt32)) (((((i0.toUInt32 >>> ((16 : Int32) &&& 31).toUInt32).toInt32) &&& (255 : Int32)).toUInt32.toUInt16.toUInt32.toInt32)) (((i1 &&& (255 : Int32)).toUInt32.toUInt16.toUInt32.toInt32)) (((((i1.toUInt32 >>> ((8 : Int32) &&& 31).toUInt32).toInt32) &&& (255 : Int32)).toUInt32.toUInt16.toUInt32.toInt32)) (((((i1.toUInt32 >>> ((16 : Int32) &&& 31).toUInt32).toInt32) &&& (255 : Int32)).toUInt32.toUInt16.toUInt32.toInt32)) i_CS v_SF s.heap s.heap.size (Old.start s) S_CS hCS S_SF r_SF (own_and255c _) (own_and255c _) (own_and255c _) (own_and255c _) (own_and255c _) (own_and255c _) ka kb rfl rfl rfl rfl rfl rfl
    · exact rm0_01 l s _ hw tables_1 i0 i1 i2 (((i0 &&& (255 : Int32)).toUInt32.toUInt16.toUInt32.toInt32)) (((((i0.toUInt32 >>> ((8 : Int32) &&& 31).toUInt32).toInt32) &&& (255 : Int32)).toUInt32.toUInt16.toUInt32.toInt32)) (((((i0.toUInt32 >>> ((16 : Int32) &&& 31).toUInt32).toInt32) &&& (255 : Int32)).toUInt32.toUInt16.toUInt32.toInt32)) (((i1 &&& (255 : Int32)).toUInt32.toUInt16.toUInt32.toInt32)) (((((i1.toUInt32 >>> ((8 : Int32) &&& 31).toUInt32).toInt32) &&& (255 : Int32)).toUInt32.toUInt16.toUInt32.toInt32)) (((((i1.toUInt32 >>> ((16 : Int32) &&& 31).toUInt32).toInt32) &&& (255 : Int32)).toUInt32.toUInt16.toUInt32.toInt32)) i_CS v_SF s.heap s.heap.size (Old.start s) S_CS hCS S_SF r_SF (own_and255c _) (own_and255c _) (own_and255c _) (own_and255c _) (own_and255c _) (own_and255c _) ka kb rfl rfl rfl rfl rfl rfl
    · exact rm0_02 l s _ hw tables_1 i0 i1 i2 (((i0 &&& (255 : Int32)).toUInt32.toUInt16.toUInt32.toInt32)) (((((i0.toUInt32 >>> ((8 : Int32) &&& 31).toUInt32).toInt32) &&& (255 : Int32)).toUInt32.toUInt16.toUInt32.toInt32)) (((((i0.toUInt32 >>> ((16 : Int32) &&& 31).toUInt32).toInt32) &&& (255 : Int32)).toUInt32.toUInt16.toUInt32.toInt32)) (((i1 &&& (255 : Int32)).toUInt32.toUInt16.toUInt32.toInt32)) (((((i1.toUInt32 >>> ((8 : Int32) &&& 31).toUInt32).toInt32) &&& (255 : Int32)).toUInt32.toUInt16.toUInt32.toInt32)) (((((i1.toUInt32 >>> ((16 : Int32) &&& 31).toUInt32).toInt32) &&& (255 : Int32)).toUInt32.toUInt16.toUInt32.toInt32)) i_CS v_SF s.heap s.heap.size (Old.start s) S_CS hCS S_SF r_SF (own_and255c _) (own_and255c _) (own_and255c _) (own_and255c _) (own_and255c _) (own_and255c _) ka kb rfl rfl rfl rfl rfl rfl
    · exact rm0_03 l s _ hw tables_1 i0 i1 i2 (((i0 &&& (255 : Int32)).toUInt32.toUInt16.toUInt32.toInt32)) (((((i0.toUInt32 >>> ((8 : Int32) &&& 31).toUInt32).toInt32) &&& (255 : Int32)).toUInt32.toUInt16.toUInt32.toInt32)) (((((i0.toUInt32 >>> ((16 : Int32) &&& 31).toUInt32).toInt32) &&& (255 : Int32)).toUInt32.toUInt16.toUInt32.toInt32)) (((i1 &&& (255 : Int32)).toUInt32.toUInt16.toUInt32.toInt32)) (((((i1.toUInt32 >>> ((8 : Int32) &&& 31).toUInt32).toInt32) &&& (255 : Int32)).toUInt32.toUInt16.toUInt32.toInt32)) (((((i1.toUInt32 >>> ((16 : Int32) &&& 31).toUInt32).toInt32) &&& (255 : Int32)).toUInt32.toUInt16.toUInt32.toInt32)) i_CS v_SF s.heap s.heap.size (Old.start s) S_CS hCS S_SF r_SF (own_and255c _) (own_and255c _) (own_and255c _) (own_and255c _) (own_and255c _) (own_and255c _) ka kb rfl rfl rfl rfl rfl rfl
    · exact rm0_10 l s _ hw tables_1 i0 i1 i2 (((i0 &&& (255 : Int32)).toUInt32.toUInt16.toUInt32.toInt32)) (((((i0.toUInt32 >>> ((8 : Int32) &&& 31).toUInt32).toInt32) &&& (255 : Int32)).toUInt32.toUInt16.toUInt32.toInt32)) (((((i0.toUInt32 >>> ((16 : Int32) &&& 31).toUInt32).toInt32) &&& (255 : Int32)).toUInt32.toUInt16.toUInt32.toInt32)) (((i1 &&& (255 : Int32)).toUInt32.toUInt16.toUInt32.toInt32)) (((((i1.toUInt32 >>> ((8 : Int32) &&& 31).toUInt32).toInt32) &&& (255 : Int32)).toUInt32.toUInt16.toUInt32.toInt32)) (((((i1.toUInt32 >>> ((16 : Int32) &&& 31).toUInt32).toInt32) &&& (255 : Int32)).toUInt32.toUInt16.toUInt32.toInt32)) i_CS v_SF s.heap s.heap.size (Old.start s) S_CS hCS S_SF r_SF (own_and255c _) (own_and255c _) (own_and255c _) (own_and255c _) (own_and255c _) (own_and255c _) ka kb rfl rfl rfl rfl rfl rfl
    · exact rm0_11 l s _ hw tables_1 i0 i1 i2 (((i0 &&& (255 : Int32)).toUInt32.toUInt16.toUInt32.toInt32)) (((((i0.toUInt32 >>> ((8 : Int32) &&& 31).toUInt32).toInt32) &&& (255 : Int32)).toUInt32.toUInt16.toUInt32.toInt32)) (((((i0.toUInt32 >>> ((16 : Int32) &&& 31).toUInt32).toInt32) &&& (255 : Int32)).toUInt32.toUInt16.toUInt32.toInt32)) (((i1 &&& (255 : Int32)).toUInt32.toUInt16.toUInt32.toInt32)) (((((i1.toUInt32 >>> ((8 : Int32) &&& 31).toUInt32).toInt32) &&& (255 : Int32)).toUInt32.toUInt16.toUInt32.toInt32)) (((((i1.toUInt32 >>> ((16 : Int32) &&& 31).toUInt32).toInt32) &&& (255 : Int32)).toUInt32.toUInt16.toUInt32.toInt32)) i_CS v_SF s.heap s.heap.size (Old.start s) S_CS hCS S_SF r_SF (own_and255c _) (own_and255c _) (own_and255c _) (own_and255c _) (own_and255c _) (own_and255c _) ka kb rfl rfl rfl rfl rfl rfl
    · exact rm0_12 l s _ hw tables_1 i0 i1 i2 (((i0 &&& (255 : Int32)).toUInt32.toUInt16.toUInt32.toInt32)) (((((i0.toUInt32 >>> ((8 : Int32) &&& 31).toUInt32).toInt32) &&& (255 : Int32)).toUInt32.toUInt16.toUInt32.toInt32)) (((((i0.toUInt32 >>> ((16 : Int32) &&& 31).toUInt32).toInt32) &&& (255 : Int32)).toUInt32.toUInt16.toUInt32.toInt32)) (((i1 &&& (255 : Int32)).toUInt32.toUInt16.toUInt32.toInt32)) (((((i1.toUInt32 >>> ((8 : Int32) &&& 31).toUInt32).toInt32) &&& (255 : Int32)).toUInt32.toUInt16.toUInt32.toInt32)) (((((i1.toUInt32 >>> ((16 : Int32) &&& 31).toUInt32).toInt32) &&& (255 : Int32)).toUInt32.toUInt16.toUInt32.toInt32)) i_CS v_SF s.heap s.heap.size (Old.start s) S_CS hCS S_SF r_SF (own_and255c _) (own_and255c _) (own_and255c _) (own_and255c _) (own_and255c _) (own_and255c _) ka kb rfl rfl rfl rfl rfl rfl
    · exact rm0_13 l s _ hw tables_1 i0 i1 i2 (((i0 &&& (255 : Int32)).toUInt32.toUInt16.toUInt32.toInt32)) (((((i0.toUInt32 >>> ((8 : Int32) &&& 31).toUInt32).toInt32) &&& (255 : Int32)).toUInt32.toUInt16.toUInt32.toInt32)) (((((i0.toUInt32 >>> ((16 : Int32) &&& 31).toUInt32).toInt32) &&& (255 : Int32)).toUInt32.toUInt16.toUInt32.toInt32)) (((i1 &&& (255 : Int32)).toUInt32.toUInt16.toUInt32.toInt32)) (((((i1.toUInt32 >>> ((8 : Int32) &&& 31).toUInt32).toInt32) &&& (255 : Int32)).toUInt32.toUInt16.toUInt32.toInt32)) (((((i1.toUInt32 >>> ((16 : Int32) &&& 31).toUInt32).toInt32) &&& (255 : Int32)).toUInt32.toUInt16.toUInt32.toInt32)) i_CS v_SF s.heap s.heap.size (Old.start s) S_CS hCS S_SF r_SF (own_and255c _) (own_and255c _) (own_and255c _) (own_and255c _) (own_and255c _) (own_and255c _) ka kb rfl rfl rfl rfl rfl rfl
    · exact rm0_20 l s _ hw tables_1 i0 i1 i2 (((i0 &&& (255 : Int32)).toUInt32.toUInt16.toUInt32.toInt32)) (((((i0.toUInt32 >>> ((8 : Int32) &&& 31).toUInt32).toInt32) &&& (255 : Int32)).toUInt32.toUInt16.toUInt32.toInt32)) (((((i0.toUInt32 >>> ((16 : Int32) &&& 31).toUInt32).toInt32) &&& (255 : Int32)).toUInt32.toUInt16.toUInt32.toInt32)) (((i1 &&& (255 : Int32)).toUInt32.toUInt16.toUInt32.toInt32)) (((((i1.toUInt32 >>> ((8 : Int32) &&& 31).toUInt32).toInt32) &&& (255 : Int32)).toUInt32.toUInt16.toUInt32.toInt32)) (((((i1.toUInt32 >>> ((16 : Int32) &&& 31).toUInt32).toInt32) &&& (255 : Int32)).toUInt32.toUInt16.toUInt32.toInt32)) i_CS v_SF s.heap s.heap.size (Old.start s) S_CS hCS S_SF r_SF (own_and255c _) (own_and255c _) (own_and255c _) (own_and255c _) (own_and255c _) (own_and255c _) ka kb rfl rfl rfl rfl rfl rfl
    · exact rm0_21 l s _ hw tables_1 i0 i1 i2 (((i0 &&& (255 : Int32)).toUInt32.toUInt16.toUInt32.toInt32)) (((((i0.toUInt32 >>> ((8 : Int32) &&& 31).toUInt32).toInt32) &&& (255 : Int32)).toUInt32.toUInt16.toUInt32.toInt32)) (((((i0.toUInt32 >>> ((16 : Int32) &&& 31).toUInt32).toInt32) &&& (255 : Int32)).toUInt32.toUInt16.toUInt32.toInt32)) (((i1 &&& (255 : Int32)).toUInt32.toUInt16.toUInt32.toInt32)) (((((i1.toUInt32 >>> ((8 : Int32) &&& 31).toUInt32).toInt32) &&& (255 : Int32)).toUInt32.toUInt16.toUInt32.toInt32)) (((((i1.toUInt32 >>> ((16 : Int32) &&& 31).toUInt32).toInt32) &&& (255 : Int32)).toUInt32.toUInt16.toUInt32.toInt32)) i_CS v_SF s.heap s.heap.size (Old.start s) S_CS hCS S_SF r_SF (own_and255c _) (own_and255c _) (own_and255c _) (own_and255c _) (own_and255c _) (own_and255c _) ka kb rfl rfl rfl rfl rfl rfl
    · exact rm0_22 l s _ hw tables_1 i0 i1 i2 (((i0 &&& (255 : Int32)).toUInt32.toUInt16.toUInt32.toInt32)) (((((i0.toUInt32 >>> ((8 : Int32) &&& 31).toUInt32).toInt32) &&& (255 : Int32)).toUInt32.toUInt16.toUInt32.toInt32)) (((((i0.toUInt32 >>> ((16 : Int32) &&& 31).toUInt32).toInt32) &&& (255 : Int32)).toUInt32.toUInt16.toUInt32.toInt32)) (((i1 &&& (255 : Int32)).toUInt32.toUInt16.toUInt32.toInt32)) (((((i1.toUInt32 >>> ((8 : Int32) &&& 31).toUInt32).toInt32) &&& (255 : Int32)).toUInt32.toUInt16.toUInt32.toInt32)) (((((i1.toUInt32 >>> ((16 : Int32) &&& 31).toUInt32).toInt32) &&& (255 : Int32)).toUInt32.toUInt16.toUInt32.toInt32)) i_CS v_SF s.heap s.heap.size (Old.start s) S_CS hCS S_SF r_SF (own_and255c _) (own_and255c _) (own_and255c _) (own_and255c _) (own_and255c _) (own_and255c _) ka kb rfl rfl rfl rfl rfl rfl
    · exact rm0_23 l s _ hw tables_1 i0 i1 i2 (((i0 &&& (255 : Int32)).toUInt32.toUInt16.toUInt32.toInt32)) (((((i0.toUInt32 >>> ((8 : Int32) &&& 31).toUInt32).toInt32) &&& (255 : Int32)).toUInt32.toUInt16.toUInt32.toInt32)) (((((i0.toUInt32 >>> ((16 : Int32) &&& 31).toUInt32).toInt32) &&& (255 : Int32)).toUInt32.toUInt16.toUInt32.toInt32)) (((i1 &&& (255 : Int32)).toUInt32.toUInt16.toUInt32.toInt32)) (((((i1.toUInt32 >>> ((8 : Int32) &&& 31).toUInt32).toInt32) &&& (255 : Int32)).toUInt32.toUInt16.toUInt32.toInt32)) (((((i1.toUInt32 >>> ((16 : Int32) &&& 31).toUInt32).toInt32) &&& (255 : Int32)).toUInt32.toUInt16.toUInt32.toInt32)) i_CS v_SF s.heap s.heap.size (Old.start s) S_CS hCS S_SF r_SF (own_and255c _) (own_and255c _) (own_and255c _) (own_and255c _) (own_and255c _) (own_and255c _) ka kb rfl rfl rfl rfl rfl rfl
    · exact rm0_30 l s _ hw tables_1 i0 i1 i2 (((i0 &&& (255 : Int32)).toUInt32.toUInt16.toUInt32.toInt32)) (((((i0.toUInt32 >>> ((8 : Int32) &&& 31).toUInt32).toInt32) &&& (255 : Int32)).toUInt32.toUInt16.toUInt32.toInt32)) (((((i0.toUInt32 >>> ((16 : Int32) &&& 31).toUInt32).toInt32) &&& (255 : Int32)).toUInt32.toUInt16.toUInt32.toInt32)) (((i1 &&& (255 : Int32)).toUInt32.toUInt16.toUInt32.toInt32)) (((((i1.toUInt32 >>> ((8 : Int32) &&& 31).toUInt32).toInt32) &&& (255 : Int32)).toUInt32.toUInt16.toUInt32.toInt32)) (((((i1.toUInt32 >>> ((16 : Int32) &&& 31).toUInt32).toInt32) &&& (255 : Int32)).toUInt32.toUInt16.toUInt32.toInt32)) i_CS v_SF s.heap s.heap.size (Old.start s) S_CS hCS S_SF r_SF (own_and255c _) (own_and255c _) (own_and255c _) (own_and255c _) (own_and255c _) (own_and255c _) ka kb rfl rfl rfl rfl rfl rfl
    · exact rm0_31 l s _ hw tables_1 i0 i1 i2 (((i0 &&& (255 : Int32)).toUInt32.toUInt16.toUInt32.toInt32)) (((((i0.toUInt32 >>> ((8 : Int32) &&& 31).toUInt32).toInt32) &&& (255 : Int32)).toUInt32.toUInt16.toUInt32.toInt32)) (((((i0.toUInt32 >>> ((16 : Int32) &&& 31).toUInt32).toInt32) &&& (255 : Int32)).toUInt32.toUInt16.toUInt32.toInt32)) (((i1 &&& (255 : Int32)).toUInt32.toUInt16.toUInt32.toInt32)) (((((i1.toUInt32 >>> ((8 : Int32) &&& 31).toUInt32).toInt32) &&& (255 : Int32)).toUInt32.toUInt16.toUInt32.toInt32)) (((((i1.toUInt32 >>> ((16 : Int32) &&& 31).toUInt32).toInt32) &&& (255 : Int32)).toUInt32.toUInt16.toUInt32.toInt32)) i_CS v_SF s.heap s.heap.size (Old.start s) S_CS hCS S_SF r_SF (own_and255c _) (own_and255c _) (own_and255c _) (own_and255c _) (own_and255c _) (own_and255c _) ka kb rfl rfl rfl rfl rfl rfl
    · exact rm0_32 l s _ hw tables_1 i0 i1 i2 (((i0 &&& (255 : Int32)).toUInt32.toUInt16.toUInt32.toInt32)) (((((i0.toUInt32 >>> ((8 : Int32) &&& 31).toUInt32).toInt32) &&& (255 : Int32)).toUInt32.toUInt16.toUInt32.toInt32)) (((((i0.toUInt32 >>> ((16 : Int32) &&& 31).toUInt32).toInt32) &&& (255 : Int32)).toUInt32.toUInt16.toUInt32.toInt32)) (((i1 &&& (255 : Int32)).toUInt32.toUInt16.toUInt32.toInt32)) (((((i1.toUInt32 >>> ((8 : Int32) &&& 31).toUInt32).toInt32) &&& (255 : Int32)).toUInt32.toUInt16.toUInt32.toInt32)) (((((i1.toUInt32 >>> ((16 : Int32) &&& 31).toUInt32).toInt32) &&& (255 : Int32)).toUInt32.toUInt16.toUInt32.toInt32)) i_CS v_SF s.heap s.heap.size (Old.start s) S_CS hCS S_SF r_SF (own_and255c _) (own_and255c _) (own_and255c _) (own_and255c _) (own_and255c _) (own_and255c _) ka kb rfl rfl rfl rfl rfl rfl
    · exact rm0_33 l s _ hw tables_1 i0 i1 i2 (((i0 &&& (255 : Int32)).toUInt32.toUInt16.toUInt32.toInt32)) (((((i0.toUInt32 >>> ((8 : Int32) &&& 31).toUInt32).toInt32) &&& (255 : Int32)).toUInt32.toUInt16.toUInt32.toInt32)) (((((i0.toUInt32 >>> ((16 : Int32) &&& 31).toUInt32).toInt32) &&& (255 : Int32)).toUInt32.toUInt16.toUInt32.toInt32)) (((i1 &&& (255 : Int32)).toUInt32.toUInt16.toUInt32.toInt32)) (((((i1.toUInt32 >>> ((8 : Int32) &&& 31).toUInt32).toInt32) &&& (255 : Int32)).toUInt32.toUInt16.toUInt32.toInt32)) (((((i1.toUInt32 >>> ((16 : Int32) &&& 31).toUInt32).toInt32) &&& (255 : Int32)).toUInt32.toUInt16.toUInt32.toInt32)) i_CS v_SF s.heap s.heap.size (Old.start s) S_CS hCS S_SF r_SF (own_and255c _) (own_and255c _) (own_and255c _) (own_and255c _) (own_and255c _) (own_and255c _) ka kb rfl rfl rfl rfl rfl rfl
  obtain ⟨n, o, h1, h2, h3, _, L, rfl, ⟨rfl, N⟩, -, hq⟩ := key p e ha hc hk s m _ below hf ((Spec.applies_iff_loose hf).mp happ).1 ⟨rfl, State.Warmed39.refl s, rfl, hC⟩ trivial
  refine ⟨n, _, h1, h2, h3, hpost _ _ _ _ _ _ ⟨Cond.after_iff.mpr rfl, Cond.after_iff.mpr (eq_i res_at (Term.int_eval (1)) rfl), trivial⟩ ⟨hq.1, hq.2.1, hq.2.2.1, (hq.2.2.2.sift fun y hy => Or.inr (N y hy)).mono (by decide) (by decide)⟩⟩
theorem main_1_1 : Claimed_1_1 := comes_1 fun _ _ _ _ _ _ h hF => ⟨h.1, hF⟩
theorem main_1_2 : Claimed_1_2 := comes_1 fun _ _ _ _ _ _ h hF => ⟨h.2.1, hF⟩
end Jvm.Pilot.@@N@@
namespace Jvm.Pilot.@@N@@
open Jvm Jvm.ClassFile Sem Op Lib Jvm.Free Jvm.Stand Jvm.Pilot.@@N@@.Jvm.D
/-! MADE BY PROGRAM (witnessworld.py) out of the Statement's table words and the real class files: 27 classes; the members and pool entries that the words name. The judged class is class 1, her method 1. -/
namespace start1
open Jvm.ClassFile
def u (s : String) : CpInfo := .utf8 (stringToUtf16 s)
/-- a pool by its gaps: so many unusable entries, then the entry; so many at the end -/
def gap : Nat → List CpInfo → List CpInfo
  | 0, r => r
  | n + 1, r => .unusable :: gap n r
def poolList (es : List (Nat × CpInfo)) (last : Nat) : List CpInfo := es.foldr (fun e r => gap e.1 (e.2 :: r)) (gap last [])
def pool (es : List (Nat × CpInfo)) (last : Nat) : Array CpInfo := ⟨poolList es last⟩
def fileOf (pool : Array CpInfo) (this : Nat) (attrs : Array Attribute := #[]) (ms : Array MethodInfo := #[]) (fl : Nat := 33) (sup : Nat := 0) (ifs : Array Nat := #[]) (fds : Array FieldInfo := #[]) : ClassFile where
  minorVersion := 0
  majorVersion := 65
  constantPool := pool
  accessFlags := fl
  thisClass := this
  superClass := sup
  interfaces := ifs
  fields := fds
  methods := ms
  attributes := attrs
def plain (name : String) (sup : Option ClassId) : Class where
  name := name
  kind := .ordinary
  loader := none
  accessFlags := 33
  super := sup
  interfaces := #[]
  cf := none
  fields := #[]
  methods := #[]
  instanceTypes := #[]
  staticTypes := #[]
  resolved := #[]
  callSites := []
  init := .initialized
  statics := none
  mirror := none

def pool0 : Array CpInfo := pool [(5, u "<init>"), (0, u "()V"), (1, .class_ 10), (1, u "java/lang/Object")] 113

def k0c0 : Code := { maxStack := 0, maxLocals := 1, code := object_method_1_code, exceptionTable := #[], attributes := #[] }
def k0m0 : Method := { name := "<init>", desc := "()V", sig := { parameters := [], returnType := none }, accessFlags := 1, code := some k0c0 }
/-- java/lang/Object -/
def k0 : Class := { plain "java/lang/Object" none with
  accessFlags := 33
  interfaces := #[]
  cf := some (fileOf pool0 8 #[] #[{ accessFlags := 1, nameIndex := 5, descriptorIndex := 6, attributes := #[] }] 33 0 #[] #[])
  fields := #[]
  methods := #[k0m0]
  instanceTypes := #[]
  staticTypes := #[]
  resolved := Array.replicate 124 none
  statics := none }

def pool1 : Array CpInfo := pool [(2, .class_ 4), (1, u "java/lang/Object"), (0, u "<init>"), (0, u "()V"), (0, .methodref 8 9), (0, .class_ 10), (0, .nameAndType 11 12), (0, u "com/example/postback/postback/aurpay/AurpaySignatureSignedStringPinLaw"), (0, u "make"), (0, u "(ICCC)Ljava/lang/String;"), (0, .methodref 14 15), (0, .class_ 16), (0, .nameAndType 17 18), (0, u "com/example/postback/postback/aurpay/AurpaySignature"), (0, u "signedString"), (0, u "(Ljava/lang/String;Ljava/lang/String;)Ljava/lang/String;"), (0, .methodref 20 21), (0, .class_ 22), (0, .nameAndType 23 24), (0, u "java/lang/String"), (0, u "length"), (0, u "()I"), (0, .methodref 8 26), (0, .nameAndType 27 28), (0, u "chk"), (0, u "(Ljava/lang/String;IICCC)Z"), (0, .methodref 20 30), (0, .nameAndType 31 32), (0, u "charAt"), (0, u "(I)C"), (0, .methodref 20 34), (0, .nameAndType 5 35), (0, u "([C)V"), (2, u "law"), (0, u "(III)Z")] 3

def k1m0 : Method := { name := "<init>", desc := "()V", sig := { parameters := [], returnType := none }, accessFlags := 1, code := none }
def k1c1 : Code := { maxStack := 6, maxLocals := 14, code := code, exceptionTable := #[], attributes := #[] }
def k1m1 : Method := { name := "law", desc := "(III)Z", sig := { parameters := [.int, .int, .int], returnType := some .boolean }, accessFlags := 9, code := some k1c1 }
def k1c2 : Code := { maxStack := 6, maxLocals := 4, code := method_3_code, exceptionTable := #[], attributes := #[] }
def k1m2 : Method := { name := "make", desc := "(ICCC)Ljava/lang/String;", sig := { parameters := [.int, .char, .char, .char], returnType := some (.object "java/lang/String") }, accessFlags := 10, code := some k1c2 }
def k1c3 : Code := { maxStack := 3, maxLocals := 6, code := method_4_code, exceptionTable := #[], attributes := #[] }
def k1m3 : Method := { name := "chk", desc := "(Ljava/lang/String;IICCC)Z", sig := { parameters := [(.object "java/lang/String"), .int, .int, .char, .char, .char], returnType := some .boolean }, accessFlags := 10, code := some k1c3 }
/-- com/example/postback/postback/aurpay/AurpaySignatureSignedStringPinLaw -/
def k1 : Class := { plain "com/example/postback/postback/aurpay/AurpaySignatureSignedStringPinLaw" (some 0) with
  accessFlags := 49
  interfaces := #[]
  cf := some (fileOf pool1 8 #[] #[{ accessFlags := 1, nameIndex := 5, descriptorIndex := 6, attributes := #[] }, { accessFlags := 9, nameIndex := 38, descriptorIndex := 39, attributes := #[] }, { accessFlags := 10, nameIndex := 11, descriptorIndex := 12, attributes := #[] }, { accessFlags := 10, nameIndex := 27, descriptorIndex := 28, attributes := #[] }] 49 2 #[] #[])
  fields := #[]
  methods := #[k1m0, k1m1, k1m2, k1m3]
  instanceTypes := #[]
  staticTypes := #[]
  resolved := Array.replicate 43 none
  statics := none }

def pool2 : Array CpInfo := pool [(1, .class_ 2), (0, u "java/io/Serializable"), (0, .class_ 4), (0, u "java/lang/Object")] 2

/-- java/io/Serializable -/
def k2 : Class := { plain "java/io/Serializable" (some 0) with
  accessFlags := 1537
  interfaces := #[]
  cf := some (fileOf pool2 1 #[] #[] 1537 3 #[] #[])
  fields := #[]
  methods := #[]
  instanceTypes := #[]
  staticTypes := #[]
  resolved := Array.replicate 7 none
  statics := none }

def pool3 : Array CpInfo := pool [(1, .class_ 2), (0, u "java/lang/Comparable"), (0, .class_ 4), (0, u "java/lang/Object")] 7

/-- java/lang/Comparable -/
def k3 : Class := { plain "java/lang/Comparable" (some 0) with
  accessFlags := 1537
  interfaces := #[]
  cf := some (fileOf pool3 1 #[] #[] 1537 3 #[] #[])
  fields := #[]
  methods := #[]
  instanceTypes := #[]
  staticTypes := #[]
  resolved := Array.replicate 12 none
  statics := none }

def pool4 : Array CpInfo := pool [(2, .class_ 4), (1, u "java/lang/CharSequence"), (42, .class_ 48), (0, u "java/lang/CharSequence$1CodePointIterator"), (10, .class_ 60), (0, u "java/lang/CharSequence$1CharIterator"), (5, .class_ 67), (0, u "java/lang/Object")] 63

/-- java/lang/CharSequence -/
def k4 : Class := { plain "java/lang/CharSequence" (some 0) with
  accessFlags := 1537
  interfaces := #[]
  cf := some (fileOf pool4 2 #[.nestMembers #[47, 59]] #[] 1537 66 #[] #[])
  fields := #[]
  methods := #[]
  instanceTypes := #[]
  staticTypes := #[]
  resolved := Array.replicate 131 none
  statics := none }

def pool5 : Array CpInfo := pool [(1, .class_ 2), (0, u "java/lang/constant/Constable"), (0, .class_ 4), (0, u "java/lang/Object")] 6

/-- java/lang/constant/Constable -/
def k5 : Class := { plain "java/lang/constant/Constable" (some 0) with
  accessFlags := 1537
  interfaces := #[]
  cf := some (fileOf pool5 1 #[] #[] 1537 3 #[] #[])
  fields := #[]
  methods := #[]
  instanceTypes := #[]
  staticTypes := #[]
  resolved := Array.replicate 11 none
  statics := none }

def pool6 : Array CpInfo := pool [(1, .class_ 2), (0, u "java/lang/constant/ConstantDesc"), (0, .class_ 4), (0, u "java/lang/Object")] 32

/-- java/lang/constant/ConstantDesc -/
def k6 : Class := { plain "java/lang/constant/ConstantDesc" (some 0) with
  accessFlags := 1537
  interfaces := #[]
  cf := some (fileOf pool6 1 #[] #[] 1537 3 #[] #[])
  fields := #[]
  methods := #[]
  instanceTypes := #[]
  staticTypes := #[]
  resolved := Array.replicate 37 none
  statics := none }

def pool7 : Array CpInfo := pool [(1, .methodref 2 3), (0, .class_ 4), (0, .nameAndType 5 6), (0, u "java/lang/Object"), (0, u "<init>"), (0, u "()V"), (0, .string 8), (0, u ""), (0, .fieldref 10 11), (0, .class_ 12), (0, .nameAndType 13 14), (0, u "java/lang/String"), (0, u "value"), (0, u "[B"), (0, .fieldref 10 16), (0, .nameAndType 17 18), (0, u "coder"), (0, u "B"), (2, u "hash"), (0, u "I"), (2, u "hashIsZero"), (0, u "Z"), (0, .methodref 10 28), (0, .nameAndType 5 29), (0, u "([CIILjava/lang/Void;)V"), (8, .fieldref 10 39), (0, .nameAndType 40 26), (0, u "COMPACT_STRINGS"), (1, .class_ 44), (1, u "java/lang/StringUTF16"), (0, u "compress"), (1, .methodref 42 48), (0, .nameAndType 49 50), (0, u "coderFromArrayLen"), (0, u "([BI)B"), (3, .methodref 55 56), (0, .class_ 57), (0, .nameAndType 58 59), (0, u "java/util/Arrays"), (0, u "copyOfRange"), (0, u "([BII)[B"), (47, .class_ 109), (1, u "java/lang/StringLatin1"), (32, u "()Z"), (34, .methodref 42 178), (0, .nameAndType 45 179), (0, u "([CII)[B"), (13, .class_ 195), (1, u "java/lang/System"), (16, .methodref 193 213), (0, .nameAndType 214 215), (0, u "arraycopy"), (0, u "(Ljava/lang/Object;ILjava/lang/Object;II)V"), (118, u "()I"), (0, .methodref 10 336), (0, .nameAndType 17 337), (0, u "()B"), (2, u "()[B"), (22, u "([BI)C"), (27, u "(II)V"), (35, u "(I)C"), (61, .methodref 10 490), (0, .nameAndType 5 491), (0, u "(Ljava/lang/AbstractStringBuilder;Ljava/lang/Void;)V"), (0, .methodref 10 493), (0, .nameAndType 494 142), (0, u "isLatin1"), (0, .methodref 107 496), (0, .nameAndType 497 363), (0, u "charAt"), (3, u "checkIndex"), (4, .nameAndType 507 334), (0, u "length"), (24, u "getBytes"), (16, .methodref 550 506), (0, .class_ 551), (0, u "java/lang/AbstractStringBuilder"), (0, .methodref 550 553), (0, .nameAndType 554 340), (0, u "getValue"), (20, .class_ 576), (0, u "java/lang/CharSequence"), (22, u "CASE_INSENSITIVE_ORDER"), (0, u "Ljava/util/Comparator;"), (220, u "([BIB)V"), (188, u "([C)V"), (36, .methodref 550 493), (5, .fieldref 1054 1055), (0, .class_ 1056), (0, .nameAndType 1057 1058), (0, u "jdk/internal/util/Preconditions"), (0, u "SIOOBE_FORMATTER"), (0, u "Ljava/util/function/BiFunction;"), (0, .methodref 1054 1060), (0, .nameAndType 501 1061), (0, u "(IILjava/util/function/BiFunction;)I"), (39, u "serialPersistentFields"), (0, u "[Ljava/io/ObjectStreamField;"), (0, .class_ 1104), (0, u "java/lang/String$CaseInsensitiveComparator"), (1, .class_ 1107), (0, u "java/io/Serializable"), (0, .class_ 1109), (0, u "java/lang/Comparable"), (0, .class_ 1111), (0, u "java/lang/constant/Constable"), (0, .class_ 1113), (0, u "java/lang/constant/ConstantDesc"), (2, u "serialVersionUID"), (0, u "J"), (3, u "REPL"), (0, u "C"), (2, u "LATIN1"), (1, u "UTF16"), (105, u "(Ljava/lang/StringBuilder;)V")] 217

def k7m0 : Method := { name := "<init>", desc := "()V", sig := { parameters := [], returnType := none }, accessFlags := 1, code := none }
def k7c1 : Code := { maxStack := 5, maxLocals := 2, code := jdk_42_method_3_code, exceptionTable := #[], attributes := #[] }
def k7m1 : Method := { name := "<init>", desc := "([C)V", sig := { parameters := [(.array .char)], returnType := none }, accessFlags := 1, code := some k7c1 }
def k7c2 : Code := { maxStack := 3, maxLocals := 2, code := jdk_42_method_53_code, exceptionTable := #[], attributes := #[] }
def k7m2 : Method := { name := "<init>", desc := "(Ljava/lang/StringBuilder;)V", sig := { parameters := [(.object "java/lang/StringBuilder")], returnType := none }, accessFlags := 1, code := some k7c2 }
def k7c3 : Code := { maxStack := 2, maxLocals := 1, code := jdk_42_method_54_code, exceptionTable := #[], attributes := #[] }
def k7m3 : Method := { name := "length", desc := "()I", sig := { parameters := [], returnType := some .int }, accessFlags := 1, code := some k7c3 }
def k7c4 : Code := { maxStack := 2, maxLocals := 2, code := jdk_42_method_56_code, exceptionTable := #[], attributes := #[] }
def k7m4 : Method := { name := "charAt", desc := "(I)C", sig := { parameters := [.int], returnType := some .char }, accessFlags := 1, code := some k7c4 }
def k7c5 : Code := { maxStack := 5, maxLocals := 4, code := jdk_42_method_147_code, exceptionTable := #[], attributes := #[] }
def k7m5 : Method := { name := "getBytes", desc := "([BIB)V", sig := { parameters := [(.array .byte), .int, .byte], returnType := none }, accessFlags := 0, code := some k7c5 }
def k7c6 : Code := { maxStack := 4, maxLocals := 6, code := jdk_42_method_149_code, exceptionTable := #[], attributes := #[] }
def k7m6 : Method := { name := "<init>", desc := "([CIILjava/lang/Void;)V", sig := { parameters := [(.array .char), .int, .int, (.object "java/lang/Void")], returnType := none }, accessFlags := 2, code := some k7c6 }
def k7c7 : Code := { maxStack := 5, maxLocals := 5, code := jdk_42_method_150_code, exceptionTable := #[], attributes := #[] }
def k7m7 : Method := { name := "<init>", desc := "(Ljava/lang/AbstractStringBuilder;Ljava/lang/Void;)V", sig := { parameters := [(.object "java/lang/AbstractStringBuilder"), (.object "java/lang/Void")], returnType := none }, accessFlags := 0, code := some k7c7 }
def k7c8 : Code := { maxStack := 1, maxLocals := 1, code := jdk_42_method_152_code, exceptionTable := #[], attributes := #[] }
def k7m8 : Method := { name := "coder", desc := "()B", sig := { parameters := [], returnType := some .byte }, accessFlags := 0, code := some k7c8 }
def k7c9 : Code := { maxStack := 1, maxLocals := 1, code := jdk_42_method_154_code, exceptionTable := #[], attributes := #[] }
def k7m9 : Method := { name := "isLatin1", desc := "()Z", sig := { parameters := [], returnType := some .boolean }, accessFlags := 0, code := some k7c9 }
def k7c10 : Code := { maxStack := 3, maxLocals := 2, code := jdk_42_method_155_code, exceptionTable := #[], attributes := #[] }
def k7m10 : Method := { name := "checkIndex", desc := "(II)V", sig := { parameters := [.int, .int], returnType := none }, accessFlags := 8, code := some k7c10 }
/-- java/lang/String -/
def k7 : Class := { plain "java/lang/String" (some 0) with
  accessFlags := 49
  interfaces := #[2, 3, 4, 5, 6]
  cf := some (fileOf pool7 10 #[.nestMembers #[1103]] #[{ accessFlags := 1, nameIndex := 5, descriptorIndex := 6, attributes := #[] }, { accessFlags := 1, nameIndex := 5, descriptorIndex := 1010, attributes := #[] }, { accessFlags := 1, nameIndex := 5, descriptorIndex := 1233, attributes := #[] }, { accessFlags := 1, nameIndex := 507, descriptorIndex := 334, attributes := #[] }, { accessFlags := 1, nameIndex := 497, descriptorIndex := 427, attributes := #[] }, { accessFlags := 0, nameIndex := 532, descriptorIndex := 821, attributes := #[] }, { accessFlags := 2, nameIndex := 5, descriptorIndex := 29, attributes := #[] }, { accessFlags := 0, nameIndex := 5, descriptorIndex := 491, attributes := #[] }, { accessFlags := 0, nameIndex := 17, descriptorIndex := 337, attributes := #[] }, { accessFlags := 0, nameIndex := 494, descriptorIndex := 142, attributes := #[] }, { accessFlags := 8, nameIndex := 501, descriptorIndex := 391, attributes := #[] }] 49 2 #[1106, 1108, 575, 1110, 1112] #[{ accessFlags := 18, nameIndex := 13, descriptorIndex := 14, attributes := #[] }, { accessFlags := 18, nameIndex := 17, descriptorIndex := 18, attributes := #[] }, { accessFlags := 2, nameIndex := 21, descriptorIndex := 22, attributes := #[] }, { accessFlags := 2, nameIndex := 25, descriptorIndex := 26, attributes := #[] }, { accessFlags := 26, nameIndex := 1116, descriptorIndex := 1117, attributes := #[] }, { accessFlags := 24, nameIndex := 40, descriptorIndex := 26, attributes := #[] }, { accessFlags := 26, nameIndex := 1101, descriptorIndex := 1102, attributes := #[] }, { accessFlags := 26, nameIndex := 1121, descriptorIndex := 1122, attributes := #[] }, { accessFlags := 25, nameIndex := 599, descriptorIndex := 600, attributes := #[] }, { accessFlags := 24, nameIndex := 1125, descriptorIndex := 18, attributes := #[] }, { accessFlags := 24, nameIndex := 1127, descriptorIndex := 18, attributes := #[] }])
  fields := #[{ name := "value", type := (.array .byte), accessFlags := 18, slot := 0, constantValue := 0 }, { name := "coder", type := .byte, accessFlags := 18, slot := 1, constantValue := 0 }, { name := "hash", type := .int, accessFlags := 2, slot := 2, constantValue := 0 }, { name := "hashIsZero", type := .boolean, accessFlags := 2, slot := 3, constantValue := 0 }, { name := "serialVersionUID", type := .long, accessFlags := 26, slot := 0, constantValue := 0 }, { name := "COMPACT_STRINGS", type := .boolean, accessFlags := 24, slot := 1, constantValue := 0 }, { name := "serialPersistentFields", type := (.array (.object "java/io/ObjectStreamField")), accessFlags := 26, slot := 2, constantValue := 0 }, { name := "REPL", type := .char, accessFlags := 26, slot := 3, constantValue := 0 }, { name := "CASE_INSENSITIVE_ORDER", type := (.object "java/util/Comparator"), accessFlags := 25, slot := 4, constantValue := 0 }, { name := "LATIN1", type := .byte, accessFlags := 24, slot := 5, constantValue := 0 }, { name := "UTF16", type := .byte, accessFlags := 24, slot := 6, constantValue := 0 }]
  methods := #[k7m0, k7m1, k7m2, k7m3, k7m4, k7m5, k7m6, k7m7, k7m8, k7m9, k7m10]
  instanceTypes := #[(.array .byte), .byte, .int, .boolean]
  staticTypes := #[.long, .boolean, (.array (.object "java/io/ObjectStreamField")), .char, (.object "java/util/Comparator"), .byte, .byte]
  resolved := Array.replicate 1451 none
  statics := some 0 }

def pool8 : Array CpInfo := pool [(6, .class_ 8), (1, u "java/lang/Object"), (0, u "<init>"), (0, u "()V"), (1, .class_ 14), (1, u "java/lang/StringUTF16"), (31, u "$assertionsDisabled"), (0, u "Z"), (13, u "HI_BYTE_SHIFT"), (0, u "I"), (2, u "LO_BYTE_SHIFT"), (49, .methodref 12 116), (0, .nameAndType 117 118), (0, u "compress"), (0, u "([CI[BII)I"), (3, u "([CII)[B"), (138, u "coderFromArrayLen"), (0, u "([BI)B"), (106, .class_ 371), (1, u "java/lang/StringUTF16$LinesSpliterator"), (58, u "MAX_LENGTH"), (196, .class_ 628), (0, u "java/lang/StringUTF16$CodePointsSpliterator"), (0, .class_ 630), (0, u "java/lang/StringUTF16$CharsSpliterator")] 4

def k8m0 : Method := { name := "<init>", desc := "()V", sig := { parameters := [], returnType := none }, accessFlags := 0, code := none }
def k8c1 : Code := { maxStack := 2, maxLocals := 2, code := jdk_52_method_15_code, exceptionTable := #[], attributes := #[] }
def k8m1 : Method := { name := "coderFromArrayLen", desc := "([BI)B", sig := { parameters := [(.array .byte), .int], returnType := some .byte }, accessFlags := 8, code := some k8c1 }
def k8c2 : Code := { maxStack := 5, maxLocals := 6, code := jdk_52_method_16_code, exceptionTable := #[], attributes := #[] }
def k8m2 : Method := { name := "compress", desc := "([CII)[B", sig := { parameters := [(.array .char), .int, .int], returnType := some (.array .byte) }, accessFlags := 9, code := some k8c2 }
def k8c3 : Code := { maxStack := 3, maxLocals := 7, code := jdk_52_method_21_code, exceptionTable := #[], attributes := #[] }
def k8m3 : Method := { name := "compress", desc := "([CI[BII)I", sig := { parameters := [(.array .char), .int, (.array .byte), .int, .int], returnType := some .int }, accessFlags := 9, code := some k8c3 }
/-- java/lang/StringUTF16 -/
def k8 : Class := { plain "java/lang/StringUTF16" (some 0) with
  accessFlags := 48
  interfaces := #[]
  cf := some (fileOf pool8 12 #[.nestMembers #[627, 629, 369]] #[{ accessFlags := 0, nameIndex := 9, descriptorIndex := 10, attributes := #[] }, { accessFlags := 8, nameIndex := 261, descriptorIndex := 262, attributes := #[] }, { accessFlags := 9, nameIndex := 117, descriptorIndex := 122, attributes := #[] }, { accessFlags := 9, nameIndex := 117, descriptorIndex := 118, attributes := #[] }] 48 6 #[] #[{ accessFlags := 26, nameIndex := 61, descriptorIndex := 62, attributes := #[] }, { accessFlags := 26, nameIndex := 65, descriptorIndex := 62, attributes := #[] }, { accessFlags := 24, nameIndex := 430, descriptorIndex := 62, attributes := #[] }, { accessFlags := 4120, nameIndex := 46, descriptorIndex := 47, attributes := #[] }])
  fields := #[{ name := "HI_BYTE_SHIFT", type := .int, accessFlags := 26, slot := 0, constantValue := 0 }, { name := "LO_BYTE_SHIFT", type := .int, accessFlags := 26, slot := 1, constantValue := 0 }, { name := "MAX_LENGTH", type := .int, accessFlags := 24, slot := 2, constantValue := 0 }, { name := "$assertionsDisabled", type := .boolean, accessFlags := 4120, slot := 3, constantValue := 0 }]
  methods := #[k8m0, k8m1, k8m2, k8m3]
  instanceTypes := #[]
  staticTypes := #[.int, .int, .int, .boolean]
  resolved := Array.replicate 635 none
  statics := none }

def pool9 : Array CpInfo := pool [(2, .class_ 4), (0, .nameAndType 5 6), (0, u "java/lang/Object"), (0, u "<init>"), (0, u "()V"), (7, .class_ 16), (1, u "com/example/postback/postback/aurpay/AurpaySignature"), (0, u "key"), (0, u "Lcom/example/postback/postback/HmacKey;"), (0, .class_ 20), (0, u "java/lang/StringBuilder"), (0, .methodref 19 3), (0, .string 23), (0, u "date"), (0, .methodref 25 26), (0, .class_ 27), (0, .nameAndType 28 29), (0, u "java/util/Objects"), (0, u "requireNonNull"), (0, u "(Ljava/lang/Object;Ljava/lang/String;)Ljava/lang/Object;"), (0, .class_ 31), (0, u "java/lang/String"), (0, .methodref 19 33), (0, .nameAndType 34 35), (0, u "append"), (0, u "(Ljava/lang/String;)Ljava/lang/StringBuilder;"), (0, .string 37), (0, u " | "), (0, .string 39), (0, u "url"), (0, .methodref 19 41), (0, .nameAndType 42 43), (0, u "toString"), (0, u "()Ljava/lang/String;"), (2, u "signedString"), (0, u "(Ljava/lang/String;Ljava/lang/String;)Ljava/lang/String;"), (6, u "DATE"), (0, u "Ljava/lang/String;"), (3, u "SIGNATURE")] 9

def k9c0 : Code := { maxStack := 3, maxLocals := 2, code := prog_11_method_2_code, exceptionTable := #[], attributes := #[] }
def k9m0 : Method := { name := "signedString", desc := "(Ljava/lang/String;Ljava/lang/String;)Ljava/lang/String;", sig := { parameters := [(.object "java/lang/String"), (.object "java/lang/String")], returnType := some (.object "java/lang/String") }, accessFlags := 9, code := some k9c0 }
/-- com/example/postback/postback/aurpay/AurpaySignature -/
def k9 : Class := { plain "com/example/postback/postback/aurpay/AurpaySignature" (some 0) with
  accessFlags := 49
  interfaces := #[]
  cf := some (fileOf pool9 14 #[] #[{ accessFlags := 9, nameIndex := 46, descriptorIndex := 47, attributes := #[] }] 49 2 #[] #[{ accessFlags := 24, nameIndex := 54, descriptorIndex := 55, attributes := #[] }, { accessFlags := 24, nameIndex := 59, descriptorIndex := 55, attributes := #[] }, { accessFlags := 18, nameIndex := 17, descriptorIndex := 18, attributes := #[] }])
  fields := #[{ name := "DATE", type := (.object "java/lang/String"), accessFlags := 24, slot := 0, constantValue := 0 }, { name := "SIGNATURE", type := (.object "java/lang/String"), accessFlags := 24, slot := 1, constantValue := 0 }, { name := "key", type := (.object "com/example/postback/postback/HmacKey"), accessFlags := 18, slot := 0, constantValue := 0 }]
  methods := #[k9m0]
  instanceTypes := #[(.object "com/example/postback/postback/HmacKey")]
  staticTypes := #[(.object "java/lang/String"), (.object "java/lang/String")]
  resolved := Array.replicate 69 none
  statics := none }

def pool10 : Array CpInfo := pool [(1, .class_ 2), (0, u "java/lang/Appendable"), (0, .class_ 4), (0, u "java/lang/Object")] 9

/-- java/lang/Appendable -/
def k10 : Class := { plain "java/lang/Appendable" (some 0) with
  accessFlags := 1537
  interfaces := #[]
  cf := some (fileOf pool10 1 #[] #[] 1537 3 #[] #[])
  fields := #[]
  methods := #[]
  instanceTypes := #[]
  staticTypes := #[]
  resolved := Array.replicate 14 none
  statics := none }

def pool11 : Array CpInfo := pool [(1, .class_ 2), (0, u "java/lang/String"), (0, .methodref 4 5), (0, .class_ 6), (0, .nameAndType 7 8), (0, u "java/lang/Object"), (0, u "<init>"), (0, u "()V"), (1, .class_ 12), (1, u "java/lang/AbstractStringBuilder"), (0, u "EMPTYVALUE"), (0, u "[B"), (0, .fieldref 10 16), (0, .nameAndType 17 14), (0, u "value"), (0, .fieldref 1 19), (0, .nameAndType 20 21), (0, u "COMPACT_STRINGS"), (0, u "Z"), (0, .fieldref 10 23), (0, .nameAndType 24 25), (0, u "coder"), (0, u "B"), (6, .methodref 1 33), (0, .nameAndType 34 35), (0, u "length"), (0, u "()I"), (4, .methodref 1 41), (0, .nameAndType 24 42), (0, u "()B"), (2, u "append"), (0, u "(Ljava/lang/String;)Ljava/lang/AbstractStringBuilder;"), (1, .class_ 49), (0, u "java/lang/CharSequence"), (19, u "(Ljava/lang/String;)V"), (5, u "maybeLatin1"), (3, .fieldref 10 80), (0, .nameAndType 81 82), (0, u "count"), (0, u "I"), (2, u "isLatin1"), (0, u "()Z"), (13, .methodref 10 101), (0, .nameAndType 102 103), (0, u "ensureCapacityInternal"), (0, u "(I)V"), (104, .methodref 10 209), (0, .nameAndType 210 211), (0, u "putStringAt"), (0, u "(ILjava/lang/String;)V"), (5, u "inflateIfNeededFor"), (2, .nameAndType 221 222), (0, u "getBytes"), (0, u "([BIB)V"), (174, .methodref 10 398), (0, .nameAndType 217 69), (0, .methodref 1 220), (3, u "()[B"), (40, .class_ 445), (0, u "java/lang/Appendable"), (106, u "getValue")] 56

def k11m0 : Method := { name := "<init>", desc := "()V", sig := { parameters := [], returnType := none }, accessFlags := 0, code := none }
def k11c1 : Code := { maxStack := 2, maxLocals := 2, code := jdk_68_method_2_code, exceptionTable := #[], attributes := #[] }
def k11m1 : Method := { name := "<init>", desc := "(I)V", sig := { parameters := [.int], returnType := none }, accessFlags := 0, code := some k11c1 }
def k11c2 : Code := { maxStack := 1, maxLocals := 1, code := jdk_68_method_6_code, exceptionTable := #[], attributes := #[] }
def k11m2 : Method := { name := "length", desc := "()I", sig := { parameters := [], returnType := some .int }, accessFlags := 1, code := some k11c2 }
def k11c3 : Code := { maxStack := 4, maxLocals := 3, code := jdk_68_method_9_code, exceptionTable := #[], attributes := #[] }
def k11m3 : Method := { name := "ensureCapacityInternal", desc := "(I)V", sig := { parameters := [.int], returnType := none }, accessFlags := 2, code := some k11c3 }
def k11c4 : Code := { maxStack := 3, maxLocals := 3, code := jdk_68_method_22_code, exceptionTable := #[], attributes := #[] }
def k11m4 : Method := { name := "append", desc := "(Ljava/lang/String;)Ljava/lang/AbstractStringBuilder;", sig := { parameters := [(.object "java/lang/String")], returnType := some (.object "java/lang/AbstractStringBuilder") }, accessFlags := 1, code := some k11c4 }
def k11c5 : Code := { maxStack := 1, maxLocals := 1, code := jdk_68_method_64_code, exceptionTable := #[], attributes := #[] }
def k11m5 : Method := { name := "getValue", desc := "()[B", sig := { parameters := [], returnType := some (.array .byte) }, accessFlags := 16, code := some k11c5 }
def k11c6 : Code := { maxStack := 1, maxLocals := 1, code := jdk_68_method_68_code, exceptionTable := #[], attributes := #[] }
def k11m6 : Method := { name := "isLatin1", desc := "()Z", sig := { parameters := [], returnType := some .boolean }, accessFlags := 16, code := some k11c6 }
def k11c7 : Code := { maxStack := 2, maxLocals := 2, code := jdk_68_method_71_code, exceptionTable := #[], attributes := #[] }
def k11m7 : Method := { name := "inflateIfNeededFor", desc := "(Ljava/lang/String;)V", sig := { parameters := [(.object "java/lang/String")], returnType := none }, accessFlags := 2, code := some k11c7 }
def k11c8 : Code := { maxStack := 4, maxLocals := 3, code := jdk_68_method_73_code, exceptionTable := #[], attributes := #[] }
def k11m8 : Method := { name := "putStringAt", desc := "(ILjava/lang/String;)V", sig := { parameters := [.int, (.object "java/lang/String")], returnType := none }, accessFlags := 2, code := some k11c8 }
/-- java/lang/AbstractStringBuilder -/
def k11 : Class := { plain "java/lang/AbstractStringBuilder" (some 0) with
  accessFlags := 1056
  interfaces := #[10, 4]
  cf := some (fileOf pool11 10 #[] #[{ accessFlags := 0, nameIndex := 7, descriptorIndex := 8, attributes := #[] }, { accessFlags := 0, nameIndex := 7, descriptorIndex := 103, attributes := #[] }, { accessFlags := 1, nameIndex := 34, descriptorIndex := 35, attributes := #[] }, { accessFlags := 2, nameIndex := 102, descriptorIndex := 103, attributes := #[] }, { accessFlags := 1, nameIndex := 45, descriptorIndex := 46, attributes := #[] }, { accessFlags := 16, nameIndex := 552, descriptorIndex := 403, attributes := #[] }, { accessFlags := 16, nameIndex := 85, descriptorIndex := 86, attributes := #[] }, { accessFlags := 2, nameIndex := 217, descriptorIndex := 69, attributes := #[] }, { accessFlags := 2, nameIndex := 210, descriptorIndex := 211, attributes := #[] }] 1056 4 #[444, 48] #[{ accessFlags := 0, nameIndex := 17, descriptorIndex := 14, attributes := #[] }, { accessFlags := 0, nameIndex := 24, descriptorIndex := 25, attributes := #[] }, { accessFlags := 0, nameIndex := 75, descriptorIndex := 21, attributes := #[] }, { accessFlags := 0, nameIndex := 81, descriptorIndex := 82, attributes := #[] }, { accessFlags := 26, nameIndex := 13, descriptorIndex := 14, attributes := #[] }])
  fields := #[{ name := "value", type := (.array .byte), accessFlags := 0, slot := 0, constantValue := 0 }, { name := "coder", type := .byte, accessFlags := 0, slot := 1, constantValue := 0 }, { name := "maybeLatin1", type := .boolean, accessFlags := 0, slot := 2, constantValue := 0 }, { name := "count", type := .int, accessFlags := 0, slot := 3, constantValue := 0 }, { name := "EMPTYVALUE", type := (.array .byte), accessFlags := 26, slot := 0, constantValue := 0 }]
  methods := #[k11m0, k11m1, k11m2, k11m3, k11m4, k11m5, k11m6, k11m7, k11m8]
  instanceTypes := #[(.array .byte), .byte, .boolean, .int]
  staticTypes := #[(.array .byte)]
  resolved := Array.replicate 609 none
  statics := none }

def pool12 : Array CpInfo := pool [(1, .methodref 2 3), (0, .class_ 4), (0, .nameAndType 5 6), (0, u "java/lang/AbstractStringBuilder"), (0, u "<init>"), (0, u "(I)V"), (11, .class_ 20), (1, u "java/lang/String"), (3, .class_ 26), (1, u "java/lang/StringBuilder"), (0, u "append"), (0, u "(Ljava/lang/String;)Ljava/lang/StringBuilder;"), (0, .methodref 2 30), (0, .nameAndType 27 31), (0, u "(Ljava/lang/String;)Ljava/lang/AbstractStringBuilder;"), (105, .methodref 18 138), (0, .nameAndType 5 139), (0, u "(Ljava/lang/StringBuilder;)V"), (5, u "()V"), (10, u "()I"), (186, .methodref 2 344), (0, .nameAndType 345 156), (0, u "length"), (3, .class_ 350), (0, u "java/lang/Appendable"), (0, .class_ 352), (0, u "java/io/Serializable"), (0, .class_ 354), (0, u "java/lang/Comparable"), (0, .class_ 356), (0, u "java/lang/CharSequence"), (0, u "serialVersionUID"), (0, u "J"), (40, u "toString"), (0, u "()Ljava/lang/String;")] 21

def k12c0 : Code := { maxStack := 2, maxLocals := 1, code := jdk_67_method_1_code, exceptionTable := #[], attributes := #[] }
def k12m0 : Method := { name := "<init>", desc := "()V", sig := { parameters := [], returnType := none }, accessFlags := 1, code := some k12c0 }
def k12c1 : Code := { maxStack := 2, maxLocals := 2, code := jdk_67_method_7_code, exceptionTable := #[], attributes := #[] }
def k12m1 : Method := { name := "append", desc := "(Ljava/lang/String;)Ljava/lang/StringBuilder;", sig := { parameters := [(.object "java/lang/String")], returnType := some (.object "java/lang/StringBuilder") }, accessFlags := 1, code := some k12c1 }
def k12c2 : Code := { maxStack := 3, maxLocals := 1, code := jdk_67_method_42_code, exceptionTable := #[], attributes := #[] }
def k12m2 : Method := { name := "toString", desc := "()Ljava/lang/String;", sig := { parameters := [], returnType := some (.object "java/lang/String") }, accessFlags := 1, code := some k12c2 }
def k12c3 : Code := { maxStack := 1, maxLocals := 1, code := jdk_67_method_93_code, exceptionTable := #[], attributes := #[] }
def k12m3 : Method := { name := "length", desc := "()I", sig := { parameters := [], returnType := some .int }, accessFlags := 4161, code := some k12c3 }
/-- java/lang/StringBuilder -/
def k12 : Class := { plain "java/lang/StringBuilder" (some 11) with
  accessFlags := 49
  interfaces := #[10, 2, 3, 4]
  cf := some (fileOf pool12 24 #[] #[{ accessFlags := 1, nameIndex := 5, descriptorIndex := 145, attributes := #[] }, { accessFlags := 1, nameIndex := 27, descriptorIndex := 28, attributes := #[] }, { accessFlags := 1, nameIndex := 399, descriptorIndex := 400, attributes := #[] }, { accessFlags := 4161, nameIndex := 345, descriptorIndex := 156, attributes := #[] }] 49 2 #[349, 351, 353, 355] #[{ accessFlags := 24, nameIndex := 357, descriptorIndex := 358, attributes := #[] }])
  fields := #[{ name := "serialVersionUID", type := .long, accessFlags := 24, slot := 0, constantValue := 0 }]
  methods := #[k12m0, k12m1, k12m2, k12m3]
  instanceTypes := #[(.array .byte), .byte, .boolean, .int]
  staticTypes := #[.long]
  resolved := Array.replicate 422 none
  statics := none }

def pool13 : Array CpInfo := pool [(2, .class_ 4), (1, u "java/lang/Object"), (0, u "<init>"), (0, u "()V"), (35, .class_ 44), (1, u "java/util/Objects"), (0, u "requireNonNull"), (48, u "(Ljava/lang/Object;Ljava/lang/String;)Ljava/lang/Object;")] 89

def k13m0 : Method := { name := "<init>", desc := "()V", sig := { parameters := [], returnType := none }, accessFlags := 2, code := none }
def k13c1 : Code := { maxStack := 3, maxLocals := 2, code := jdk_31_method_11_code, exceptionTable := #[], attributes := #[] }
def k13m1 : Method := { name := "requireNonNull", desc := "(Ljava/lang/Object;Ljava/lang/String;)Ljava/lang/Object;", sig := { parameters := [(.object "java/lang/Object"), (.object "java/lang/String")], returnType := some (.object "java/lang/Object") }, accessFlags := 9, code := some k13c1 }
/-- java/util/Objects -/
def k13 : Class := { plain "java/util/Objects" (some 0) with
  accessFlags := 49
  interfaces := #[]
  cf := some (fileOf pool13 42 #[] #[{ accessFlags := 2, nameIndex := 5, descriptorIndex := 6, attributes := #[] }, { accessFlags := 9, nameIndex := 45, descriptorIndex := 94, attributes := #[] }] 49 2 #[] #[])
  fields := #[]
  methods := #[k13m0, k13m1]
  instanceTypes := #[]
  staticTypes := #[]
  resolved := Array.replicate 184 none
  statics := none }

def pool14 : Array CpInfo := pool [(2, .class_ 4), (1, u "java/lang/Object"), (0, u "<init>"), (0, u "()V"), (1, .class_ 10), (1, u "java/lang/System"), (0, u "allowSecurityManager"), (0, u "I"), (16, u "cons"), (0, u "Ljava/io/Console;"), (77, .class_ 110), (1, u "java/lang/System$CallersHolder"), (43, u "initialErrStream"), (0, u "Ljava/io/PrintStream;"), (19, u "security"), (0, u "Ljava/lang/SecurityManager;"), (31, .class_ 209), (0, u "java/lang/System$1"), (7, u "props"), (0, u "Ljava/util/Properties;"), (2, u "lineSeparator"), (0, u "Ljava/lang/String;"), (96, .class_ 321), (1, u "java/lang/System$LoggerFinder"), (5, .class_ 328), (0, u "java/lang/System$Logger"), (67, u "err"), (2, u "out"), (91, u "notSupportedJnuEncoding"), (15, u "in"), (17, u "initialIn"), (0, u "Ljava/io/InputStream;"), (35, u "bootLayer"), (0, u "Ljava/lang/ModuleLayer;"), (99, .class_ 664), (0, u "java/lang/System$2"), (9, u "NEVER"), (2, u "MAYBE"), (49, u "arraycopy"), (0, u "(Ljava/lang/Object;ILjava/lang/Object;II)V"), (72, .class_ 802), (0, u "java/lang/System$Logger$Level")] 31

def k14m0 : Method := { name := "<init>", desc := "()V", sig := { parameters := [], returnType := none }, accessFlags := 2, code := none }
def k14m1 : Method := { name := "arraycopy", desc := "(Ljava/lang/Object;ILjava/lang/Object;II)V", sig := { parameters := [(.object "java/lang/Object"), .int, (.object "java/lang/Object"), .int, .int], returnType := none }, accessFlags := 265, code := none }
/-- java/lang/System -/
def k14 : Class := { plain "java/lang/System" (some 0) with
  accessFlags := 49
  interfaces := #[]
  cf := some (fileOf pool14 8 #[.nestMembers #[319, 327, 801, 108, 663, 208]] #[{ accessFlags := 2, nameIndex := 5, descriptorIndex := 6, attributes := #[] }, { accessFlags := 265, nameIndex := 727, descriptorIndex := 728, attributes := #[] }] 49 2 #[] #[{ accessFlags := 25, nameIndex := 507, descriptorIndex := 526, attributes := #[] }, { accessFlags := 25, nameIndex := 399, descriptorIndex := 155, attributes := #[] }, { accessFlags := 25, nameIndex := 396, descriptorIndex := 155, attributes := #[] }, { accessFlags := 10, nameIndex := 525, descriptorIndex := 526, attributes := #[] }, { accessFlags := 26, nameIndex := 674, descriptorIndex := 12, attributes := #[] }, { accessFlags := 26, nameIndex := 677, descriptorIndex := 12, attributes := #[] }, { accessFlags := 10, nameIndex := 11, descriptorIndex := 12, attributes := #[] }, { accessFlags := 74, nameIndex := 175, descriptorIndex := 176, attributes := #[] }, { accessFlags := 10, nameIndex := 491, descriptorIndex := 222, attributes := #[] }, { accessFlags := 74, nameIndex := 29, descriptorIndex := 30, attributes := #[] }, { accessFlags := 74, nameIndex := 154, descriptorIndex := 155, attributes := #[] }, { accessFlags := 10, nameIndex := 217, descriptorIndex := 218, attributes := #[] }, { accessFlags := 10, nameIndex := 221, descriptorIndex := 222, attributes := #[] }, { accessFlags := 8, nameIndex := 562, descriptorIndex := 563, attributes := #[] }])
  fields := #[{ name := "in", type := (.object "java/io/InputStream"), accessFlags := 25, slot := 0, constantValue := 0 }, { name := "out", type := (.object "java/io/PrintStream"), accessFlags := 25, slot := 1, constantValue := 0 }, { name := "err", type := (.object "java/io/PrintStream"), accessFlags := 25, slot := 2, constantValue := 0 }, { name := "initialIn", type := (.object "java/io/InputStream"), accessFlags := 10, slot := 3, constantValue := 0 }, { name := "NEVER", type := .int, accessFlags := 26, slot := 4, constantValue := 0 }, { name := "MAYBE", type := .int, accessFlags := 26, slot := 5, constantValue := 0 }, { name := "allowSecurityManager", type := .int, accessFlags := 10, slot := 6, constantValue := 0 }, { name := "security", type := (.object "java/lang/SecurityManager"), accessFlags := 74, slot := 7, constantValue := 0 }, { name := "notSupportedJnuEncoding", type := (.object "java/lang/String"), accessFlags := 10, slot := 8, constantValue := 0 }, { name := "cons", type := (.object "java/io/Console"), accessFlags := 74, slot := 9, constantValue := 0 }, { name := "initialErrStream", type := (.object "java/io/PrintStream"), accessFlags := 74, slot := 10, constantValue := 0 }, { name := "props", type := (.object "java/util/Properties"), accessFlags := 10, slot := 11, constantValue := 0 }, { name := "lineSeparator", type := (.object "java/lang/String"), accessFlags := 10, slot := 12, constantValue := 0 }, { name := "bootLayer", type := (.object "java/lang/ModuleLayer"), accessFlags := 8, slot := 13, constantValue := 0 }]
  methods := #[k14m0, k14m1]
  instanceTypes := #[]
  staticTypes := #[(.object "java/io/InputStream"), (.object "java/io/PrintStream"), (.object "java/io/PrintStream"), (.object "java/io/InputStream"), .int, .int, .int, (.object "java/lang/SecurityManager"), (.object "java/lang/String"), (.object "java/io/Console"), (.object "java/io/PrintStream"), (.object "java/util/Properties"), (.object "java/lang/String"), (.object "java/lang/ModuleLayer")]
  resolved := Array.replicate 834 none
  statics := none }

def pool15 : Array CpInfo := pool [(2, .class_ 4), (1, u "java/lang/Object"), (0, u "<init>"), (0, u "()V"), (7, .class_ 16), (1, u "java/util/Arrays"), (57, .class_ 76), (1, u "java/util/Arrays$NaturalOrder"), (36, .class_ 115), (1, u "java/util/Arrays$LegacyMergeSort"), (1, u "Z"), (21, u "copyOfRange"), (10, .methodref 151 152), (0, .class_ 153), (0, .nameAndType 154 155), (0, u "java/lang/System"), (0, u "arraycopy"), (0, u "(Ljava/lang/Object;ILjava/lang/Object;II)V"), (148, .methodref 305 306), (0, .class_ 307), (0, .nameAndType 308 309), (0, u "java/lang/Math"), (0, u "min"), (0, u "(II)I"), (29, .methodref 14 340), (0, .nameAndType 341 342), (0, u "copyOfRangeByte"), (0, u "([BII)[B"), (0, .methodref 14 344), (0, .nameAndType 345 346), (0, u "checkLength"), (0, u "(II)V"), (28, .class_ 376), (0, u "java/util/Arrays$ArrayList"), (68, u "$assertionsDisabled"), (269, u "MIN_ARRAY_SORT_GRAN"), (0, u "I"), (2, u "INSERTIONSORT_THRESHOLD"), (255, .class_ 976), (0, u "java/util/Arrays$ArrayItr")] 52

def k15m0 : Method := { name := "<init>", desc := "()V", sig := { parameters := [], returnType := none }, accessFlags := 2, code := none }
def k15c1 : Code := { maxStack := 4, maxLocals := 2, code := jdk_65_method_131_code, exceptionTable := #[], attributes := #[] }
def k15m1 : Method := { name := "checkLength", desc := "(II)V", sig := { parameters := [.int, .int], returnType := none }, accessFlags := 10, code := some k15c1 }
def k15c2 : Code := { maxStack := 3, maxLocals := 3, code := jdk_65_method_132_code, exceptionTable := #[], attributes := #[] }
def k15m2 : Method := { name := "copyOfRange", desc := "([BII)[B", sig := { parameters := [(.array .byte), .int, .int], returnType := some (.array .byte) }, accessFlags := 9, code := some k15c2 }
def k15c3 : Code := { maxStack := 6, maxLocals := 5, code := jdk_65_method_133_code, exceptionTable := #[], attributes := #[] }
def k15m3 : Method := { name := "copyOfRangeByte", desc := "([BII)[B", sig := { parameters := [(.array .byte), .int, .int], returnType := some (.array .byte) }, accessFlags := 10, code := some k15c3 }
/-- java/util/Arrays -/
def k15 : Class := { plain "java/util/Arrays" (some 0) with
  accessFlags := 49
  interfaces := #[]
  cf := some (fileOf pool15 14 #[.nestMembers #[975, 375, 113, 74]] #[{ accessFlags := 2, nameIndex := 5, descriptorIndex := 6, attributes := #[] }, { accessFlags := 10, nameIndex := 345, descriptorIndex := 346, attributes := #[] }, { accessFlags := 9, nameIndex := 139, descriptorIndex := 342, attributes := #[] }, { accessFlags := 10, nameIndex := 341, descriptorIndex := 342, attributes := #[] }] 49 2 #[] #[{ accessFlags := 26, nameIndex := 715, descriptorIndex := 716, attributes := #[] }, { accessFlags := 26, nameIndex := 719, descriptorIndex := 716, attributes := #[] }, { accessFlags := 4120, nameIndex := 445, descriptorIndex := 117, attributes := #[] }])
  fields := #[{ name := "MIN_ARRAY_SORT_GRAN", type := .int, accessFlags := 26, slot := 0, constantValue := 0 }, { name := "INSERTIONSORT_THRESHOLD", type := .int, accessFlags := 26, slot := 1, constantValue := 0 }, { name := "$assertionsDisabled", type := .boolean, accessFlags := 4120, slot := 2, constantValue := 0 }]
  methods := #[k15m0, k15m1, k15m2, k15m3]
  instanceTypes := #[]
  staticTypes := #[.int, .int, .boolean]
  resolved := Array.replicate 1029 none
  statics := none }

def pool16 : Array CpInfo := pool [(1, .class_ 2), (0, u "java/lang/Math"), (1, .class_ 6), (1, u "java/lang/Object"), (0, u "<init>"), (0, u "()V"), (89, .class_ 100), (1, u "java/lang/Math$RandomNumberGeneratorHolder"), (71, u "negativeZeroFloatBits"), (0, u "J"), (2, u "negativeZeroDoubleBits"), (24, u "min"), (43, u "$assertionsDisabled"), (0, u "Z"), (88, u "(II)I"), (2, u "twoToTheDoubleScaleDown"), (0, u "D"), (4, u "twoToTheDoubleScaleUp"), (9, u "E"), (3, u "PI"), (2, u "TAU"), (2, u "DEGREES_TO_RADIANS"), (0, u "RADIANS_TO_DEGREES")] 94

def k16m0 : Method := { name := "<init>", desc := "()V", sig := { parameters := [], returnType := none }, accessFlags := 2, code := none }
def k16c1 : Code := { maxStack := 2, maxLocals := 2, code := jdk_29_method_69_code, exceptionTable := #[], attributes := #[] }
def k16m1 : Method := { name := "min", desc := "(II)I", sig := { parameters := [.int, .int], returnType := some .int }, accessFlags := 9, code := some k16c1 }
/-- java/lang/Math -/
def k16 : Class := { plain "java/lang/Math" (some 0) with
  accessFlags := 49
  interfaces := #[]
  cf := some (fileOf pool16 1 #[.nestMembers #[98]] #[{ accessFlags := 2, nameIndex := 7, descriptorIndex := 8, attributes := #[] }, { accessFlags := 9, nameIndex := 201, descriptorIndex := 335, attributes := #[] }] 49 4 #[] #[{ accessFlags := 25, nameIndex := 354, descriptorIndex := 339, attributes := #[] }, { accessFlags := 25, nameIndex := 358, descriptorIndex := 339, attributes := #[] }, { accessFlags := 25, nameIndex := 361, descriptorIndex := 339, attributes := #[] }, { accessFlags := 26, nameIndex := 364, descriptorIndex := 339, attributes := #[] }, { accessFlags := 26, nameIndex := 365, descriptorIndex := 339, attributes := #[] }, { accessFlags := 26, nameIndex := 172, descriptorIndex := 173, attributes := #[] }, { accessFlags := 26, nameIndex := 176, descriptorIndex := 173, attributes := #[] }, { accessFlags := 8, nameIndex := 344, descriptorIndex := 339, attributes := #[] }, { accessFlags := 8, nameIndex := 338, descriptorIndex := 339, attributes := #[] }, { accessFlags := 4120, nameIndex := 245, descriptorIndex := 246, attributes := #[] }])
  fields := #[{ name := "E", type := .double, accessFlags := 25, slot := 0, constantValue := 0 }, { name := "PI", type := .double, accessFlags := 25, slot := 1, constantValue := 0 }, { name := "TAU", type := .double, accessFlags := 25, slot := 2, constantValue := 0 }, { name := "DEGREES_TO_RADIANS", type := .double, accessFlags := 26, slot := 3, constantValue := 0 }, { name := "RADIANS_TO_DEGREES", type := .double, accessFlags := 26, slot := 4, constantValue := 0 }, { name := "negativeZeroFloatBits", type := .long, accessFlags := 26, slot := 5, constantValue := 0 }, { name := "negativeZeroDoubleBits", type := .long, accessFlags := 26, slot := 6, constantValue := 0 }, { name := "twoToTheDoubleScaleUp", type := .double, accessFlags := 8, slot := 7, constantValue := 0 }, { name := "twoToTheDoubleScaleDown", type := .double, accessFlags := 8, slot := 8, constantValue := 0 }, { name := "$assertionsDisabled", type := .boolean, accessFlags := 4120, slot := 9, constantValue := 0 }]
  methods := #[k16m0, k16m1]
  instanceTypes := #[]
  staticTypes := #[.double, .double, .double, .double, .double, .long, .long, .double, .double, .boolean]
  resolved := Array.replicate 460 none
  statics := none }

def pool17 : Array CpInfo := pool [(1, .class_ 2), (0, u "java/lang/String"), (1, .class_ 6), (1, u "java/lang/Object"), (0, u "<init>"), (0, u "()V"), (0, .methodref 1 10), (0, .nameAndType 11 12), (0, u "checkIndex"), (0, u "(II)V"), (1, .class_ 16), (1, u "java/lang/StringLatin1"), (36, u "([BI)C"), (67, u "$assertionsDisabled"), (0, u "Z"), (98, .class_ 223), (1, u "java/lang/StringLatin1$LinesSpliterator"), (28, u "charAt"), (137, .class_ 391), (0, u "java/lang/StringLatin1$CharsSpliterator")] 3

def k17m0 : Method := { name := "<init>", desc := "()V", sig := { parameters := [], returnType := none }, accessFlags := 0, code := none }
def k17c1 : Code := { maxStack := 2, maxLocals := 2, code := jdk_43_method_2_code, exceptionTable := #[], attributes := #[] }
def k17m1 : Method := { name := "charAt", desc := "([BI)C", sig := { parameters := [(.array .byte), .int], returnType := some .char }, accessFlags := 9, code := some k17c1 }
/-- java/lang/StringLatin1 -/
def k17 : Class := { plain "java/lang/StringLatin1" (some 0) with
  accessFlags := 48
  interfaces := #[]
  cf := some (fileOf pool17 14 #[.nestMembers #[390, 221]] #[{ accessFlags := 0, nameIndex := 7, descriptorIndex := 8, attributes := #[] }, { accessFlags := 9, nameIndex := 252, descriptorIndex := 53, attributes := #[] }] 48 4 #[] #[{ accessFlags := 4120, nameIndex := 121, descriptorIndex := 122, attributes := #[] }])
  fields := #[{ name := "$assertionsDisabled", type := .boolean, accessFlags := 4120, slot := 0, constantValue := 0 }]
  methods := #[k17m0, k17m1]
  instanceTypes := #[]
  staticTypes := #[.boolean]
  resolved := Array.replicate 395 none
  statics := none }

def pool18 : Array CpInfo := pool [(2, .class_ 4), (1, u "java/lang/Object"), (0, u "<init>"), (0, u "()V"), (17, .class_ 26), (1, u "jdk/internal/util/Preconditions"), (6, u "checkIndex"), (21, .class_ 56), (0, u "jdk/internal/util/Preconditions$4"), (57, .class_ 115), (0, u "jdk/internal/util/Preconditions$1"), (7, u "SIOOBE_FORMATTER"), (0, u "Ljava/util/function/BiFunction;"), (0, .class_ 126), (0, u "jdk/internal/util/Preconditions$2"), (3, u "AIOOBE_FORMATTER"), (0, .class_ 132), (0, u "jdk/internal/util/Preconditions$3"), (3, u "IOOBE_FORMATTER"), (41, u "(IILjava/util/function/BiFunction;)I")] 15

def k18m0 : Method := { name := "<init>", desc := "()V", sig := { parameters := [], returnType := none }, accessFlags := 1, code := none }
def k18c1 : Code := { maxStack := 3, maxLocals := 3, code := jdk_41_method_11_code, exceptionTable := #[], attributes := #[] }
def k18m1 : Method := { name := "checkIndex", desc := "(IILjava/util/function/BiFunction;)I", sig := { parameters := [.int, .int, (.object "java/util/function/BiFunction")], returnType := some .int }, accessFlags := 9, code := some k18c1 }
/-- jdk/internal/util/Preconditions -/
def k18 : Class := { plain "jdk/internal/util/Preconditions" (some 0) with
  accessFlags := 33
  interfaces := #[]
  cf := some (fileOf pool18 24 #[.nestMembers #[55, 131, 125, 114]] #[{ accessFlags := 1, nameIndex := 5, descriptorIndex := 6, attributes := #[] }, { accessFlags := 9, nameIndex := 33, descriptorIndex := 178, attributes := #[] }] 33 2 #[] #[{ accessFlags := 25, nameIndex := 123, descriptorIndex := 124, attributes := #[] }, { accessFlags := 25, nameIndex := 130, descriptorIndex := 124, attributes := #[] }, { accessFlags := 25, nameIndex := 136, descriptorIndex := 124, attributes := #[] }])
  fields := #[{ name := "SIOOBE_FORMATTER", type := (.object "java/util/function/BiFunction"), accessFlags := 25, slot := 0, constantValue := 0 }, { name := "AIOOBE_FORMATTER", type := (.object "java/util/function/BiFunction"), accessFlags := 25, slot := 1, constantValue := 0 }, { name := "IOOBE_FORMATTER", type := (.object "java/util/function/BiFunction"), accessFlags := 25, slot := 2, constantValue := 0 }]
  methods := #[k18m0, k18m1]
  instanceTypes := #[]
  staticTypes := #[(.object "java/util/function/BiFunction"), (.object "java/util/function/BiFunction"), (.object "java/util/function/BiFunction")]
  resolved := Array.replicate 194 none
  statics := some 1 }

def pool19 : Array CpInfo := pool [(9, u "<init>"), (6, .class_ 18), (1, u "java/lang/Object"), (0, u "()V"), (1, .class_ 23), (1, u "jdk/internal/util/ArraysSupport"), (0, u "LOG2_ARRAY_LONG_INDEX_SCALE"), (0, u "I"), (2, u "U"), (0, u "Ljdk/internal/misc/Unsafe;"), (8, u "BIG_ENDIAN"), (0, u "Z"), (8, u "LOG2_BYTE_BIT_SIZE"), (4, u "LOG2_ARRAY_INT_INDEX_SCALE"), (54, u "JLA"), (0, u "Ljdk/internal/access/JavaLangAccess;"), (11, u "LOG2_ARRAY_BOOLEAN_INDEX_SCALE"), (9, u "LOG2_ARRAY_BYTE_INDEX_SCALE"), (5, u "LOG2_ARRAY_CHAR_INDEX_SCALE"), (5, u "LOG2_ARRAY_SHORT_INDEX_SCALE"), (18, u "LOG2_ARRAY_FLOAT_INDEX_SCALE"), (24, u "LOG2_ARRAY_DOUBLE_INDEX_SCALE"), (89, u "T_BOOLEAN"), (2, u "T_CHAR"), (1, u "T_FLOAT"), (1, u "T_DOUBLE"), (1, u "T_BYTE"), (1, u "T_SHORT"), (1, u "T_INT"), (1, u "T_LONG"), (1, u "SOFT_MAX_ARRAY_LENGTH")] 83

def k19m0 : Method := { name := "<init>", desc := "()V", sig := { parameters := [], returnType := none }, accessFlags := 2, code := none }
/-- jdk/internal/util/ArraysSupport -/
def k19 : Class := { plain "jdk/internal/util/ArraysSupport" (some 0) with
  accessFlags := 33
  interfaces := #[]
  cf := some (fileOf pool19 21 #[] #[{ accessFlags := 2, nameIndex := 9, descriptorIndex := 19, attributes := #[] }] 33 16 #[] #[{ accessFlags := 24, nameIndex := 28, descriptorIndex := 29, attributes := #[] }, { accessFlags := 26, nameIndex := 38, descriptorIndex := 39, attributes := #[] }, { accessFlags := 25, nameIndex := 121, descriptorIndex := 25, attributes := #[] }, { accessFlags := 25, nameIndex := 131, descriptorIndex := 25, attributes := #[] }, { accessFlags := 25, nameIndex := 137, descriptorIndex := 25, attributes := #[] }, { accessFlags := 25, nameIndex := 143, descriptorIndex := 25, attributes := #[] }, { accessFlags := 25, nameIndex := 53, descriptorIndex := 25, attributes := #[] }, { accessFlags := 25, nameIndex := 24, descriptorIndex := 25, attributes := #[] }, { accessFlags := 25, nameIndex := 162, descriptorIndex := 25, attributes := #[] }, { accessFlags := 25, nameIndex := 187, descriptorIndex := 25, attributes := #[] }, { accessFlags := 26, nameIndex := 48, descriptorIndex := 25, attributes := #[] }, { accessFlags := 25, nameIndex := 277, descriptorIndex := 25, attributes := #[] }, { accessFlags := 25, nameIndex := 280, descriptorIndex := 25, attributes := #[] }, { accessFlags := 25, nameIndex := 282, descriptorIndex := 25, attributes := #[] }, { accessFlags := 25, nameIndex := 284, descriptorIndex := 25, attributes := #[] }, { accessFlags := 25, nameIndex := 286, descriptorIndex := 25, attributes := #[] }, { accessFlags := 25, nameIndex := 288, descriptorIndex := 25, attributes := #[] }, { accessFlags := 25, nameIndex := 290, descriptorIndex := 25, attributes := #[] }, { accessFlags := 25, nameIndex := 292, descriptorIndex := 25, attributes := #[] }, { accessFlags := 26, nameIndex := 108, descriptorIndex := 109, attributes := #[] }, { accessFlags := 25, nameIndex := 294, descriptorIndex := 25, attributes := #[] }])
  fields := #[{ name := "U", type := (.object "jdk/internal/misc/Unsafe"), accessFlags := 24, slot := 0, constantValue := 0 }, { name := "BIG_ENDIAN", type := .boolean, accessFlags := 26, slot := 1, constantValue := 0 }, { name := "LOG2_ARRAY_BOOLEAN_INDEX_SCALE", type := .int, accessFlags := 25, slot := 2, constantValue := 0 }, { name := "LOG2_ARRAY_BYTE_INDEX_SCALE", type := .int, accessFlags := 25, slot := 3, constantValue := 0 }, { name := "LOG2_ARRAY_CHAR_INDEX_SCALE", type := .int, accessFlags := 25, slot := 4, constantValue := 0 }, { name := "LOG2_ARRAY_SHORT_INDEX_SCALE", type := .int, accessFlags := 25, slot := 5, constantValue := 0 }, { name := "LOG2_ARRAY_INT_INDEX_SCALE", type := .int, accessFlags := 25, slot := 6, constantValue := 0 }, { name := "LOG2_ARRAY_LONG_INDEX_SCALE", type := .int, accessFlags := 25, slot := 7, constantValue := 0 }, { name := "LOG2_ARRAY_FLOAT_INDEX_SCALE", type := .int, accessFlags := 25, slot := 8, constantValue := 0 }, { name := "LOG2_ARRAY_DOUBLE_INDEX_SCALE", type := .int, accessFlags := 25, slot := 9, constantValue := 0 }, { name := "LOG2_BYTE_BIT_SIZE", type := .int, accessFlags := 26, slot := 10, constantValue := 0 }, { name := "T_BOOLEAN", type := .int, accessFlags := 25, slot := 11, constantValue := 0 }, { name := "T_CHAR", type := .int, accessFlags := 25, slot := 12, constantValue := 0 }, { name := "T_FLOAT", type := .int, accessFlags := 25, slot := 13, constantValue := 0 }, { name := "T_DOUBLE", type := .int, accessFlags := 25, slot := 14, constantValue := 0 }, { name := "T_BYTE", type := .int, accessFlags := 25, slot := 15, constantValue := 0 }, { name := "T_SHORT", type := .int, accessFlags := 25, slot := 16, constantValue := 0 }, { name := "T_INT", type := .int, accessFlags := 25, slot := 17, constantValue := 0 }, { name := "T_LONG", type := .int, accessFlags := 25, slot := 18, constantValue := 0 }, { name := "JLA", type := (.object "jdk/internal/access/JavaLangAccess"), accessFlags := 26, slot := 19, constantValue := 0 }, { name := "SOFT_MAX_ARRAY_LENGTH", type := .int, accessFlags := 25, slot := 20, constantValue := 0 }]
  methods := #[k19m0]
  instanceTypes := #[]
  staticTypes := #[(.object "jdk/internal/misc/Unsafe"), .boolean, .int, .int, .int, .int, .int, .int, .int, .int, .int, .int, .int, .int, .int, .int, .int, .int, .int, (.object "jdk/internal/access/JavaLangAccess"), .int]
  resolved := Array.replicate 378 none
  statics := none }

def pool20 : Array CpInfo := pool [(1, u "java/lang/Cloneable"), (0, .class_ 1), (0, u "java/lang/Object"), (0, .class_ 3)] 3

/-- java/lang/Cloneable -/
def k20 : Class := { plain "java/lang/Cloneable" (some 0) with
  accessFlags := 1537
  interfaces := #[]
  cf := some (fileOf pool20 2 #[] #[] 1537 4 #[] #[])
  fields := #[]
  methods := #[]
  instanceTypes := #[]
  staticTypes := #[]
  resolved := Array.replicate 8 none
  statics := none }

/-- the primitive byte -/
def k21 : Class := { plain "byte" none with kind := .primitive 'B', accessFlags := 0x411 }
/-- [B -/
def k22 : Class := { plain "[B" (some 0) with kind := .array 21 .byte, interfaces := #[20, 2], accessFlags := 1041 }

/-- the primitive char -/
def k23 : Class := { plain "char" none with kind := .primitive 'C', accessFlags := 0x411 }
/-- [C -/
def k24 : Class := { plain "[C" (some 0) with kind := .array 23 .char, interfaces := #[20, 2], accessFlags := 1041 }

/-- the primitive int -/
def k25 : Class := { plain "int" none with kind := .primitive 'I', accessFlags := 0x411 }
/-- [I -/
def k26 : Class := { plain "[I" (some 0) with kind := .array 25 .int, interfaces := #[20, 2], accessFlags := 1041 }

def heap : Heap := #[{ cls := 7, slots := #[.long 0, .int 1, .null, .int 0, .null, .int 0, .int 0], vm := .statics 7 },
  { cls := 18, slots := #[.null, .null, .null], vm := .statics 18 }]
def classes : Array Class := #[k0, k1, k2, k3, k4, k5, k6, k7, k8, k9, k10, k11, k12, k13, k14, k15, k16, k17, k18, k19, k20, k21, k22, k23, k24, k25, k26]
def interned : List (Array UInt16 × Addr) := []
def slotsUsed : Nat := 10
def theMethod : MethodId := ⟨1, 1⟩
def args0 : Array Value := #[.int 5, .int 5, .int 5]
def aboutOver (below : List Frame) : State where
  vm := { classes := classes, interned := interned.toArray }
  heap := heap
  slotsUsed := slotsUsed
  threads := #[{ frames := .invoking theMethod args0 :: below }]
def below0 : List Frame := [.native { method := ⟨0, 0⟩, args := #[] }]
def about1 : State := aboutOver below0
def p0 : Program := .bare "" "" ""
def e0 : Env := launch0.env 0 0 0
theorem w_frames : about1.frames = Frame.invoking theMethod args0 :: below0 := rfl
set_option maxRecDepth 65536 in
theorem w_args : argsFit about1.vm theMethod args0 = true := by decide +kernel
set_option maxRecDepth 65536 in
theorem w_heap : heapFits about1 = true := by decide +kernel
set_option maxRecDepth 65536 in
theorem w_runnable : about1.curStatus? = some .runnable := by decide +kernel
set_option maxRecDepth 65536 in
theorem w_alone : about1.alone = true := by decide +kernel
set_option maxRecDepth 65536 in
theorem w_named : about1.methodNamed? x = some theMethod := by decide +kernel
set_option maxRecDepth 65536 in
theorem w_hears : about1.hears theMethod below0 = true := by decide +kernel
set_option maxRecDepth 65536 in
theorem w_ripe : about1.ripe theMethod args0 below0 = true := by decide +kernel
theorem w_running : about1.status = .running := rfl
set_option maxRecDepth 65536 in
theorem w_room : about1.hasRoom e0.platform room_1 = true :=
  launch0.hasRoom_least _ room_1 (by decide +kernel) (by decide +kernel) (by decide +kernel) (by decide +kernel) (by decide +kernel) (by decide +kernel)
theorem allAtoms_all (ts : List Jvm.Cond) (a : Array Jvm.Value) (st : Jvm.State) : (allAtoms ts).before a st = ts.all (fun c => c.before a st) := by
  induction ts with
  | nil => rfl
  | cons c t ih =>
    show (Jvm.Cond.and c (allAtoms t)).before a st = _
    rw [Jvm.Cond.before_and, ih, List.all_cons]
def words1 : List Jvm.Cond := Jvm.Cond.code x code maxLocals ret :: tables_1
/-- a 'code' word, met by the world's own term for the bytes: nothing is compared byte by byte -/
theorem code_word {y : MethodName} {bytes : ByteArray} {mx : Nat} {rt : Option FieldType} {a : Array Value} {s : State} {m : MethodId} {meth : Method} {c : Code} (h1 : s.methodNamed? y = some m) (h2 : s.vm.method? m = some meth) (h3 : meth.code = some c) (h4 : c.code = bytes)
    (h5 : (c.maxLocals == mx && c.exceptionTable.isEmpty && decide (c.maxStack ≤ mostOperands) && decide (meth.sig.returnType = rt) && !meth.locks && decide (parseMethodDescriptor y.desc = some meth.sig)) = true) : (Jvm.Cond.code y bytes mx rt).before a s = true := by
  simp only [Bool.and_eq_true, beq_iff_eq, Bool.not_eq_true', decide_eq_true_eq] at h5
  obtain ⟨⟨⟨⟨⟨g1, g2⟩, g3⟩, g4⟩, g5⟩, g6⟩ := h5
  simp [Cond.before, Cond.holds, Cond.value, h1, h2, h3, h4, g1, g2, g3, g4, g5, g6]
def isCode : Jvm.Cond → Bool
  | .code _ _ _ _ => true
  | _ => false
theorem all_split {L : List Jvm.Cond} {P : Jvm.Cond → Bool} (h1 : L.all (fun c => isCode c || P c) = true) (h2 : ∀ c ∈ L.filter isCode, P c = true) : L.all P = true := by
  refine List.all_eq_true.mpr fun c hc => ?_
  have h := List.all_eq_true.mp h1 c hc
  rcases Bool.eq_false_or_eq_true (isCode c) with hi | hi
  · exact h2 c (List.mem_filter.mpr ⟨hc, hi⟩)
  · simpa [hi] using h
set_option maxRecDepth 65536 in
theorem w_c0 : (Jvm.Cond.code x code maxLocals ret).before args0 about1 = true := code_word (m := ⟨1, 1⟩) (meth := k1m1) (c := k1c1) (by decide +kernel) rfl rfl rfl (by decide +kernel)
set_option maxRecDepth 65536 in
theorem w_c1 : (Jvm.Cond.code ({ cls := "com/example/postback/postback/aurpay/AurpaySignatureSignedStringPinLaw", name := "make", desc := "(ICCC)Ljava/lang/String;" } : Jvm.MethodName) method_3_code (4 : Nat) (Option.some (Jvm.ClassFile.FieldType.object "java/lang/String"))).before args0 about1 = true := code_word (m := ⟨1, 2⟩) (meth := k1m2) (c := k1c2) (by decide +kernel) rfl rfl rfl (by decide +kernel)
set_option maxRecDepth 65536 in
theorem w_c2 : (Jvm.Cond.code ({ cls := "java/lang/String", name := "<init>", desc := "([C)V" } : Jvm.MethodName) jdk_42_method_3_code (2 : Nat) (Option.none : Option Jvm.ClassFile.FieldType)).before args0 about1 = true := code_word (m := ⟨7, 1⟩) (meth := k7m1) (c := k7c1) (by decide +kernel) rfl rfl rfl (by decide +kernel)
set_option maxRecDepth 65536 in
theorem w_c3 : (Jvm.Cond.code ({ cls := "java/lang/String", name := "<init>", desc := "([CIILjava/lang/Void;)V" } : Jvm.MethodName) jdk_42_method_149_code (6 : Nat) (Option.none : Option Jvm.ClassFile.FieldType)).before args0 about1 = true := code_word (m := ⟨7, 6⟩) (meth := k7m6) (c := k7c6) (by decide +kernel) rfl rfl rfl (by decide +kernel)
set_option maxRecDepth 65536 in
theorem w_c4 : (Jvm.Cond.code ({ cls := "java/lang/Object", name := "<init>", desc := "()V" } : Jvm.MethodName) object_method_1_code (1 : Nat) (Option.none : Option Jvm.ClassFile.FieldType)).before args0 about1 = true := code_word (m := ⟨0, 0⟩) (meth := k0m0) (c := k0c0) (by decide +kernel) rfl rfl rfl (by decide +kernel)
set_option maxRecDepth 65536 in
theorem w_c5 : (Jvm.Cond.code ({ cls := "java/lang/StringUTF16", name := "compress", desc := "([CII)[B" } : Jvm.MethodName) jdk_52_method_16_code (6 : Nat) (Option.some (Jvm.ClassFile.FieldType.array Jvm.ClassFile.FieldType.byte))).before args0 about1 = true := code_word (m := ⟨8, 2⟩) (meth := k8m2) (c := k8c2) (by decide +kernel) rfl rfl rfl (by decide +kernel)
set_option maxRecDepth 65536 in
theorem w_c6 : (Jvm.Cond.code ({ cls := "java/lang/StringUTF16", name := "compress", desc := "([CI[BII)I" } : Jvm.MethodName) jdk_52_method_21_code (7 : Nat) (Option.some Jvm.ClassFile.FieldType.int)).before args0 about1 = true := code_word (m := ⟨8, 3⟩) (meth := k8m3) (c := k8c3) (by decide +kernel) rfl rfl rfl (by decide +kernel)
set_option maxRecDepth 65536 in
theorem w_c7 : (Jvm.Cond.code ({ cls := "java/lang/StringUTF16", name := "coderFromArrayLen", desc := "([BI)B" } : Jvm.MethodName) jdk_52_method_15_code (2 : Nat) (Option.some Jvm.ClassFile.FieldType.byte)).before args0 about1 = true := code_word (m := ⟨8, 1⟩) (meth := k8m1) (c := k8c1) (by decide +kernel) rfl rfl rfl (by decide +kernel)
set_option maxRecDepth 65536 in
theorem w_c8 : (Jvm.Cond.code ({ cls := "com/example/postback/postback/aurpay/AurpaySignature", name := "signedString", desc := "(Ljava/lang/String;Ljava/lang/String;)Ljava/lang/String;" } : Jvm.MethodName) prog_11_method_2_code (2 : Nat) (Option.some (Jvm.ClassFile.FieldType.object "java/lang/String"))).before args0 about1 = true := code_word (m := ⟨9, 0⟩) (meth := k9m0) (c := k9c0) (by decide +kernel) rfl rfl rfl (by decide +kernel)
set_option maxRecDepth 65536 in
theorem w_c9 : (Jvm.Cond.code ({ cls := "java/lang/StringBuilder", name := "<init>", desc := "()V" } : Jvm.MethodName) jdk_67_method_1_code (1 : Nat) (Option.none : Option Jvm.ClassFile.FieldType)).before args0 about1 = true := code_word (m := ⟨12, 0⟩) (meth := k12m0) (c := k12c0) (by decide +kernel) rfl rfl rfl (by decide +kernel)
set_option maxRecDepth 65536 in
theorem w_c10 : (Jvm.Cond.code ({ cls := "java/lang/AbstractStringBuilder", name := "<init>", desc := "(I)V" } : Jvm.MethodName) jdk_68_method_2_code (2 : Nat) (Option.none : Option Jvm.ClassFile.FieldType)).before args0 about1 = true := code_word (m := ⟨11, 1⟩) (meth := k11m1) (c := k11c1) (by decide +kernel) rfl rfl rfl (by decide +kernel)
set_option maxRecDepth 65536 in
theorem w_c11 : (Jvm.Cond.code ({ cls := "java/util/Objects", name := "requireNonNull", desc := "(Ljava/lang/Object;Ljava/lang/String;)Ljava/lang/Object;" } : Jvm.MethodName) jdk_31_method_11_code (2 : Nat) (Option.some (Jvm.ClassFile.FieldType.object "java/lang/Object"))).before args0 about1 = true := code_word (m := ⟨13, 1⟩) (meth := k13m1) (c := k13c1) (by decide +kernel) rfl rfl rfl (by decide +kernel)
set_option maxRecDepth 65536 in
theorem w_c12 : (Jvm.Cond.code ({ cls := "java/lang/StringBuilder", name := "append", desc := "(Ljava/lang/String;)Ljava/lang/StringBuilder;" } : Jvm.MethodName) jdk_67_method_7_code (2 : Nat) (Option.some (Jvm.ClassFile.FieldType.object "java/lang/StringBuilder"))).before args0 about1 = true := code_word (m := ⟨12, 1⟩) (meth := k12m1) (c := k12c1) (by decide +kernel) rfl rfl rfl (by decide +kernel)
set_option maxRecDepth 65536 in
theorem w_c13 : (Jvm.Cond.code ({ cls := "java/lang/AbstractStringBuilder", name := "append", desc := "(Ljava/lang/String;)Ljava/lang/AbstractStringBuilder;" } : Jvm.MethodName) jdk_68_method_22_code (3 : Nat) (Option.some (Jvm.ClassFile.FieldType.object "java/lang/AbstractStringBuilder"))).before args0 about1 = true := code_word (m := ⟨11, 4⟩) (meth := k11m4) (c := k11c4) (by decide +kernel) rfl rfl rfl (by decide +kernel)
set_option maxRecDepth 65536 in
theorem w_c14 : (Jvm.Cond.code ({ cls := "java/lang/String", name := "length", desc := "()I" } : Jvm.MethodName) jdk_42_method_54_code (1 : Nat) (Option.some Jvm.ClassFile.FieldType.int)).before args0 about1 = true := code_word (m := ⟨7, 3⟩) (meth := k7m3) (c := k7c3) (by decide +kernel) rfl rfl rfl (by decide +kernel)
set_option maxRecDepth 65536 in
theorem w_c15 : (Jvm.Cond.code ({ cls := "java/lang/String", name := "coder", desc := "()B" } : Jvm.MethodName) jdk_42_method_152_code (1 : Nat) (Option.some Jvm.ClassFile.FieldType.byte)).before args0 about1 = true := code_word (m := ⟨7, 8⟩) (meth := k7m8) (c := k7c8) (by decide +kernel) rfl rfl rfl (by decide +kernel)
set_option maxRecDepth 65536 in
theorem w_c16 : (Jvm.Cond.code ({ cls := "java/lang/AbstractStringBuilder", name := "ensureCapacityInternal", desc := "(I)V" } : Jvm.MethodName) jdk_68_method_9_code (3 : Nat) (Option.none : Option Jvm.ClassFile.FieldType)).before args0 about1 = true := code_word (m := ⟨11, 3⟩) (meth := k11m3) (c := k11c3) (by decide +kernel) rfl rfl rfl (by decide +kernel)
set_option maxRecDepth 65536 in
theorem w_c17 : (Jvm.Cond.code ({ cls := "java/lang/AbstractStringBuilder", name := "putStringAt", desc := "(ILjava/lang/String;)V" } : Jvm.MethodName) jdk_68_method_73_code (3 : Nat) (Option.none : Option Jvm.ClassFile.FieldType)).before args0 about1 = true := code_word (m := ⟨11, 8⟩) (meth := k11m8) (c := k11c8) (by decide +kernel) rfl rfl rfl (by decide +kernel)
set_option maxRecDepth 65536 in
theorem w_c18 : (Jvm.Cond.code ({ cls := "java/lang/AbstractStringBuilder", name := "inflateIfNeededFor", desc := "(Ljava/lang/String;)V" } : Jvm.MethodName) jdk_68_method_71_code (2 : Nat) (Option.none : Option Jvm.ClassFile.FieldType)).before args0 about1 = true := code_word (m := ⟨11, 7⟩) (meth := k11m7) (c := k11c7) (by decide +kernel) rfl rfl rfl (by decide +kernel)
set_option maxRecDepth 65536 in
theorem w_c19 : (Jvm.Cond.code ({ cls := "java/lang/String", name := "getBytes", desc := "([BIB)V" } : Jvm.MethodName) jdk_42_method_147_code (4 : Nat) (Option.none : Option Jvm.ClassFile.FieldType)).before args0 about1 = true := code_word (m := ⟨7, 5⟩) (meth := k7m5) (c := k7c5) (by decide +kernel) rfl rfl rfl (by decide +kernel)
set_option maxRecDepth 65536 in
theorem w_c20 : (Jvm.Cond.code ({ cls := "java/lang/StringBuilder", name := "toString", desc := "()Ljava/lang/String;" } : Jvm.MethodName) jdk_67_method_42_code (1 : Nat) (Option.some (Jvm.ClassFile.FieldType.object "java/lang/String"))).before args0 about1 = true := code_word (m := ⟨12, 2⟩) (meth := k12m2) (c := k12c2) (by decide +kernel) rfl rfl rfl (by decide +kernel)
set_option maxRecDepth 65536 in
theorem w_c21 : (Jvm.Cond.code ({ cls := "java/lang/String", name := "<init>", desc := "(Ljava/lang/StringBuilder;)V" } : Jvm.MethodName) jdk_42_method_53_code (2 : Nat) (Option.none : Option Jvm.ClassFile.FieldType)).before args0 about1 = true := code_word (m := ⟨7, 2⟩) (meth := k7m2) (c := k7c2) (by decide +kernel) rfl rfl rfl (by decide +kernel)
set_option maxRecDepth 65536 in
theorem w_c22 : (Jvm.Cond.code ({ cls := "java/lang/String", name := "<init>", desc := "(Ljava/lang/AbstractStringBuilder;Ljava/lang/Void;)V" } : Jvm.MethodName) jdk_42_method_150_code (5 : Nat) (Option.none : Option Jvm.ClassFile.FieldType)).before args0 about1 = true := code_word (m := ⟨7, 7⟩) (meth := k7m7) (c := k7c7) (by decide +kernel) rfl rfl rfl (by decide +kernel)
set_option maxRecDepth 65536 in
theorem w_c23 : (Jvm.Cond.code ({ cls := "java/lang/AbstractStringBuilder", name := "getValue", desc := "()[B" } : Jvm.MethodName) jdk_68_method_64_code (1 : Nat) (Option.some (Jvm.ClassFile.FieldType.array Jvm.ClassFile.FieldType.byte))).before args0 about1 = true := code_word (m := ⟨11, 5⟩) (meth := k11m5) (c := k11c5) (by decide +kernel) rfl rfl rfl (by decide +kernel)
set_option maxRecDepth 65536 in
theorem w_c24 : (Jvm.Cond.code ({ cls := "java/lang/StringBuilder", name := "length", desc := "()I" } : Jvm.MethodName) jdk_67_method_93_code (1 : Nat) (Option.some Jvm.ClassFile.FieldType.int)).before args0 about1 = true := code_word (m := ⟨12, 3⟩) (meth := k12m3) (c := k12c3) (by decide +kernel) rfl rfl rfl (by decide +kernel)
set_option maxRecDepth 65536 in
theorem w_c25 : (Jvm.Cond.code ({ cls := "java/lang/AbstractStringBuilder", name := "length", desc := "()I" } : Jvm.MethodName) jdk_68_method_6_code (1 : Nat) (Option.some Jvm.ClassFile.FieldType.int)).before args0 about1 = true := code_word (m := ⟨11, 2⟩) (meth := k11m2) (c := k11c2) (by decide +kernel) rfl rfl rfl (by decide +kernel)
set_option maxRecDepth 65536 in
theorem w_c26 : (Jvm.Cond.code ({ cls := "java/lang/AbstractStringBuilder", name := "isLatin1", desc := "()Z" } : Jvm.MethodName) jdk_68_method_68_code (1 : Nat) (Option.some Jvm.ClassFile.FieldType.boolean)).before args0 about1 = true := code_word (m := ⟨11, 6⟩) (meth := k11m6) (c := k11c6) (by decide +kernel) rfl rfl rfl (by decide +kernel)
set_option maxRecDepth 65536 in
theorem w_c27 : (Jvm.Cond.code ({ cls := "java/util/Arrays", name := "copyOfRange", desc := "([BII)[B" } : Jvm.MethodName) jdk_65_method_132_code (3 : Nat) (Option.some (Jvm.ClassFile.FieldType.array Jvm.ClassFile.FieldType.byte))).before args0 about1 = true := code_word (m := ⟨15, 2⟩) (meth := k15m2) (c := k15c2) (by decide +kernel) rfl rfl rfl (by decide +kernel)
set_option maxRecDepth 65536 in
theorem w_c28 : (Jvm.Cond.code ({ cls := "java/util/Arrays", name := "copyOfRangeByte", desc := "([BII)[B" } : Jvm.MethodName) jdk_65_method_133_code (5 : Nat) (Option.some (Jvm.ClassFile.FieldType.array Jvm.ClassFile.FieldType.byte))).before args0 about1 = true := code_word (m := ⟨15, 3⟩) (meth := k15m3) (c := k15c3) (by decide +kernel) rfl rfl rfl (by decide +kernel)
set_option maxRecDepth 65536 in
theorem w_c29 : (Jvm.Cond.code ({ cls := "java/util/Arrays", name := "checkLength", desc := "(II)V" } : Jvm.MethodName) jdk_65_method_131_code (2 : Nat) (Option.none : Option Jvm.ClassFile.FieldType)).before args0 about1 = true := code_word (m := ⟨15, 1⟩) (meth := k15m1) (c := k15c1) (by decide +kernel) rfl rfl rfl (by decide +kernel)
set_option maxRecDepth 65536 in
theorem w_c30 : (Jvm.Cond.code ({ cls := "java/lang/Math", name := "min", desc := "(II)I" } : Jvm.MethodName) jdk_29_method_69_code (2 : Nat) (Option.some Jvm.ClassFile.FieldType.int)).before args0 about1 = true := code_word (m := ⟨16, 1⟩) (meth := k16m1) (c := k16c1) (by decide +kernel) rfl rfl rfl (by decide +kernel)
set_option maxRecDepth 65536 in
theorem w_c31 : (Jvm.Cond.code ({ cls := "com/example/postback/postback/aurpay/AurpaySignatureSignedStringPinLaw", name := "chk", desc := "(Ljava/lang/String;IICCC)Z" } : Jvm.MethodName) method_4_code (6 : Nat) (Option.some Jvm.ClassFile.FieldType.boolean)).before args0 about1 = true := code_word (m := ⟨1, 3⟩) (meth := k1m3) (c := k1c3) (by decide +kernel) rfl rfl rfl (by decide +kernel)
set_option maxRecDepth 65536 in
theorem w_c32 : (Jvm.Cond.code ({ cls := "java/lang/String", name := "charAt", desc := "(I)C" } : Jvm.MethodName) jdk_42_method_56_code (2 : Nat) (Option.some Jvm.ClassFile.FieldType.char)).before args0 about1 = true := code_word (m := ⟨7, 4⟩) (meth := k7m4) (c := k7c4) (by decide +kernel) rfl rfl rfl (by decide +kernel)
set_option maxRecDepth 65536 in
theorem w_c33 : (Jvm.Cond.code ({ cls := "java/lang/String", name := "isLatin1", desc := "()Z" } : Jvm.MethodName) jdk_42_method_154_code (1 : Nat) (Option.some Jvm.ClassFile.FieldType.boolean)).before args0 about1 = true := code_word (m := ⟨7, 9⟩) (meth := k7m9) (c := k7c9) (by decide +kernel) rfl rfl rfl (by decide +kernel)
set_option maxRecDepth 65536 in
theorem w_c34 : (Jvm.Cond.code ({ cls := "java/lang/StringLatin1", name := "charAt", desc := "([BI)C" } : Jvm.MethodName) jdk_43_method_2_code (2 : Nat) (Option.some Jvm.ClassFile.FieldType.char)).before args0 about1 = true := code_word (m := ⟨17, 1⟩) (meth := k17m1) (c := k17c1) (by decide +kernel) rfl rfl rfl (by decide +kernel)
set_option maxRecDepth 65536 in
theorem w_c35 : (Jvm.Cond.code ({ cls := "java/lang/String", name := "checkIndex", desc := "(II)V" } : Jvm.MethodName) jdk_42_method_155_code (2 : Nat) (Option.none : Option Jvm.ClassFile.FieldType)).before args0 about1 = true := code_word (m := ⟨7, 10⟩) (meth := k7m10) (c := k7c10) (by decide +kernel) rfl rfl rfl (by decide +kernel)
set_option maxRecDepth 65536 in
theorem w_c36 : (Jvm.Cond.code ({ cls := "jdk/internal/util/Preconditions", name := "checkIndex", desc := "(IILjava/util/function/BiFunction;)I" } : Jvm.MethodName) jdk_41_method_11_code (3 : Nat) (Option.some Jvm.ClassFile.FieldType.int)).before args0 about1 = true := code_word (m := ⟨18, 1⟩) (meth := k18m1) (c := k18c1) (by decide +kernel) rfl rfl rfl (by decide +kernel)
def codes1 : List Jvm.Cond := [Jvm.Cond.code x code maxLocals ret, Jvm.Cond.code ({ cls := "com/example/postback/postback/aurpay/AurpaySignatureSignedStringPinLaw", name := "make", desc := "(ICCC)Ljava/lang/String;" } : Jvm.MethodName) method_3_code (4 : Nat) (Option.some (Jvm.ClassFile.FieldType.object "java/lang/String")), Jvm.Cond.code ({ cls := "java/lang/String", name := "<init>", desc := "([C)V" } : Jvm.MethodName) jdk_42_method_3_code (2 : Nat) (Option.none : Option Jvm.ClassFile.FieldType), Jvm.Cond.code ({ cls := "java/lang/String", name := "<init>", desc := "([CIILjava/lang/Void;)V" } : Jvm.MethodName) jdk_42_method_149_code (6 : Nat) (Option.none : Option Jvm.ClassFile.FieldType), Jvm.Cond.code ({ cls := "java/lang/Object", name := "<init>", desc := "()V" } : Jvm.MethodName) object_method_1_code (1 : Nat) (Option.none : Option Jvm.ClassFile.FieldType), Jvm.Cond.code ({ cls := "java/lang/StringUTF16", name := "compress", desc := "([CII)[B" } : Jvm.MethodName) jdk_52_method_16_code (6 : Nat) (Option.some (Jvm.ClassFile.FieldType.array Jvm.ClassFile.FieldType.byte)), Jvm.Cond.code ({ cls := "java/lang/StringUTF16", name := "compress", desc := "([CI[BII)I" } : Jvm.MethodName) jdk_52_method_21_code (7 : Nat) (Option.some Jvm.ClassFile.FieldType.int), Jvm.Cond.code ({ cls := "java/lang/StringUTF16", name := "coderFromArrayLen", desc := "([BI)B" } : Jvm.MethodName) jdk_52_method_15_code (2 : Nat) (Option.some Jvm.ClassFile.FieldType.byte), Jvm.Cond.code ({ cls := "com/example/postback/postback/aurpay/AurpaySignature", name := "signedString", desc := "(Ljava/lang/String;Ljava/lang/String;)Ljava/lang/String;" } : Jvm.MethodName) prog_11_method_2_code (2 : Nat) (Option.some (Jvm.ClassFile.FieldType.object "java/lang/String")), Jvm.Cond.code ({ cls := "java/lang/StringBuilder", name := "<init>", desc := "()V" } : Jvm.MethodName) jdk_67_method_1_code (1 : Nat) (Option.none : Option Jvm.ClassFile.FieldType), Jvm.Cond.code ({ cls := "java/lang/AbstractStringBuilder", name := "<init>", desc := "(I)V" } : Jvm.MethodName) jdk_68_method_2_code (2 : Nat) (Option.none : Option Jvm.ClassFile.FieldType), Jvm.Cond.code ({ cls := "java/util/Objects", name := "requireNonNull", desc := "(Ljava/lang/Object;Ljava/lang/String;)Ljava/lang/Object;" } : Jvm.MethodName) jdk_31_method_11_code (2 : Nat) (Option.some (Jvm.ClassFile.FieldType.object "java/lang/Object")), Jvm.Cond.code ({ cls := "java/lang/StringBuilder", name := "append", desc := "(Ljava/lang/String;)Ljava/lang/StringBuilder;" } : Jvm.MethodName) jdk_67_method_7_code (2 : Nat) (Option.some (Jvm.ClassFile.FieldType.object "java/lang/StringBuilder")), Jvm.Cond.code ({ cls := "java/lang/AbstractStringBuilder", name := "append", desc := "(Ljava/lang/String;)Ljava/lang/AbstractStringBuilder;" } : Jvm.MethodName) jdk_68_method_22_code (3 : Nat) (Option.some (Jvm.ClassFile.FieldType.object "java/lang/AbstractStringBuilder")), Jvm.Cond.code ({ cls := "java/lang/String", name := "length", desc := "()I" } : Jvm.MethodName) jdk_42_method_54_code (1 : Nat) (Option.some Jvm.ClassFile.FieldType.int), Jvm.Cond.code ({ cls := "java/lang/String", name := "coder", desc := "()B" } : Jvm.MethodName) jdk_42_method_152_code (1 : Nat) (Option.some Jvm.ClassFile.FieldType.byte), Jvm.Cond.code ({ cls := "java/lang/AbstractStringBuilder", name := "ensureCapacityInternal", desc := "(I)V" } : Jvm.MethodName) jdk_68_method_9_code (3 : Nat) (Option.none : Option Jvm.ClassFile.FieldType), Jvm.Cond.code ({ cls := "java/lang/AbstractStringBuilder", name := "putStringAt", desc := "(ILjava/lang/String;)V" } : Jvm.MethodName) jdk_68_method_73_code (3 : Nat) (Option.none : Option Jvm.ClassFile.FieldType), Jvm.Cond.code ({ cls := "java/lang/AbstractStringBuilder", name := "inflateIfNeededFor", desc := "(Ljava/lang/String;)V" } : Jvm.MethodName) jdk_68_method_71_code (2 : Nat) (Option.none : Option Jvm.ClassFile.FieldType), Jvm.Cond.code ({ cls := "java/lang/String", name := "getBytes", desc := "([BIB)V" } : Jvm.MethodName) jdk_42_method_147_code (4 : Nat) (Option.none : Option Jvm.ClassFile.FieldType), Jvm.Cond.code ({ cls := "java/lang/StringBuilder", name := "toString", desc := "()Ljava/lang/String;" } : Jvm.MethodName) jdk_67_method_42_code (1 : Nat) (Option.some (Jvm.ClassFile.FieldType.object "java/lang/String")), Jvm.Cond.code ({ cls := "java/lang/String", name := "<init>", desc := "(Ljava/lang/StringBuilder;)V" } : Jvm.MethodName) jdk_42_method_53_code (2 : Nat) (Option.none : Option Jvm.ClassFile.FieldType), Jvm.Cond.code ({ cls := "java/lang/String", name := "<init>", desc := "(Ljava/lang/AbstractStringBuilder;Ljava/lang/Void;)V" } : Jvm.MethodName) jdk_42_method_150_code (5 : Nat) (Option.none : Option Jvm.ClassFile.FieldType), Jvm.Cond.code ({ cls := "java/lang/AbstractStringBuilder", name := "getValue", desc := "()[B" } : Jvm.MethodName) jdk_68_method_64_code (1 : Nat) (Option.some (Jvm.ClassFile.FieldType.array Jvm.ClassFile.FieldType.byte)), Jvm.Cond.code ({ cls := "java/lang/StringBuilder", name := "length", desc := "()I" } : Jvm.MethodName) jdk_67_method_93_code (1 : Nat) (Option.some Jvm.ClassFile.FieldType.int), Jvm.Cond.code ({ cls := "java/lang/AbstractStringBuilder", name := "length", desc := "()I" } : Jvm.MethodName) jdk_68_method_6_code (1 : Nat) (Option.some Jvm.ClassFile.FieldType.int), Jvm.Cond.code ({ cls := "java/lang/AbstractStringBuilder", name := "isLatin1", desc := "()Z" } : Jvm.MethodName) jdk_68_method_68_code (1 : Nat) (Option.some Jvm.ClassFile.FieldType.boolean), Jvm.Cond.code ({ cls := "java/util/Arrays", name := "copyOfRange", desc := "([BII)[B" } : Jvm.MethodName) jdk_65_method_132_code (3 : Nat) (Option.some (Jvm.ClassFile.FieldType.array Jvm.ClassFile.FieldType.byte)), Jvm.Cond.code ({ cls := "java/util/Arrays", name := "copyOfRangeByte", desc := "([BII)[B" } : Jvm.MethodName) jdk_65_method_133_code (5 : Nat) (Option.some (Jvm.ClassFile.FieldType.array Jvm.ClassFile.FieldType.byte)), Jvm.Cond.code ({ cls := "java/util/Arrays", name := "checkLength", desc := "(II)V" } : Jvm.MethodName) jdk_65_method_131_code (2 : Nat) (Option.none : Option Jvm.ClassFile.FieldType), Jvm.Cond.code ({ cls := "java/lang/Math", name := "min", desc := "(II)I" } : Jvm.MethodName) jdk_29_method_69_code (2 : Nat) (Option.some Jvm.ClassFile.FieldType.int), Jvm.Cond.code ({ cls := "com/example/postback/postback/aurpay/AurpaySignatureSignedStringPinLaw", name := "chk", desc := "(Ljava/lang/String;IICCC)Z" } : Jvm.MethodName) method_4_code (6 : Nat) (Option.some Jvm.ClassFile.FieldType.boolean), Jvm.Cond.code ({ cls := "java/lang/String", name := "charAt", desc := "(I)C" } : Jvm.MethodName) jdk_42_method_56_code (2 : Nat) (Option.some Jvm.ClassFile.FieldType.char), Jvm.Cond.code ({ cls := "java/lang/String", name := "isLatin1", desc := "()Z" } : Jvm.MethodName) jdk_42_method_154_code (1 : Nat) (Option.some Jvm.ClassFile.FieldType.boolean), Jvm.Cond.code ({ cls := "java/lang/StringLatin1", name := "charAt", desc := "([BI)C" } : Jvm.MethodName) jdk_43_method_2_code (2 : Nat) (Option.some Jvm.ClassFile.FieldType.char), Jvm.Cond.code ({ cls := "java/lang/String", name := "checkIndex", desc := "(II)V" } : Jvm.MethodName) jdk_42_method_155_code (2 : Nat) (Option.none : Option Jvm.ClassFile.FieldType), Jvm.Cond.code ({ cls := "jdk/internal/util/Preconditions", name := "checkIndex", desc := "(IILjava/util/function/BiFunction;)I" } : Jvm.MethodName) jdk_41_method_11_code (3 : Nat) (Option.some Jvm.ClassFile.FieldType.int)]
set_option maxRecDepth 65536 in
theorem codes_eq : words1.filter isCode = codes1 := rfl
theorem w_codes : ∀ c ∈ words1.filter isCode, c.before args0 about1 = true := by
  rw [codes_eq]
  intro c hc
  simp only [codes1, List.mem_cons, List.not_mem_nil, or_false] at hc
  rcases hc with rfl | rfl | rfl | rfl | rfl | rfl | rfl | rfl | rfl | rfl | rfl | rfl | rfl | rfl | rfl | rfl | rfl | rfl | rfl | rfl | rfl | rfl | rfl | rfl | rfl | rfl | rfl | rfl | rfl | rfl | rfl | rfl | rfl | rfl | rfl | rfl | rfl
  · exact w_c0
  · exact w_c1
  · exact w_c2
  · exact w_c3
  · exact w_c4
  · exact w_c5
  · exact w_c6
  · exact w_c7
  · exact w_c8
  · exact w_c9
  · exact w_c10
  · exact w_c11
  · exact w_c12
  · exact w_c13
  · exact w_c14
  · exact w_c15
  · exact w_c16
  · exact w_c17
  · exact w_c18
  · exact w_c19
  · exact w_c20
  · exact w_c21
  · exact w_c22
  · exact w_c23
  · exact w_c24
  · exact w_c25
  · exact w_c26
  · exact w_c27
  · exact w_c28
  · exact w_c29
  · exact w_c30
  · exact w_c31
  · exact w_c32
  · exact w_c33
  · exact w_c34
  · exact w_c35
  · exact w_c36
set_option maxRecDepth 65536 in
theorem w_t1 : (words1.take 24).all (fun c => isCode c || c.before args0 about1) = true := by decide +kernel
set_option maxRecDepth 65536 in
theorem w_t2 : ((words1.drop 24).take 24).all (fun c => isCode c || c.before args0 about1) = true := by decide +kernel
set_option maxRecDepth 65536 in
theorem w_t3 : (((words1.drop 24).drop 24).take 24).all (fun c => isCode c || c.before args0 about1) = true := by decide +kernel
set_option maxRecDepth 65536 in
theorem w_t4 : ((((words1.drop 24).drop 24).drop 24).take 24).all (fun c => isCode c || c.before args0 about1) = true := by decide +kernel
set_option maxRecDepth 65536 in
theorem w_t5 : (((((words1.drop 24).drop 24).drop 24).drop 24).take 24).all (fun c => isCode c || c.before args0 about1) = true := by decide +kernel
set_option maxRecDepth 65536 in
theorem w_t6 : ((((((words1.drop 24).drop 24).drop 24).drop 24).drop 24).take 24).all (fun c => isCode c || c.before args0 about1) = true := by decide +kernel
set_option maxRecDepth 65536 in
theorem w_t7 : (((((((words1.drop 24).drop 24).drop 24).drop 24).drop 24).drop 24).take 24).all (fun c => isCode c || c.before args0 about1) = true := by decide +kernel
set_option maxRecDepth 65536 in
theorem w_t8 : (((((((words1.drop 24).drop 24).drop 24).drop 24).drop 24).drop 24).drop 24).all (fun c => isCode c || c.before args0 about1) = true := by decide +kernel
theorem w_tables : (allAtoms (Jvm.Cond.code x code maxLocals ret :: tables_1)).before args0 about1 = true := by
  rw [allAtoms_all]
  show words1.all (fun c => c.before args0 about1) = true
  refine all_split ?_ w_codes
  rw [← List.take_append_drop 24 words1, List.all_append, w_t1, ← List.take_append_drop 24 (words1.drop 24), List.all_append, w_t2, ← List.take_append_drop 24 ((words1.drop 24).drop 24), List.all_append, w_t3, ← List.take_append_drop 24 (((words1.drop 24).drop 24).drop 24), List.all_append, w_t4, ← List.take_append_drop 24 ((((words1.drop 24).drop 24).drop 24).drop 24), List.all_append, w_t5, ← List.take_append_drop 24 (((((words1.drop 24).drop 24).drop 24).drop 24).drop 24), List.all_append, w_t6, ← List.take_append_drop 24 ((((((words1.drop 24).drop 24).drop 24).drop 24).drop 24).drop 24), List.all_append, w_t7, w_t8]
  rfl
set_option maxRecDepth 65536 in
theorem w_rest : rest_1_c.before args0 about1 = true := by decide +kernel
set_option maxRecDepth 65536 in
theorem w_case : (Jvm.Cond.and given_1 narrow_1).before args0 about1 = true := by decide +kernel
set_option maxRecDepth 65536 in
theorem w_consts : constsHeld consts_1 about1 := Jvm.Lit.constsHeldB_iff.mp (by decide +kernel)
theorem w_applies : (headSpec (Jvm.Cond.code x code maxLocals ret :: tables_1) room_1).applies x e0.platform about1 = true :=
  (Spec.applies_iff w_frames).mpr ⟨w_running, w_runnable, w_alone, w_named, w_hears, w_ripe, w_room, w_tables⟩
theorem atStart : AtStart classFile x code maxLocals ret World_1 tables_1 room_1 Calls_1 rest_1 Pre_1 launch0 p0 e0 about1 theMethod args0 below0 :=
  ⟨lists_1, trivial, launch0.admits_env _ _ _, launch0.least_env, fairChoices_fair.cas, fairChoices_fair.clock, w_frames, w_args, w_heap, w_applies, ⟨w_consts, trivial⟩, w_rest, w_case⟩
end start1
theorem witness_1 : WitnessClaimed_1 := ⟨start1.p0, start1.e0, start1.about1, start1.theMethod, start1.args0, start1.below0, start1.atStart⟩
end Jvm.Pilot.@@N@@
